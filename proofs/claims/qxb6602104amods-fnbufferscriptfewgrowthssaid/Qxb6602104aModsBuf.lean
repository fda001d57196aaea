/-
  store.ZZbuffer (7) over store.buffer (9): two contracts: there is room; it grows.
-/
import Derived.Test.Qxb6602104aModsRows
import Derived.WalkKit
import Derived.ProofKit
import Derived.OpenShut
import Derived.WalkSpells
namespace Go.Proofs.Qxb6602104aMods
open Go.ChangeShapes Go.WideShapes Go.ChangeAt Go.RowKit

theorem hid {p : Prop} (h : p) : Hid p := h
theorem info5 : (Trym.prog.info? 5).map (fun i => (i.zero, i.size, i.bytes)) = some (some (.int .u8 0), 1, 1) := by kernel_rfl
theorem elem22 : Trym.prog.underlying 22 = some (.slice (Trym.prog.elem 22)) := by kernel_rfl

/-- '(*b)[:n]', n within the room. -/
theorem cut_run (ao : Option Addr) (ln c : Nat) (n : Int) (h0 : 0 ≤ n) (h1 : n ≤ c) (w : World) :
    (Instr.slice 22 (.slice ao ln c) none (some (.int .i64 n)) none).run Trym.prog w = .ok (.slice ao n.toNat c) w := by
  rw [run_slice_h (P := Trym.prog) w 22 ao ln c elem22 .i64 n h0 h1]
  obtain ⟨i0, hi, hz0, hz1, hz2⟩ := info_parts info5
  have he : Trym.prog.elem 22 = 5 := by kernel_rfl
  rw [he]
  simp [sizeOf, typeInfo, hi, hz1, sliced]
  intro _
  cases ao with
  | none => rfl
  | some a => simp [Addr.add]

/-- 'make([]byte, n, z)'. -/
theorem mk_run (n z : Int) (h0 : 0 ≤ n) (h1 : n ≤ z) (h2 : z ≤ 1048576) : ∃ M : Array Value, M.size = z.toNat ∧ ∀ w : World,
    (Instr.makeSlice 22 (.int .i64 n) (.int .i64 z)).run Trym.prog w = .ok (.slice (some ⟨w.heap.size, 0, none⟩) n.toNat z.toNat) (w.alloc (.cells M 5)) := by
  obtain ⟨i0, hi, hz0, hz1, hz2⟩ := info_parts info5
  exact ⟨_, by rw [size_madeCells, hz1, Nat.mul_one], fun w => run_make w 22 5 i0 (.int .u8 0) Trym.underlying22 hi hz0 .i64 .i64 n z h0 h1 (by rw [hz2]; omega) (by omega)⟩

set_option maxHeartbeats 400000 in
theorem buf_fit (p : Nat) (ao : Option Addr) (ln c : Nat) (n : Int) (h0 : 0 ≤ n) (h1 : n ≤ c) (w : World) (hc : w.cell? ⟨p, 0, none⟩ = some (.slice ao ln c)) :
    Calls Trym.prog 7 #[.pointer (some ⟨p, 0, none⟩), .int .i64 n] w fun e w' => e = .returned (.slice ao n.toNat c) ∧ w' = w := by
  have hcut := cut_run ao ln c n h0 h1
  have h2 : ¬ (c : Int) < n := by omega
  go_enter Trym.func7, Trym.ntmps7
  go_wp2
  go_ret
  exact ⟨rfl, rfl⟩

/-- What a growth leaves: the cell holds the new slice of room c'; of what lay below B nothing has turned. -/
structure Grew (B p c : Nat) (n : Int) (w w' : World) (e : Ending) (c' : Nat) : Prop where
  ret : e = .returned (.slice (some ⟨w.heap.size, 0, none⟩) n.toNat c')
  cell : w'.cell? ⟨p, 0, none⟩ = some (.slice (some ⟨w.heap.size, 0, none⟩) n.toNat c')
  free : w'.frozen? ⟨p, 0, none⟩ = false
  below : Below B w w'
  lo : n ≤ (c' : Int)
  hi : c' ≤ 1048576
  twice : 2 * c ≤ c' ∨ c' = 1048576

theorem grew_mk (B p c : Nat) (n : Int) (w : World) (M : Array Value) (hBp : B ≤ p) (hp : p < w.heap.size) (ao : Option Addr) (ln : Nat) (hc : w.cell? ⟨p, 0, none⟩ = some (.slice ao ln c)) (hf : w.frozen? ⟨p, 0, none⟩ = false)
    (c' : Nat) (h1 : n ≤ (c' : Int)) (h2 : c' ≤ 1048576) (h3 : 2 * c ≤ c' ∨ c' = 1048576) :
    Grew B p c n w ((w.setCell ⟨p, 0, none⟩ (.slice (some ⟨w.heap.size, 0, none⟩) n.toNat c')).alloc (.cells M 5)) (.returned (.slice (some ⟨w.heap.size, 0, none⟩) n.toNat c')) c' := by
  refine ⟨rfl, ?_, ?_, ?_, h1, h2, h3⟩
  · rw [World.cell?_alloc_lt (h := by simpa [World.setCell] using hp)]
    exact World.cell?_setCell_same (u := .slice ao ln c) _ _ _ hc
  · rw [World.frozen?_alloc_old (h := Nat.ne_of_lt (by simpa [World.setCell] using hp)), World.frozen?_setCell]; exact hf
  · exact ((Below.refl _ _).setCell hBp _).alloc (by simp [World.setCell]; omega) _

set_option maxHeartbeats 1000000 in
theorem buf_grow (B p : Nat) (ao : Option Addr) (ln c : Nat) (n : Int) (h0 : (c : Int) < n) (h1 : n ≤ 1048576) (w : World) (hBp : B ≤ p) (hp : p < w.heap.size) (hc : w.cell? ⟨p, 0, none⟩ = some (.slice ao ln c)) (hf : w.frozen? ⟨p, 0, none⟩ = false) :
    Calls Trym.prog 7 #[.pointer (some ⟨p, 0, none⟩), .int .i64 n] w fun e w' => ∃ c' : Nat, Grew B p c n w w' e c' := by
  by_cases hd : 2 * (c : Int) ≤ 1048576
  · by_cases hn : 2 * (c : Int) ≤ n
    · obtain ⟨M, _, hmk⟩ := mk_run n n (by omega) (Int.le_refl _) h1
      have hcut := fun g => cut_run (some ⟨g, 0, none⟩) n.toNat n.toNat n (by omega) (by omega)
      go_enter Trym.func7, Trym.ntmps7
      go_wp2
      all_goals
        go_ret
        exact ⟨_, grew_mk B p c n w M hBp hp ao ln hc hf n.toNat (by omega) (by omega) (by omega)⟩
    · obtain ⟨M, _, hmk⟩ := mk_run n (2 * (c : Int)) (by omega) (by omega) hd
      have hcut := fun g => cut_run (some ⟨g, 0, none⟩) n.toNat (2 * c) n (by omega) (by omega)
      go_enter Trym.func7, Trym.ntmps7
      go_wp2
      all_goals
        go_ret
        exact ⟨_, grew_mk B p c n w M hBp hp ao ln hc hf (2 * c) (by omega) (by omega) (by omega)⟩
  · by_cases hn : 1048576 ≤ n
    · obtain ⟨M, _, hmk⟩ := mk_run n n (by omega) (Int.le_refl _) h1
      have hcut := fun g => cut_run (some ⟨g, 0, none⟩) n.toNat n.toNat n (by omega) (by omega)
      go_enter Trym.func7, Trym.ntmps7
      go_wp2
      all_goals
        go_ret
        exact ⟨_, grew_mk B p c n w M hBp hp ao ln hc hf n.toNat (by omega) (by omega) (by omega)⟩
    · obtain ⟨M, _, hmk⟩ := mk_run n 1048576 (by omega) h1 (by omega)
      have hcut := fun g => cut_run (some ⟨g, 0, none⟩) n.toNat 1048576 n (by omega) (by omega)
      go_enter Trym.func7, Trym.ntmps7
      go_wp2
      all_goals
        go_ret
        exact ⟨_, grew_mk B p c n w M hBp hp ao ln hc hf 1048576 (by omega) (by omega) (by omega)⟩
end Go.Proofs.Qxb6602104aMods
