/-
  THE SCANNER's 'skipQuoted' (21) AND ITS DOOR 'ZZSkipQuoted' (17): contracts over the plain function 'stop'.
-/
import Derived.Test.Qxb6600032aModsRows
import Derived.WalkKit
import Derived.ProofKit
import Derived.OpenShut
import Derived.Deep.LoopGhost
import Derived.Deep.QuietTactic
import Derived.BigQuiet
import Derived.BigRegion
import Derived.WalkSpells
import Derived.Test.Qxb6600032aModsPlain
namespace Go.Proofs.Qxb6600032aMods
open Go.ChangeShapes Go.WideShapes Go.ChangeAt Go.RowKit Plain

/-- The scanner in block b: its text t, its place p; of what w0 held nothing has turned. -/
structure Stands (w0 w : World) (b : Nat) (t : ByteArray) (p : Nat) : Prop where
  text : w.cell? ⟨b, 0, none⟩ = some (.string t)
  pos : w.cell? ⟨b, 1, none⟩ = some (.int .i64 p)
  free : w.frozen? ⟨b, 1, none⟩ = false
  kept : Grown w0 w
  own : w0.heap.size ≤ b

theorem Stands.set {w0 w : World} {b : Nat} {t : ByteArray} {p : Nat} (h : Stands w0 w b t p) (p' : Nat) (z : Int) (hz : z = (p' : Int)) : Stands w0 (w.setCell ⟨b, 1, none⟩ (.int .i64 z)) b t p' := by
  subst hz
  refine ⟨?_, ?_, ?_, Grown.setCell h.kept h.own _, h.own⟩
  · rw [World.cell?_setCell_other (h := by simp)]; exact h.text
  · exact World.cell?_setCell_same _ _ _ h.pos
  · rw [World.frozen?_setCell]; exact h.free
theorem Stands.drewN {w0 w : World} {b : Nat} {t : ByteArray} {p : Nat} (h : Stands w0 w b t p) (n : Nat) : Stands w0 (w.drewN n) b t p := ⟨h.text, h.pos, h.free, h.kept, h.own⟩

theorem grown_trans {u v w : World} (h1 : Grown u v) (h2 : Grown v w) : Grown u w :=
  ⟨World.keptBut_trans h1.1 h2.1, fun a => (h2.2.1 a).trans (h1.2.1 a), Nat.le_trans h1.2.2 h2.2.2⟩
theorem ret_int {k : IntKind} {a b : Int} (h : a = b) : Ending.returned (.int k a) = .returned (.int k b) := by rw [h]
theorem ret_bool {b : Bool} (h : b = true) : Ending.returned (.bool b) = .returned (.bool true) := by rw [h]

theorem len_bytes (t : ByteArray) : t.data.toList.length = t.size := Array.length_toList

set_option maxHeartbeats 1000000 in
set_option maxRecDepth 10000 in
theorem skip_plain (t : ByteArray) (ht : t.size ≤ 4194304) (p : Nat) (hp : p < t.size) (q : Int) (b : Nat) (w0 w : World) (hs : Stands w0 w b t p) :
    Calls Trym.prog 21 #[.pointer (some ⟨b, 0, none⟩), .int .u8 q, .bool false] w fun e w' => e = .returned (.tuple #[]) ∧ Stands w0 w' b t (stop q false t.data.toList (p + 1)) := by
  have h0 := hs.text
  have h1 := hs.pos
  have hf := hs.free
  go_enter Trym.func21, Trym.ntmps21
  go_wp2
  go_loopg [] (t.size + 2) (fun k wr => ∃ p' : Nat, p' ≤ t.size + 1 ∧ t.size + 2 ≤ k + p' ∧ Stands w0 wr b t p' ∧ Hid (stop q false t.data.toList p' = stop q false t.data.toList (p + 1)))
  case atStart => exact ⟨p + 1, by omega, by omega, hs.set (p + 1) _ (by omega), hid rfl⟩
  case round =>
    clear h0 h1 hf hs
    obtain ⟨p', hp', hk, hs, hst⟩ := hrel
    have h0 := hs.text
    have h1 := hs.pos
    have hf := hs.free
    by_cases hlt : p' < t.size
    · go_wp2
      go_quiet (fail)
      go_wp2
      go_quiet (fail)
      have h9 : (false && (num (t.data.toList[p']'(by rw [len_bytes]; exact hlt)) == 92)) = false := rfl
      go_wp2
      by_cases hq : ((t[p'].toNat : Int) == q) = true
      · by_cases hn : p' + 1 < t.size
        · have hn' : ((p' : Int) + 1) < (t.size : Int) := by omega
          have hz : 0 ≤ ((p' : Int) + 1) := by omega
          by_cases hd : ((t[p' + 1].toNat : Int) == q) = true
          · go_quiet (fail)
            go_wp2
            go_roundg (t.size + 2 - (p' + 2))
            case measure => omega
            case rel => exact ⟨p' + 2, by omega, by omega, ((((hs.drewN _).set (p' + 1) _ (by omega)).drewN _).set (p' + 2) _ (by omega)), hid ((stop_dbl q false t.data.toList p' hn h9 hq hd).symm.trans hst.out)⟩
          · have hd' : ((t[p' + 1].toNat : Int) == q) = false := by simpa using hd
            clear hd
            go_quiet (fail)
            go_wp2
            refine bodyPost_ret (results_none rfl _ _ _) rfl ⟨rfl, ?_⟩
            rw [← hst.out, stop_close q false t.data.toList p' hlt h9 hq (fun _ => hd')]
            exact ((hs.drewN _).set (p' + 1) _ (by omega)).drewN _
        · have hn' : decide (((p' : Int) + 1) < (t.size : Int)) = false := by simp; omega
          go_quiet (fail)
          go_wp2
          refine bodyPost_ret (results_none rfl _ _ _) rfl ⟨rfl, ?_⟩
          rw [← hst.out, stop_close q false t.data.toList p' hlt h9 hq (fun h => absurd h hn)]
          exact ((hs.drewN _).set (p' + 1) _ (by omega)).drewN _
      · have hq' : ((t[p'].toNat : Int) == q) = false := by simpa using hq
        clear hq
        go_quiet (fail)
        go_wp2
        go_roundg (t.size + 2 - (p' + 1))
        case measure => omega
        case rel => exact ⟨p' + 1, by omega, by omega, ((hs.drewN _).set (p' + 1) _ (by omega)).drewN _, hid ((stop_step q false t.data.toList p' hlt h9 hq').symm.trans hst.out)⟩
    · go_wp2
      go_quiet (fail)
      go_wp2
      have he := hid (stop_end q false t.data.toList p' (by rw [len_bytes]; omega))
      go_region
      all_goals go_wp2
      all_goals
        go_end0
        refine ⟨rfl, ?_⟩
        rw [← hst.out, he.out, len_bytes]
        exact (hs.drewN _).set _ _ (by omega)

set_option maxHeartbeats 1000000 in
set_option maxRecDepth 10000 in
theorem skip_esc (t : ByteArray) (ht : t.size ≤ 4194304) (p : Nat) (hp : p < t.size) (q : Int) (b : Nat) (w0 w : World) (hs : Stands w0 w b t p) :
    Calls Trym.prog 21 #[.pointer (some ⟨b, 0, none⟩), .int .u8 q, .bool true] w fun e w' => e = .returned (.tuple #[]) ∧ Stands w0 w' b t (stop q true t.data.toList (p + 1)) := by
  have h0 := hs.text
  have h1 := hs.pos
  have hf := hs.free
  go_enter Trym.func21, Trym.ntmps21
  go_wp2
  go_loopg [] (t.size + 2) (fun k wr => ∃ p' : Nat, p' ≤ t.size + 1 ∧ t.size + 2 ≤ k + p' ∧ Stands w0 wr b t p' ∧ Hid (stop q true t.data.toList p' = stop q true t.data.toList (p + 1)))
  case atStart => exact ⟨p + 1, by omega, by omega, hs.set (p + 1) _ (by omega), hid rfl⟩
  case round =>
    clear h0 h1 hf hs
    obtain ⟨p', hp', hk, hs, hst⟩ := hrel
    have h0 := hs.text
    have h1 := hs.pos
    have hf := hs.free
    by_cases hlt : p' < t.size
    · go_wp2
      go_quiet (fail)
      go_wp2
      go_quiet (fail)
      by_cases h92 : ((t[p'].toNat : Int) == 92) = true
      · go_wp2
        go_roundg (t.size + 2 - (p' + 2))
        case measure => omega
        case rel => exact ⟨p' + 2, by omega, by omega, (((hs.drewN _).set (p' + 1) _ (by omega)).set (p' + 2) _ (by omega)), hid ((stop_esc q true t.data.toList p' hlt rfl h92).symm.trans hst.out)⟩
      have h93 : ((t[p'].toNat : Int) == 92) = false := by simpa using h92
      clear h92
      have h9 : (true && (num (t.data.toList[p']'(by rw [len_bytes]; exact hlt)) == 92)) = false := h93
      go_wp2
      by_cases hq : ((t[p'].toNat : Int) == q) = true
      · by_cases hn : p' + 1 < t.size
        · have hn' : ((p' : Int) + 1) < (t.size : Int) := by omega
          have hz : 0 ≤ ((p' : Int) + 1) := by omega
          by_cases hd : ((t[p' + 1].toNat : Int) == q) = true
          · go_quiet (fail)
            go_wp2
            go_roundg (t.size + 2 - (p' + 2))
            case measure => omega
            case rel => exact ⟨p' + 2, by omega, by omega, ((((hs.drewN _).set (p' + 1) _ (by omega)).drewN _).set (p' + 2) _ (by omega)), hid ((stop_dbl q true t.data.toList p' hn h9 hq hd).symm.trans hst.out)⟩
          · have hd' : ((t[p' + 1].toNat : Int) == q) = false := by simpa using hd
            clear hd
            go_quiet (fail)
            go_wp2
            refine bodyPost_ret (results_none rfl _ _ _) rfl ⟨rfl, ?_⟩
            rw [← hst.out, stop_close q true t.data.toList p' hlt h9 hq (fun _ => hd')]
            exact ((hs.drewN _).set (p' + 1) _ (by omega)).drewN _
        · have hn' : decide (((p' : Int) + 1) < (t.size : Int)) = false := by simp; omega
          go_quiet (fail)
          go_wp2
          refine bodyPost_ret (results_none rfl _ _ _) rfl ⟨rfl, ?_⟩
          rw [← hst.out, stop_close q true t.data.toList p' hlt h9 hq (fun h => absurd h hn)]
          exact ((hs.drewN _).set (p' + 1) _ (by omega)).drewN _
      · have hq' : ((t[p'].toNat : Int) == q) = false := by simpa using hq
        clear hq
        go_quiet (fail)
        go_wp2
        go_roundg (t.size + 2 - (p' + 1))
        case measure => omega
        case rel => exact ⟨p' + 1, by omega, by omega, ((hs.drewN _).set (p' + 1) _ (by omega)).drewN _, hid ((stop_step q true t.data.toList p' hlt h9 hq').symm.trans hst.out)⟩
    · go_wp2
      go_quiet (fail)
      go_wp2
      have he := hid (stop_end q true t.data.toList p' (by rw [len_bytes]; omega))
      go_region
      all_goals go_wp2
      all_goals
        go_end0
        refine ⟨rfl, ?_⟩
        rw [← hst.out, he.out, len_bytes]
        exact (hs.drewN _).set _ _ (by omega)

theorem skip_any (t : ByteArray) (ht : t.size ≤ 4194304) (p : Nat) (hp : p < t.size) (q : Int) (bs : Bool) (b : Nat) (w0 w : World) (hs : Stands w0 w b t p) :
    Calls Trym.prog 21 #[.pointer (some ⟨b, 0, none⟩), .int .u8 q, .bool bs] w fun e w' => e = .returned (.tuple #[]) ∧ Stands w0 w' b t (stop q bs t.data.toList (p + 1)) := by
  cases bs
  · exact skip_plain t ht p hp q b w0 w hs
  · exact skip_esc t ht p hp q b w0 w hs

set_option maxHeartbeats 400000 in
/-- ZZSkipQuoted: where the scanner stops. -/
theorem zskip (t : ByteArray) (ht : t.size ≤ 4194304) (p : Nat) (hp : p < t.size) (z : Int) (hz : z = (p : Int)) (q : Int) (bs : Bool) (w : World) :
    Calls Trym.prog 17 #[.string t, .int .i64 z, .int .u8 q, .bool bs] w fun e w' => e = .returned (.int .i64 (stop q bs t.data.toList (p + 1))) ∧ Grown w w' := by
  subst hz
  go_enter Trym.func17, Trym.ntmps17
  go_wp2_with fail
  refine (skip_any t ht p hp q bs w.heap.size w _ ?_).mono ?_
  · exact ⟨by simp, by simp, by simp, (Grown.refl _).alloc _ _, Nat.le_refl _⟩
  rintro e w1 ⟨rfl, hs⟩
  have h1 := hs.pos
  go_wp2
  go_ret
  exact ⟨rfl, hs.kept⟩
end Go.Proofs.Qxb6600032aMods
