/-
  THE LAW's WALK, behind its first tests: the room is nil or not, the script is empty or not.
-/
import Derived.Test.Qxb6602104aModsBuf
import Derived.Deep.LoopGhost
import Derived.Laws.CopyOwn
namespace Go.Proofs.Qxb6602104aMods
open Go.ChangeShapes Go.WideShapes Go.ChangeAt Go.RowKit

/-- After g growths the room is at least 2^(g-1). -/
def Inv (g c : Nat) : Prop := g = 0 ∨ 2 ^ (g - 1) ≤ c

theorem inv_le (g c : Nat) (h : Inv g c) (hc : c ≤ 1048576) : g ≤ 21 := by
  rcases h with h | h
  · omega
  · by_cases hg : g ≤ 21
    · exact hg
    · have : 2 ^ 21 ≤ 2 ^ (g - 1) := Nat.pow_le_pow_right (by omega) (by omega)
      have e : (2 : Nat) ^ 21 = 2097152 := by decide
      omega

theorem inv_step (g c n c' : Nat) (h : Inv g c) (hn : c < n) (hn' : n ≤ c') (hc' : c' ≤ 1048576) (h2 : 2 * c ≤ c' ∨ c' = 1048576) : Inv (g + 1) c' := by
  right
  rw [Nat.add_sub_cancel]
  rcases h with h | h
  · subst h; simp; omega
  · by_cases hg : g = 0
    · subst hg; simp; omega
    · obtain ⟨j, rfl⟩ : ∃ j, g = j + 1 := ⟨g - 1, by omega⟩
      rw [Nat.add_sub_cancel] at h
      rcases h2 with h2 | h2
      · rw [Nat.pow_succ]; omega
      · have hj : j < 20 := by
          by_cases hj : j < 20
          · exact hj
          · have : 2 ^ 20 ≤ 2 ^ j := Nat.pow_le_pow_right (by omega) (by omega)
            have e : (2 : Nat) ^ 20 = 1048576 := by decide
            omega
        have : 2 ^ (j + 1) ≤ 2 ^ 20 := Nat.pow_le_pow_right (by omega) (by omega)
        have e : (2 : Nat) ^ 20 = 1048576 := by decide
        omega

theorem ret_bool {b : Bool} (h : b = true) : Ending.returned (.bool b) = .returned (.bool true) := by rw [h]

/-- The size of a byte's cell. -/
theorem size5 : (Trym.prog.info? 5).map (·.size) = some 1 := by kernel_rfl

theorem bytes_ok (l : List Int) : ∀ v ∈ l.map (Value.int .u8), v.oneCell' = true := by
  intro v hv
  obtain ⟨z, _, rfl⟩ := List.mem_map.1 hv
  rfl

/-- 'copy(full, room)': full has just been made. -/
theorem copy_run (w : World) (x : Addr) (len0 cap0 : Nat) (z0 : List Int) (hlz0 : len0 ≤ z0.length) (hcell0 : ∀ i, i < z0.length → w.cell? (x.add i) = some (.int .u8 (z0.getD i 0))) (M : Array Value) (hM : M.size = len0) :
    ∃ (n : Nat) (w2 : World), (Builtin.copy_ #[22, 22] 3 #[.slice (some ⟨w.heap.size, 0, none⟩) len0 len0, .slice (some x) len0 cap0]).run Trym.prog (w.alloc (.cells M 5)) = .ok (goInt n) w2 ∧ Below w.heap.size w w2 := by
  have hl : ((z0.take len0).map (Value.int .u8)).length = len0 := by rw [List.length_map, List.length_take]; omega
  refine ⟨_, _, run_copy_row (P := Trym.prog) (w.alloc (.cells M 5)) 22 22 3 5 w.heap.size 0 len0 len0 x len0 cap0 M 5 ((z0.take len0).map (Value.int .u8)) Trym.underlying22 size5 ?_ (by rw [hl]; exact (Nat.min_self _).symm) ?_ (by rw [hl, hM]; omega) (bytes_ok _), ?_⟩
  · exact heap_alloc_new w _
  · intro j v hj
    have hj' : j < len0 := by have := (List.getElem?_eq_some_iff.1 hj).1; rwa [hl] at this
    have hjz : j < z0.length := by omega
    rw [List.getElem?_map, List.getElem?_take, if_pos hj', List.getElem?_eq_getElem hjz] at hj
    have hc := hcell0 j hjz
    rw [List.getD_eq_getElem?_getD, List.getElem?_eq_getElem hjz] at hc
    have hlt : (x.add j).block < w.heap.size := World.block_lt_of_cell? _ _ hc
    rw [World.cell?_alloc_lt (h := hlt), hc]
    simpa using hj
  · exact below_setRow ((Below.refl _ _).alloc (Nat.le_refl _) _) (Nat.le_refl _) _

set_option maxHeartbeats 2000000 in
set_option maxRecDepth 10000 in
theorem script_ss (w : World) (x : Addr) (len0 cap0 : Nat) (z0 : List Int) (hlz0 : len0 ≤ z0.length) (hcell0 : ∀ i, i < z0.length → w.cell? (x.add i) = some (.int .u8 (z0.getD i 0))) (b off len2 cap2 : Nat) (z2 : List Int) (hb : b < w.heap.size) (hcell2 : ∀ j, j < len2 → w.cell? ⟨b, off + j, none⟩ = some (.int .i64 (z2.getD j 0))) (hl2 : len2 ≤ 4096) (l : Int) (hl0 : 0 ≤ l) (hl1 : l ≤ (len0 : Nat)) (hsum : len0 + 8 * len2 ≤ 1048576) (B : ∀ w, Calls Trym.prog 6 #[.slice (some x) len0 cap0, .int .i64 l, .slice (some ⟨b, off, none⟩) len2 cap2] w fun e w' => e = .returned (.bool true) ∧ w = w') :
    Calls Trym.prog 3 #[.slice (some x) len0 cap0, .int .i64 l, .slice (some ⟨b, off, none⟩) len2 cap2] w fun e w' => e = .returned (.bool true) ∧ Below w.heap.size w w' := by
  have hneq := fun w' => run_neq_slice_nil_any (P := Trym.prog) w' 22 5 (some x) len0 cap0 0 0 Trym.underlying22
  obtain ⟨M, hM, hmk⟩ := mk_run (len0 : Int) (len0 : Int) (by omega) (Int.le_refl _) (by omega)
  rw [Int.toNat_natCast] at hM
  have hcut := fun g => cut_run (some ⟨g, 0, none⟩) len0 len0 l hl0 hl1
  obtain ⟨ncp, w2, hcp, hb2⟩ := copy_run w x len0 cap0 z0 hlz0 hcell0 M hM
  have hP := hb2.size
  clear hM hcell0
  go_enter Trym.func3, Trym.ntmps3
  go_wp2_with fail
  refine (B _).mono ?_
  rintro e w' ⟨rfl, hw⟩
  subst hw
  go_wp2_with fail
  go_loopg [7] len2 (fun gk v wr => ∃ k : Nat, k ≤ len2 ∧ len2 ≤ gk + k ∧ v = .int .i64 (k : Int) ∧ w = wr ∧ Hid (∀ j, j < k → 0 ≤ z2.getD j 0 ∧ z2.getD j 0 ≤ 1048576))
  case atStart => exact ⟨0, by omega, by omega, rfl, rfl, hid (fun j hj => absurd hj (by omega))⟩
  case round =>
    obtain ⟨k, hk, hgk, rfl, rfl, hall⟩ := hrel
    by_cases hlt : k < len2
    · have hlt' : (k : Int) < (len2 : Int) := by omega
      have hck := hcell2 k hlt
      obtain ⟨z, hz⟩ : ∃ z, z2.getD k 0 = z := ⟨_, rfl⟩
      rw [hz] at hck
      have HZ := hid hz
      clear hz hcell2 hmk hcut hneq hcp hb2 hP
      by_cases hz0 : z < 0
      · go_wp2_with fail
        go_ret
        exact ⟨rfl, Below.refl _ _⟩
      by_cases hz1 : 1048576 < z
      · go_wp2_with fail
        go_ret
        exact ⟨rfl, Below.refl _ _⟩
      go_wp2_with fail
      go_roundg (len2 - (k + 1))
      case measure => omega
      case rel =>
        refine ⟨k + 1, by omega, by omega, by go_num, rfl, hid (fun j hj => ?_)⟩
        by_cases hjk : j < k
        · exact hall.out j hjk
        · obtain rfl : j = k := by omega
          rw [HZ.out]; omega
    · obtain rfl : len2 = k := by omega
      have HC := hid hcell2
      clear hcell2
      go_wp2_with fail
      go_loopg [11, 12, 13] len2 (fun gk v11 v12 v13 wr => ∃ (k g c ln : Nat) (ao : Option Addr), k ≤ len2 ∧ len2 ≤ gk + k ∧ v11 = .int .i64 (c : Int) ∧ v12 = .int .i64 (g : Int) ∧ v13 = .int .i64 (k : Int) ∧ c ≤ 1048576 ∧ g ≤ 21 ∧ wr.cell? ⟨w2.heap.size, 0, none⟩ = some (.slice ao ln c) ∧ wr.frozen? ⟨w2.heap.size, 0, none⟩ = false ∧ Below w.heap.size w wr ∧ w2.heap.size < wr.heap.size ∧ Hid (Inv g c))
      case atStart => exact ⟨0, 0, len0, l.toNat, (some ⟨w.heap.size, 0, none⟩), by omega, by omega, rfl, rfl, rfl, by omega, by omega, by simp, by simp, hb2.alloc hP _, by simp, hid (Or.inl rfl)⟩
      case round =>
        obtain ⟨k, g, c, ln, ao, hk, hgk, rfl, rfl, rfl, hc, hg, hcl, hfr, hbel, hPw, hinv⟩ := hrel
        by_cases hlt : k < len2
        · have hlt' : (k : Int) < (len2 : Int) := by omega
          obtain ⟨hz1, hz2⟩ := hall.out k hlt
          have hck := (hbel.cell (p := ⟨b, off + k, none⟩) hb).trans (HC.out k hlt)
          obtain ⟨n, hn⟩ := Int.eq_ofNat_of_zero_le hz1
          rw [hn] at hz2 hck
          clear hz1 hn hmk hcut hneq hcp hb2
          by_cases hfit : (n : Int) ≤ (c : Int)
          · have C := buf_fit w2.heap.size ao ln c (n : Int) (by omega) hfit wr hcl
            rw [Int.toNat_natCast] at C
            go_wp2_with fail
            refine C.mono ?_
            rintro e w3 ⟨rfl, hw3⟩
            subst hw3
            go_wp2_with fail
            go_roundg (len2 - (k + 1))
            case measure => omega
            case rel => exact ⟨k + 1, g, c, ln, ao, by omega, by omega, rfl, rfl, by go_num, hc, hg, hcl, hfr, hbel, hPw, hinv⟩
          · have C := buf_grow w.heap.size w2.heap.size ao ln c (n : Int) (by omega) hz2 wr hP hPw hcl hfr
            clear hcl hfr
            go_wp2_with fail
            refine C.mono ?_
            rintro e w3 ⟨c', hG⟩
            have hcl := hG.cell
            have hfr := hG.free
            have hlo := hG.lo
            have hhi := hG.hi
            have hsz := hG.below.size
            have he := hG.ret
            rw [Int.toNat_natCast] at he hcl
            subst he
            have hne : ((c' : Int) != (c : Int)) = true := by rw [bne_iff_ne]; omega
            have hinv' := inv_step g c n c' hinv.out (by omega) (by omega) hhi hG.twice
            have hg' := inv_le _ _ hinv' hhi
            have HI := hid hinv'
            have HB := hid (hbel.trans hG.below)
            clear hinv' hG hbel
            go_wp2_with fail
            go_roundg (len2 - (k + 1))
            case measure => omega
            case rel => exact ⟨k + 1, g + 1, c', n, _, by omega, by omega, rfl, by go_num, by go_num, hhi, hg', hcl, hfr, HB.out, by omega, HI⟩
        · have hlt' : ¬ (k : Int) < (len2 : Int) := by omega
          have hg' : (g : Int) ≤ 21 := by omega
          go_wp2_with fail
          go_ret
          exact ⟨ret_bool (by simp), hbel⟩

set_option maxHeartbeats 2000000 in
set_option maxRecDepth 10000 in
theorem script_sn (w : World) (x : Addr) (len0 cap0 : Nat) (z0 : List Int) (hlz0 : len0 ≤ z0.length) (hcell0 : ∀ i, i < z0.length → w.cell? (x.add i) = some (.int .u8 (z0.getD i 0))) (a2 : Option Addr) (cap2 : Nat) (l : Int) (hl0 : 0 ≤ l) (hl1 : l ≤ (len0 : Nat)) (hsum : len0 + 8 * 0 ≤ 1048576) (B : ∀ w, Calls Trym.prog 6 #[.slice (some x) len0 cap0, .int .i64 l, .slice a2 0 cap2] w fun e w' => e = .returned (.bool true) ∧ w = w') :
    Calls Trym.prog 3 #[.slice (some x) len0 cap0, .int .i64 l, .slice a2 0 cap2] w fun e w' => e = .returned (.bool true) ∧ Below w.heap.size w w' := by
  have hneq := fun w' => run_neq_slice_nil_any (P := Trym.prog) w' 22 5 (some x) len0 cap0 0 0 Trym.underlying22
  obtain ⟨M, hM, hmk⟩ := mk_run (len0 : Int) (len0 : Int) (by omega) (Int.le_refl _) (by omega)
  rw [Int.toNat_natCast] at hM
  have hcut := fun g => cut_run (some ⟨g, 0, none⟩) len0 len0 l hl0 hl1
  obtain ⟨ncp, w2, hcp, hb2⟩ := copy_run w x len0 cap0 z0 hlz0 hcell0 M hM
  have hP := hb2.size
  clear hM hcell0
  go_enter Trym.func3, Trym.ntmps3
  go_wp2_with fail
  refine (B _).mono ?_
  rintro e w' ⟨rfl, hw⟩
  subst hw
  go_wp2_with fail
  go_loopg [7] 0 (fun gk v wr => v = .int .i64 0 ∧ w = wr)
  case atStart => exact ⟨rfl, rfl⟩
  case round =>
    obtain ⟨rfl, rfl⟩ := hrel
    go_wp2_with fail
    go_loopg [11, 12, 13] 0 (fun gk v11 v12 v13 wr => ∃ (k g c ln : Nat) (ao : Option Addr), k ≤ 0 ∧ 0 ≤ gk + k ∧ v11 = .int .i64 (c : Int) ∧ v12 = .int .i64 (g : Int) ∧ v13 = .int .i64 (k : Int) ∧ c ≤ 1048576 ∧ g ≤ 21 ∧ wr.cell? ⟨w2.heap.size, 0, none⟩ = some (.slice ao ln c) ∧ wr.frozen? ⟨w2.heap.size, 0, none⟩ = false ∧ Below w.heap.size w wr ∧ w2.heap.size < wr.heap.size ∧ Hid (Inv g c))
    case atStart => exact ⟨0, 0, len0, l.toNat, (some ⟨w.heap.size, 0, none⟩), by omega, by omega, rfl, rfl, rfl, by omega, by omega, by simp, by simp, hb2.alloc hP _, by simp, hid (Or.inl rfl)⟩
    case round =>
      obtain ⟨k, g, c, ln, ao, hk, hgk, rfl, rfl, rfl, hc, hg, hcl, hfr, hbel, hPw, hinv⟩ := hrel
      obtain rfl : k = 0 := by omega
      have hg' : (g : Int) ≤ 21 := by omega
      go_wp2_with fail
      go_ret
      exact ⟨ret_bool (by simp), hbel⟩

set_option maxHeartbeats 2000000 in
set_option maxRecDepth 10000 in
theorem script_ns (w : World) (b off len2 cap2 : Nat) (z2 : List Int) (hb : b < w.heap.size) (hcell2 : ∀ j, j < len2 → w.cell? ⟨b, off + j, none⟩ = some (.int .i64 (z2.getD j 0))) (hl2 : len2 ≤ 4096) (l : Int) (hl0 : 0 ≤ l) (hl1 : l ≤ (0 : Nat)) (_hsum : 0 + 8 * len2 ≤ 1048576) (B : ∀ w, Calls Trym.prog 6 #[.slice none 0 0, .int .i64 l, .slice (some ⟨b, off, none⟩) len2 cap2] w fun e w' => e = .returned (.bool true) ∧ w = w') :
    Calls Trym.prog 3 #[.slice none 0 0, .int .i64 l, .slice (some ⟨b, off, none⟩) len2 cap2] w fun e w' => e = .returned (.bool true) ∧ Below w.heap.size w w' := by
  have hneq := fun w' => run_neq_slice_nil_any (P := Trym.prog) w' 22 5 none 0 0 0 0 Trym.underlying22
  have hcut := cut_run none 0 0 l hl0 hl1
  go_enter Trym.func3, Trym.ntmps3
  go_wp2_with fail
  refine (B _).mono ?_
  rintro e w' ⟨rfl, hw⟩
  subst hw
  go_wp2_with fail
  go_loopg [7] len2 (fun gk v wr => ∃ k : Nat, k ≤ len2 ∧ len2 ≤ gk + k ∧ v = .int .i64 (k : Int) ∧ w = wr ∧ Hid (∀ j, j < k → 0 ≤ z2.getD j 0 ∧ z2.getD j 0 ≤ 1048576))
  case atStart => exact ⟨0, by omega, by omega, rfl, rfl, hid (fun j hj => absurd hj (by omega))⟩
  case round =>
    obtain ⟨k, hk, hgk, rfl, rfl, hall⟩ := hrel
    by_cases hlt : k < len2
    · have hlt' : (k : Int) < (len2 : Int) := by omega
      have hck := hcell2 k hlt
      obtain ⟨z, hz⟩ : ∃ z, z2.getD k 0 = z := ⟨_, rfl⟩
      rw [hz] at hck
      have HZ := hid hz
      clear hz hcell2 hcut hneq
      by_cases hz0 : z < 0
      · go_wp2_with fail
        go_ret
        exact ⟨rfl, Below.refl _ _⟩
      by_cases hz1 : 1048576 < z
      · go_wp2_with fail
        go_ret
        exact ⟨rfl, Below.refl _ _⟩
      go_wp2_with fail
      go_roundg (len2 - (k + 1))
      case measure => omega
      case rel =>
        refine ⟨k + 1, by omega, by omega, by go_num, rfl, hid (fun j hj => ?_)⟩
        by_cases hjk : j < k
        · exact hall.out j hjk
        · obtain rfl : j = k := by omega
          rw [HZ.out]; omega
    · obtain rfl : len2 = k := by omega
      have HC := hid hcell2
      clear hcell2
      go_wp2_with fail
      go_loopg [11, 12, 13] len2 (fun gk v11 v12 v13 wr => ∃ (k g c ln : Nat) (ao : Option Addr), k ≤ len2 ∧ len2 ≤ gk + k ∧ v11 = .int .i64 (c : Int) ∧ v12 = .int .i64 (g : Int) ∧ v13 = .int .i64 (k : Int) ∧ c ≤ 1048576 ∧ g ≤ 21 ∧ wr.cell? ⟨w.heap.size, 0, none⟩ = some (.slice ao ln c) ∧ wr.frozen? ⟨w.heap.size, 0, none⟩ = false ∧ Below w.heap.size w wr ∧ w.heap.size < wr.heap.size ∧ Hid (Inv g c))
      case atStart => exact ⟨0, 0, 0, l.toNat, none, by omega, by omega, rfl, rfl, rfl, by omega, by omega, by simp, by simp, (Below.refl w.heap.size w).alloc (Nat.le_refl _) _, by simp, hid (Or.inl rfl)⟩
      case round =>
        obtain ⟨k, g, c, ln, ao, hk, hgk, rfl, rfl, rfl, hc, hg, hcl, hfr, hbel, hPw, hinv⟩ := hrel
        by_cases hlt : k < len2
        · have hlt' : (k : Int) < (len2 : Int) := by omega
          obtain ⟨hz1, hz2⟩ := hall.out k hlt
          have hck := (hbel.cell (p := ⟨b, off + k, none⟩) hb).trans (HC.out k hlt)
          obtain ⟨n, hn⟩ := Int.eq_ofNat_of_zero_le hz1
          rw [hn] at hz2 hck
          clear hz1 hn hcut hneq
          by_cases hfit : (n : Int) ≤ (c : Int)
          · have C := buf_fit w.heap.size ao ln c (n : Int) (by omega) hfit wr hcl
            rw [Int.toNat_natCast] at C
            go_wp2_with fail
            refine C.mono ?_
            rintro e w3 ⟨rfl, hw3⟩
            subst hw3
            go_wp2_with fail
            go_roundg (len2 - (k + 1))
            case measure => omega
            case rel => exact ⟨k + 1, g, c, ln, ao, by omega, by omega, rfl, rfl, by go_num, hc, hg, hcl, hfr, hbel, hPw, hinv⟩
          · have C := buf_grow w.heap.size w.heap.size ao ln c (n : Int) (by omega) hz2 wr (Nat.le_refl _) hPw hcl hfr
            clear hcl hfr
            go_wp2_with fail
            refine C.mono ?_
            rintro e w3 ⟨c', hG⟩
            have hcl := hG.cell
            have hfr := hG.free
            have hlo := hG.lo
            have hhi := hG.hi
            have hsz := hG.below.size
            have he := hG.ret
            rw [Int.toNat_natCast] at he hcl
            subst he
            have hne : ((c' : Int) != (c : Int)) = true := by rw [bne_iff_ne]; omega
            have hinv' := inv_step g c n c' hinv.out (by omega) (by omega) hhi hG.twice
            have hg' := inv_le _ _ hinv' hhi
            have HI := hid hinv'
            have HB := hid (hbel.trans hG.below)
            clear hinv' hG hbel
            go_wp2_with fail
            go_roundg (len2 - (k + 1))
            case measure => omega
            case rel => exact ⟨k + 1, g + 1, c', n, _, by omega, by omega, rfl, by go_num, by go_num, hhi, hg', hcl, hfr, HB.out, by omega, HI⟩
        · have hlt' : ¬ (k : Int) < (len2 : Int) := by omega
          have hg' : (g : Int) ≤ 21 := by omega
          go_wp2_with fail
          go_ret
          exact ⟨ret_bool (by simp), hbel⟩

set_option maxHeartbeats 2000000 in
set_option maxRecDepth 10000 in
theorem script_nn (w : World) (a2 : Option Addr) (cap2 : Nat) (l : Int) (hl0 : 0 ≤ l) (hl1 : l ≤ (0 : Nat)) (B : ∀ w, Calls Trym.prog 6 #[.slice none 0 0, .int .i64 l, .slice a2 0 cap2] w fun e w' => e = .returned (.bool true) ∧ w = w') :
    Calls Trym.prog 3 #[.slice none 0 0, .int .i64 l, .slice a2 0 cap2] w fun e w' => e = .returned (.bool true) ∧ Below w.heap.size w w' := by
  have hneq := fun w' => run_neq_slice_nil_any (P := Trym.prog) w' 22 5 none 0 0 0 0 Trym.underlying22
  have hcut := cut_run none 0 0 l hl0 hl1
  go_enter Trym.func3, Trym.ntmps3
  go_wp2_with fail
  refine (B _).mono ?_
  rintro e w' ⟨rfl, hw⟩
  subst hw
  go_wp2_with fail
  go_loopg [7] 0 (fun gk v wr => v = .int .i64 0 ∧ w = wr)
  case atStart => exact ⟨rfl, rfl⟩
  case round =>
    obtain ⟨rfl, rfl⟩ := hrel
    go_wp2_with fail
    go_loopg [11, 12, 13] 0 (fun gk v11 v12 v13 wr => ∃ (k g c ln : Nat) (ao : Option Addr), k ≤ 0 ∧ 0 ≤ gk + k ∧ v11 = .int .i64 (c : Int) ∧ v12 = .int .i64 (g : Int) ∧ v13 = .int .i64 (k : Int) ∧ c ≤ 1048576 ∧ g ≤ 21 ∧ wr.cell? ⟨w.heap.size, 0, none⟩ = some (.slice ao ln c) ∧ wr.frozen? ⟨w.heap.size, 0, none⟩ = false ∧ Below w.heap.size w wr ∧ w.heap.size < wr.heap.size ∧ Hid (Inv g c))
    case atStart => exact ⟨0, 0, 0, l.toNat, none, by omega, by omega, rfl, rfl, rfl, by omega, by omega, by simp, by simp, (Below.refl w.heap.size w).alloc (Nat.le_refl _) _, by simp, hid (Or.inl rfl)⟩
    case round =>
      obtain ⟨k, g, c, ln, ao, hk, hgk, rfl, rfl, rfl, hc, hg, hcl, hfr, hbel, hPw, hinv⟩ := hrel
      obtain rfl : k = 0 := by omega
      have hg' : (g : Int) ≤ 21 := by omega
      go_wp2_with fail
      go_ret
      exact ⟨ret_bool (by simp), hbel⟩
end Go.Proofs.Qxb6602104aMods
