/-
  A PROOF OF 'Rows.FnNewGroupFilterSmallestPowerOfTwoSaid': the given shell, its walk filled.
-/
import Derived.Test.Qxb6602104aModsRows
import Derived.WalkKit
import Derived.ProofKit
import Derived.OpenShut
import Derived.ShutString
import Derived.Deep.LoopGhost
import Derived.WalkSpells
namespace Go.Proofs.Qxb6602104aMods.fnNewGroupFilterSmallestPowerOfTwo
open Go.ChangeShapes Go.WideShapes Go.ChangeAt Go.RowKit
set_option linter.unusedVariables false      -- a walk need not use every 'w<i>' (that an integer argument fits its kind)

theorem own : ownKnob Trym.prog.godebug = none := by kernel_rfl

theorem hid {p : Prop} (h : p) : Hid p := h
theorem info29 : (Trym.prog.info? 29).map (fun i => (i.zero, i.size, i.bytes)) = some (some (.int .u64 0), 1, 8) := by kernel_rfl

def IsPow (m : Nat) : Prop := ∃ k : Nat, k ≤ 17 ∧ m = 2 ^ k

theorem pow_two (m : Nat) (h : IsPow m) (hl : m < 131072) : IsPow (2 * m) := by
  obtain ⟨k, hk, rfl⟩ := h
  refine ⟨k + 1, ?_, by rw [Nat.pow_succ]; omega⟩
  by_cases e : k = 17
  · subst e; simp at hl
  · omega

theorem pow_le (m : Nat) (h : IsPow m) : m ≤ 131072 := by
  obtain ⟨k, hk, rfl⟩ := h
  exact Nat.pow_le_pow_right (by omega) hk

theorem bits_all : ∀ k : Fin 18, (bits BinOp.and IntKind.i64 ((2 ^ k.val : Nat) : Int) (((2 ^ k.val : Nat) : Int) - 1) != 0) = false := by decide +kernel
theorem pow_bits (m : Nat) (h : IsPow m) : (bits BinOp.and IntKind.i64 (m : Int) ((m : Int) - 1) != 0) = false := by
  obtain ⟨k, hk, rfl⟩ := h
  exact bits_all ⟨k, by omega⟩

set_option maxHeartbeats 400000 in
theorem grp (n : Int) (h1 : -4611686018427387904 ≤ n) (h2 : n ≤ 4611686018427387903) (w : World) :
    Calls Trym.prog 8 #[.int .i64 n] w fun e w' => ∃ m : Nat, IsPow m ∧ 1 ≤ m ∧ m ≤ 131072 ∧ (m < 131072 → n ≤ 32 * (m : Int)) ∧ (1 < m → (m : Int) / 2 * 32 < n) ∧
      e = .returned (.slice (some ⟨w.heap.size, 0, none⟩) m m) ∧ (∀ j, j < m → w'.cell? ⟨w.heap.size, j, none⟩ = some (.int .u64 0)) ∧ Below w.heap.size w w' := by
  obtain ⟨i0, hi, hz0, hz1, hz2⟩ := info_parts info29
  go_enter Trym.func8, Trym.ntmps8
  go_wp2
  go_loopg [3] 131072 (fun g v wr => ∃ m : Nat, Hid (IsPow m) ∧ 1 ≤ m ∧ m ≤ 131072 ∧ 131072 ≤ g + m ∧ (1 < m → (m : Int) / 2 * 32 < n) ∧ v = .int .i64 (m : Int) ∧ wr = w)
  case atStart => exact ⟨1, hid ⟨0, by omega, rfl⟩, by omega, by omega, by omega, by omega, rfl, rfl⟩
  case round =>
    obtain ⟨m, hpow, hm1, hm2, hg, hlow, rfl, rfl⟩ := hrel
    by_cases hc : (m : Int) * 64 < 2 * n ∧ m < 131072
    · obtain ⟨hc1, hc2⟩ := hc
      have hc3 : (m : Int) < 131072 := by omega
      have hp2 := hid (pow_two m hpow.out hc2)
      have hp3 := pow_le _ hp2.out
      go_wp2
      go_roundg (131072 - 2 * m)
      case measure => omega
      case rel => exact ⟨2 * m, hp2, by omega, by omega, by omega, by omega, by go_num, rfl⟩
    · have hK : (∀ w', w'.ownsRow wr.heap.size 29 1 (.slice (some ⟨wr.heap.size, 0, none⟩) m m) m (madeCells (Value.int .u64 0).cells (m * 1)).toList → wr.grownBy w' none → (∀ j, j < m → w'.cell? ⟨wr.heap.size, j, none⟩ = some (.int .u64 0)) ∧ Below wr.heap.size wr w') := by
        intro w' ho hgr
        refine ⟨fun j hj => ?_, (Below.refl _ _).grown hgr (Nat.le_refl _) (by intro k e; cases e)⟩
        rw [ho.cellAt j (by omega)]
        show (madeCells #[Value.int .u64 0] (m * 1)).toList[j]? = _
        rw [toList_madeCells_one, List.getElem?_replicate, if_pos (by omega)]
      by_cases hc1 : (m : Int) * 64 < 2 * n
      · have hc2 : ¬ (m : Int) < 131072 := by omega
        go_wp2_with (at_make; refine wpList_make_full _ rfl _ _ 32 rfl wr.heap.size 29 i0 (.int .u64 0) 1 Trym.underlying32 hi hz0 hz1 .i64 .i64 _ _ m rfl rfl rfl rfl (by rw [hz2]; omega) (by unfold maxLen; omega) (Nat.le_refl _) ?_; intro w1 hown1 hgrow1)
        go_ret
        obtain ⟨hcell, hbel⟩ := hK _ hown1 hgrow1
        exact ⟨m, hpow.out, hm1, hm2, by omega, hlow, rfl, hcell, hbel⟩
      · go_wp2_with (at_make; refine wpList_make_full _ rfl _ _ 32 rfl wr.heap.size 29 i0 (.int .u64 0) 1 Trym.underlying32 hi hz0 hz1 .i64 .i64 _ _ m rfl rfl rfl rfl (by rw [hz2]; omega) (by unfold maxLen; omega) (Nat.le_refl _) ?_; intro w1 hown1 hgrow1)
        go_ret
        obtain ⟨hcell, hbel⟩ := hK _ hown1 hgrow1
        exact ⟨m, hpow.out, hm1, hm2, by omega, hlow, rfl, hcell, hbel⟩

/-! ### STEP 1: THE WALK: the Go text returns true. Of what was there nothing has turned. Part the cases AHEAD of 'go_enter' where a test parts the walk; take each callee by a contract of your own. -/
set_option maxHeartbeats 400000 in
theorem walk (a0 : Int) (w0 : (Lit.int .i64 a0).wf = true) (w : World) :
    Calls Trym.prog 4 #[.int .i64 a0] w fun e w' => e = .returned (.bool true) ∧ w.keptBut w' (fun _ => False) := by
  clear w0
  by_cases hn1 : a0 < -4611686018427387904
  · go_enter Trym.func4, Trym.ntmps4
    go_wp2
    go_ret
    exact ⟨rfl, World.keptBut_refl _ _⟩
  by_cases hn2 : 4611686018427387903 < a0
  · go_enter Trym.func4, Trym.ntmps4
    go_wp2
    go_ret
    exact ⟨rfl, World.keptBut_refl _ _⟩
  go_enter Trym.func4, Trym.ntmps4
  go_wp2_with fail
  refine (grp a0 (by omega) (by omega) _).mono ?_
  rintro e w1 ⟨m, hpow, hm1, hm2, hhi, hlo, rfl, hcell, hbel⟩
  have hbits := pow_bits m hpow
  clear hpow
  have hm1' : ¬ (m : Int) < 1 := by omega
  have hm2' : ¬ (131072 : Int) < (m : Int) := by omega
  have hlo' : 1 < m → (m : Int) / 2 * 32 < a0 := hlo
  have hhi' : m < 131072 → ¬ (m : Int) * 32 < a0 := by omega
  clear hlo hhi
  go_wp2
  go_loopg [5] m (fun g v wr => ∃ k : Nat, k ≤ m ∧ m ≤ g + k ∧ v = .int .i64 (k : Int) ∧ wr = w1)
  case atStart => exact ⟨0, by omega, by omega, rfl, rfl⟩
  case round =>
    obtain ⟨k, hk, hg, rfl, rfl⟩ := hrel
    by_cases hlt : k < m
    · have hlt' : (k : Int) < (m : Int) := by omega
      have hc := hcell k hlt
      clear hlo' hhi' hcell
      go_wp2
      go_roundg (m - (k + 1))
      case measure => omega
      case rel => exact ⟨k + 1, by omega, by omega, by go_num, rfl⟩
    · have hlt' : ¬ (k : Int) < (m : Int) := by omega
      clear hcell
      by_cases hL : m < 131072
      · have hL' : (m : Int) < 131072 := by omega
        have hh : decide ((m : Int) * 32 < a0) = false := by rw [decide_eq_false_iff_not]; have := hhi' hL; omega
        by_cases hL1 : 1 < m
        · have hL2 : (1 : Int) < (m : Int) := by omega
          have hh2 : decide (a0 ≤ (m : Int) / 2 * 32) = false := by rw [decide_eq_false_iff_not]; have := hlo' hL1; omega
          clear hlo' hhi' hL
          go_wp2
          go_ret
          exact ⟨rfl, hbel.frame _⟩
        · have hL2 : ¬ (1 : Int) < (m : Int) := by omega
          clear hlo' hhi' hL
          go_wp2
          go_ret
          exact ⟨rfl, hbel.frame _⟩
      · have hL' : ¬ (m : Int) < 131072 := by omega
        have hL2 : (1 : Int) < (m : Int) := by omega
        have hh2 : decide (a0 ≤ (m : Int) / 2 * 32) = false := by rw [decide_eq_false_iff_not]; have := hlo' (by omega); omega
        clear hlo' hhi'
        go_wp2
        go_ret
        exact ⟨rfl, hbel.frame _⟩

/-! ### THE ROW's STEP: WRITTEN OUT: LEAVE IT -/
set_option maxRecDepth 100000 in
theorem lifted (os : Os) (started : os.Started) (H : Type) (enc : TypeId × Value → H) :
    ReturnsInHanded {} Trym.checked os 4 .any (Rows.fnNewGroupFilterSmallestPowerOfTwoSpec.pre6 enc Trym.prog Trym.f4 Rows.fnNewGroupFilterSmallestPowerOfTwoRow.domain false) (Rows.fnNewGroupFilterSmallestPowerOfTwoSpec.post enc Trym.prog Trym.f4 false true false false) := by
  refine returnsInHanded_of_change (C := Trym.checked) own started (by kernel_rfl) Trym.func4
    (ChangeSpec.witness6 (enc := enc) (C := Trym.checked) false ⟨#[], #[.int .i64 0], []⟩ 8 (by kernel_rfl) (by kernel_rfl) (by kernel_rfl) (by kernel_rfl)) ?_
  intro W base args ds gs before hval0 hW hcnd _
  have hval : ∀ (j : Nat) t v, Trym.f4.params[j]? = some t → args[j]? = some v → Value.okWide Trym.prog W .any base t v := hval0
  have hW' := hW
  obtain ⟨p, q, hA0, hV, rfl, hfz, hnd⟩ := hW
  have hA : DataW.TrodAll enc Trym.prog W 0 (fun _ => true) true Trym.f4.params.toList args.toList ds p := hA0
  rw [Trym.params4] at hA hval
  obtain ⟨v0, vs0, d0, ds0, p0, q0, hargs, rfl, rfl, h0, r0⟩ := trodAll_cons hA
  obtain ⟨rfl, rfl, rfl⟩ := trodAll_nil r0
  obtain rfl : args = #[v0] := by cases args; simp_all
  obtain ⟨rfl, rfl⟩ := trodVars_none hV
  obtain ⟨a0, rfl, rfl, rfl, w0⟩ := open_int Trym.underlying2 (hval 0 2 v0 rfl rfl) h0
  clear hA0 hval0
  refine (walk a0 w0 W).mono fun e W' ⟨he, hg⟩ => ?_
  subst he
  exact ⟨_, rfl, _, _, _, [], _, [], hW', trodAll_mk1 (shut_bool Trym.underlying4 _), (trodAll_cons_mk (shut_int Trym.underlying2 w0) trodAll_mk0), rfl, World.keptBut_mono (fun _ f => f.elim) hg, fun h => by cases h⟩

theorem over : Rows.fnNewGroupFilterSmallestPowerOfTwoRow.holds Trym.pinned (OpenSpec.ofChange Rows.fnNewGroupFilterSmallestPowerOfTwoSpec) :=
  OpenClaim.holds_of_wide 4 Trym.f4 rfl rfl rfl rfl rfl rfl rfl ⟨rfl, rfl, rfl, rfl, rfl⟩ rfl rfl rfl rfl rfl (by kernel_rfl) Trym.func4 (by kernel_rfl)
    (of_decide_eq_true (by kernel_rfl)) (by unfold Func.isWrapper; first | (rw [if_pos (by decide +kernel)]; kernel_rfl) | (rw [if_neg (by decide +kernel)]; exact ⟨rfl, rfl⟩))
    (fun os started H enc _ => lifted os started H enc)

/-- ████ THE STATEMENT ████ -/
theorem proved : Rows.FnNewGroupFilterSmallestPowerOfTwoSaid :=
  over
#print axioms proved
end Go.Proofs.Qxb6602104aMods.fnNewGroupFilterSmallestPowerOfTwo
