/-
  A PROOF OF 'Rows.FnBufferScriptFewGrowthsSaid': the given shell, its walk filled.
-/
import Derived.Test.Qxb6602104aModsRows
import Derived.WalkKit
import Derived.ProofKit
import Derived.OpenShut
import Derived.ShutString
import Derived.Test.Qxb6602104aModsScript
import Derived.ChangeOld
import Derived.Below
namespace Go.Proofs.Qxb6602104aMods.fnBufferScriptFewGrowths
open Go.ChangeShapes Go.WideShapes Go.ChangeAt Go.RowKit
set_option linter.unusedVariables false

theorem own : ownKnob Trym.prog.godebug = none := by kernel_rfl
theorem laidOut : laidOutB Trym.prog = true := by kernel_rfl

/-- WHAT THE WALK IS TOLD OF A SLICE OF INTEGERS THAT CAME IN: it is nil; or it leads to a row of 'cap' cells, the numbers 'zs' (the first 'len' are its elements, the rest its spare room), each fitting its kind. -/
def IsRow (k : IntKind) (w : World) (a : Option Addr) (len cap : Nat) (zs : List Int) : Prop :=
  (a = none ∧ len = 0 ∧ cap = 0 ∧ zs = []) ∨
  ∃ x, a = some x ∧ len ≤ cap ∧ cap ≤ maxLen ∧ zs.length = cap ∧ (∀ i, i < zs.length → w.cell? (x.add i) = some (.int k (zs.getD i 0))) ∧ ∀ n ∈ zs, (Lit.int k n).wf = true

theorem bytes_yes (a0 a2 : Option Addr) (len0 cap0 len2 cap2 : Nat) (l : Int) (h : len0 + len2 ≤ 1048576) (w : World) :
    Calls Trym.prog 6 #[.slice a0 len0 cap0, .int .i64 l, .slice a2 len2 cap2] w fun e w' => e = .returned (.bool true) ∧ w = w' := by
  have h0 : ¬ (1048576 : Int) < (len0 : Int) := by omega
  have h1 : ¬ (1048576 : Int) < (len2 : Int) := by omega
  have h3 : ¬ (1048576 : Int) < (len0 : Int) + (len2 : Int) := by omega
  go_enter Trym.func6, Trym.ntmps6
  go_wp2
  go_ret
  exact ⟨rfl, rfl⟩
theorem bytes_no (a0 a2 : Option Addr) (len0 cap0 len2 cap2 : Nat) (l : Int) (h : ¬ len0 + len2 ≤ 1048576) (w : World) :
    Calls Trym.prog 6 #[.slice a0 len0 cap0, .int .i64 l, .slice a2 len2 cap2] w fun e w' => e = .returned (.bool false) ∧ w = w' := by
  go_enter Trym.func6, Trym.ntmps6
  go_wp2
  all_goals
    go_ret
    exact ⟨rfl, rfl⟩

/-! ### STEP 1: THE WALK: the Go text returns true, AND WRITES NOTHING THAT WAS THERE: 'Below w.heap.size w w'' (Derived/Below.lean: '.refl', '.alloc', '.drew', '.setCell' at a new block, '.trans'). Open each 'IsRow' by 'rcases' AHEAD of 'go_enter'; part every test ahead of the walk. -/
set_option maxHeartbeats 400000 in
theorem walk (a0 : Option Addr) (len0 cap0 : Nat) (z0 : List Int) (a1 : Int) (a2 : Option Addr) (len2 cap2 : Nat) (z2 : List Int) (w : World) (w0 : IsRow .u8 w a0 len0 cap0 z0) (w1 : (Lit.int .i64 a1).wf = true) (w2 : IsRow .i64 w a2 len2 cap2 z2) :
    Calls Trym.prog 3 #[.slice a0 len0 cap0, .int .i64 a1, .slice a2 len2 cap2] w fun e w' => e = .returned (.bool true) ∧ Below w.heap.size w w' := by
  clear w1
  by_cases hb : len0 + len2 ≤ 1048576
  · have B := bytes_yes a0 a2 len0 cap0 len2 cap2 a1 hb
    have h0 : ¬ (1048576 : Int) < (len0 : Int) := by omega
    by_cases hn : (4096 : Int) < (len2 : Int)
    · clear w0 w2
      go_enter Trym.func3, Trym.ntmps3
      go_wp2_with fail
      refine (B _).mono ?_
      rintro e w1 ⟨rfl, rfl⟩
      go_wp2_with fail
      go_ret
      exact ⟨rfl, Below.refl _ _⟩
    by_cases hs : (1048576 : Int) < (len0 : Int) + 8 * (len2 : Int)
    · clear w0 w2
      go_enter Trym.func3, Trym.ntmps3
      go_wp2_with fail
      refine (B _).mono ?_
      rintro e w1 ⟨rfl, rfl⟩
      go_wp2_with fail
      go_ret
      exact ⟨rfl, Below.refl _ _⟩
    by_cases hl0 : a1 < 0
    · clear w0 w2
      go_enter Trym.func3, Trym.ntmps3
      go_wp2_with fail
      refine (B _).mono ?_
      rintro e w1 ⟨rfl, rfl⟩
      go_wp2_with fail
      go_ret
      exact ⟨rfl, Below.refl _ _⟩
    by_cases hl1 : (len0 : Int) < a1
    · clear w0 w2
      go_enter Trym.func3, Trym.ntmps3
      go_wp2_with fail
      refine (B _).mono ?_
      rintro e w1 ⟨rfl, rfl⟩
      go_wp2_with fail
      go_ret
      exact ⟨rfl, Below.refl _ _⟩
    have hsum : len0 + 8 * len2 ≤ 1048576 := by omega
    by_cases he : len2 = 0
    · subst he
      rcases w0 with ⟨rfl, rfl, rfl, rfl⟩ | ⟨x, rfl, hl, hm, hz, hcell, hwz⟩
      · exact script_nn w a2 cap2 a1 (by omega) (by omega) B
      · exact script_sn w x len0 cap0 z0 (by omega) hcell a2 cap2 a1 (by omega) (by omega) hsum B
    · rcases w2 with ⟨rfl, rfl, rfl, rfl⟩ | ⟨y, rfl, hly, hmy, hzy, hcelly, hwy⟩
      · exact absurd rfl he
      · obtain ⟨b, off, spot⟩ := y
        have hc0 := hcelly 0 (by omega)
        have hspot : spot = none := by simpa [Addr.add] using World.cell?_spot hc0
        subst hspot
        have hbl : b < w.heap.size := World.block_lt_of_cell? w _ hc0
        have hc2 : ∀ j, j < len2 → w.cell? ⟨b, off + j, none⟩ = some (.int .i64 (z2.getD j 0)) := fun j hj => by
          have e : (⟨b, off, none⟩ : Addr).add j = ⟨b, off + j, none⟩ := by by_cases h : j = 0 <;> simp [Addr.add, h]
          rw [← e]
          exact hcelly j (by omega)
        rcases w0 with ⟨rfl, rfl, rfl, rfl⟩ | ⟨x, rfl, hl, hm, hz, hcell, hwz⟩
        · exact script_ns w b off len2 cap2 z2 hbl hc2 (by omega) a1 (by omega) (by omega) hsum B
        · exact script_ss w x len0 cap0 z0 (by omega) hcell b off len2 cap2 z2 hbl hc2 (by omega) a1 (by omega) (by omega) hsum B
  · have B := bytes_no a0 a2 len0 cap0 len2 cap2 a1 hb
    clear w0 w2
    go_enter Trym.func3, Trym.ntmps3
    go_wp2_with fail
    refine (B _).mono ?_
    rintro e w1 ⟨rfl, rfl⟩
    go_wp2_with fail
    go_ret
    exact ⟨rfl, Below.refl _ _⟩

/-! ### THE ROW's STEP: WRITTEN OUT: LEAVE IT -/
set_option maxRecDepth 100000 in
theorem lifted (os : Os) (started : os.Started) (H : Type) (enc : TypeId × Value → H) :
    ReturnsInHanded {} Trym.checked os 3 .any (Rows.fnBufferScriptFewGrowthsSpec.pre6 enc Trym.prog Trym.f3 Rows.fnBufferScriptFewGrowthsRow.domain false) (Rows.fnBufferScriptFewGrowthsSpec.post enc Trym.prog Trym.f3 false true false false) := by
  refine returnsInHanded_of_change (C := Trym.checked) own started (by kernel_rfl) Trym.func3
    (ChangeSpec.witness6 (enc := enc) (C := Trym.checked) false ⟨#[], #[.slice none 0 0, .int .i64 0, .slice none 0 0], []⟩ 8 (by kernel_rfl) (by kernel_rfl) (by kernel_rfl) (by kernel_rfl)) ?_
  intro W base args ds gs before hval0 hW hcnd _
  have hval : ∀ (j : Nat) t v, Trym.f3.params[j]? = some t → args[j]? = some v → Value.okWide Trym.prog W .any base t v := hval0
  have hW' := hW
  obtain ⟨p, q, hA0, hV, rfl, hfz, hnd⟩ := hW
  have hA : DataW.TrodAll enc Trym.prog W 0 (fun _ => true) true Trym.f3.params.toList args.toList ds p := hA0
  rw [Trym.params3] at hA hval
  obtain ⟨v0, vs0, d0, ds0, p0, q0, hargs, rfl, rfl, h0, r0⟩ := trodAll_cons hA
  obtain ⟨v1, vs1, d1, ds1, p1, q1, rfl, rfl, rfl, h1, r1⟩ := trodAll_cons r0
  obtain ⟨v2, vs2, d2, ds2, p2, q2, rfl, rfl, rfl, h2, r2⟩ := trodAll_cons r1
  obtain ⟨rfl, rfl, rfl⟩ := trodAll_nil r2
  obtain rfl : args = #[v0, v1, v2] := by cases args; simp_all
  obtain ⟨rfl, rfl⟩ := trodVars_none hV
  obtain ⟨a0, len0, cap0, rfl⟩ := okWide_slice Trym.underlying22 (hval 0 22 v0 rfl rfl)
  have k0 := h0
  have lt0 : ∀ x ∈ p0, x.block < W.heap.size := by obtain ⟨m, hm⟩ := k0; exact DataW.trod_lt m _ _ _ hm
  obtain ⟨z0, w0⟩ : ∃ zs, IsRow .u8 W a0 len0 cap0 zs := by
    obtain ⟨fuel, hf⟩ := h0
    rcases open_ints Trym.underlying22 Trym.underlying5 (by kernel_rfl) hf with ⟨hcs, _⟩ | ⟨x, l, c, zs, hcs, _, hl, hm, hz, _, hcell, hwz⟩
    · simp [Value.cells] at hcs
      obtain ⟨rfl, rfl, rfl⟩ := hcs
      exact ⟨[], .inl ⟨rfl, rfl, rfl, rfl⟩⟩
    · simp [Value.cells] at hcs
      obtain ⟨rfl, rfl, rfl⟩ := hcs
      exact ⟨zs, .inr ⟨_, rfl, hl, hm, by simpa using hz, hcell, hwz⟩⟩
  obtain ⟨a1, rfl, rfl, rfl, w1⟩ := open_int Trym.underlying3 (hval 1 3 v1 rfl rfl) h1
  obtain ⟨a2, len2, cap2, rfl⟩ := okWide_slice Trym.underlying23 (hval 2 23 v2 rfl rfl)
  have k2 := h2
  have lt2 : ∀ x ∈ p2, x.block < W.heap.size := by obtain ⟨m, hm⟩ := k2; exact DataW.trod_lt m _ _ _ hm
  obtain ⟨z2, w2⟩ : ∃ zs, IsRow .i64 W a2 len2 cap2 zs := by
    obtain ⟨fuel, hf⟩ := h2
    rcases open_ints Trym.underlying23 Trym.underlying3 (by kernel_rfl) hf with ⟨hcs, _⟩ | ⟨x, l, c, zs, hcs, _, hl, hm, hz, _, hcell, hwz⟩
    · simp [Value.cells] at hcs
      obtain ⟨rfl, rfl, rfl⟩ := hcs
      exact ⟨[], .inl ⟨rfl, rfl, rfl, rfl⟩⟩
    · simp [Value.cells] at hcs
      obtain ⟨rfl, rfl, rfl⟩ := hcs
      exact ⟨zs, .inr ⟨_, rfl, hl, hm, by simpa using hz, hcell, hwz⟩⟩
  clear hA0 hval0
  refine (walk a0 len0 cap0 z0 a1 a2 len2 cap2 z2 W w0 w1 w2).mono fun e W' ⟨he, bel⟩ => ?_
  subst he
  exact ⟨_, rfl, _, _, _, [], _, [], hW', trodAll_mk1 (shut_bool Trym.underlying4 _), (trodAll_cons_mk (Below.trod laidOut (by kernel_rfl) (of_decide_eq_true (by kernel_rfl)) k0 bel lt0) (trodAll_cons_mk (shut_int Trym.underlying3 w1) (trodAll_cons_mk (Below.trod laidOut (by kernel_rfl) (of_decide_eq_true (by kernel_rfl)) k2 bel lt2) trodAll_mk0))), rfl, bel.frame _, fun h => by cases h⟩

theorem over : Rows.fnBufferScriptFewGrowthsRow.holds Trym.pinned (OpenSpec.ofChange Rows.fnBufferScriptFewGrowthsSpec) :=
  OpenClaim.holds_of_wide 3 Trym.f3 rfl rfl rfl rfl rfl rfl rfl ⟨rfl, rfl, rfl, rfl, rfl⟩ rfl rfl rfl rfl rfl (by kernel_rfl) Trym.func3 (by kernel_rfl)
    (of_decide_eq_true (by kernel_rfl)) (by unfold Func.isWrapper; first | (rw [if_pos (by decide +kernel)]; kernel_rfl) | (rw [if_neg (by decide +kernel)]; exact ⟨rfl, rfl⟩))
    (fun os started H enc _ => lifted os started H enc)

/-- ████ THE STATEMENT ████ -/
theorem proved : Rows.FnBufferScriptFewGrowthsSaid := over
#print axioms proved
end Go.Proofs.Qxb6602104aMods.fnBufferScriptFewGrowths
