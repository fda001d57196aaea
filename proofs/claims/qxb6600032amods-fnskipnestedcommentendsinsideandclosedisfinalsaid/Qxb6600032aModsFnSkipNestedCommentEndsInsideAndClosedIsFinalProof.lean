/-
  A PROOF OF 'Rows.FnSkipNestedCommentEndsInsideAndClosedIsFinalSaid': the given shell, its walk filled.
-/
import Derived.Test.Qxb6600032aModsRows
import Derived.WalkKit
import Derived.ProofKit
import Derived.OpenShut
import Derived.ShutString
import Derived.Test.Qxb6600032aModsAid
import Derived.Test.Qxb6600032aModsNest
namespace Go.Proofs.Qxb6600032aMods.fnSkipNestedCommentEndsInsideAndClosedIsFinal
open Go.ChangeShapes Go.WideShapes Go.ChangeAt Go.RowKit
open Go.ChangeMaps (open_string shut_string)
open Nest
set_option linter.unusedVariables false      -- a walk need not use every 'w<i>' (that an integer argument fits its kind)

theorem own : ownKnob Trym.prog.godebug = none := by kernel_rfl

theorem bytes_yes (a0 a1 : ByteArray) (a2 : Int) (h : a0.size + a1.size ≤ 1048576) (w : World) :
    Calls Trym.prog 14 #[.string a0, .string a1, .int .i64 a2] w fun e w' => e = .returned (.bool true) ∧ w' = w := by
  have h0 : ¬ (1048576 : Int) < (a0.size : Int) := by omega
  have h1 : ¬ (1048576 : Int) < (a1.size : Int) := by omega
  have h3 : ¬ (1048576 : Int) < (a0.size : Int) + (a1.size : Int) := by omega
  go_enter Trym.func14, Trym.ntmps14
  go_wp2
  go_ret
  exact ⟨rfl, rfl⟩
theorem bytes_no (a0 a1 : ByteArray) (a2 : Int) (h : ¬ a0.size + a1.size ≤ 1048576) (w : World) :
    Calls Trym.prog 14 #[.string a0, .string a1, .int .i64 a2] w fun e w' => e = .returned (.bool false) ∧ w' = w := by
  go_enter Trym.func14, Trym.ntmps14
  go_wp2
  all_goals
    go_ret
    exact ⟨rfl, rfl⟩
theorem num42 : Plain.num 42 = 42 := by decide
theorem num47 : Plain.num 47 = 47 := by decide

/-! ### STEP 1: THE WALK: the Go text returns true. 'Grown w w'': the world has at most new blocks (Derived/RowKit3.lean). Part the cases AHEAD of 'go_enter' where a test parts the walk; take each callee by a contract of your own. -/
set_option maxHeartbeats 400000 in
theorem walk (a0 : ByteArray) (a1 : ByteArray) (a2 : Int) (w0 : a0.size ≤ maxLen) (w1 : a1.size ≤ maxLen) (w2 : (Lit.int .i64 a2).wf = true) (w : World) :
    Calls Trym.prog 5 #[.string a0, .string a1, .int .i64 a2] w fun e w' => e = .returned (.bool true) ∧ Grown w w' := by
  clear w0 w1 w2
  by_cases hb : a0.size + a1.size ≤ 1048576
  · have h0 : ¬ (1048576 : Int) < (a0.size : Int) := by omega
    have h1 : ¬ (1048576 : Int) < (a1.size : Int) := by omega
    have h4 : ¬ (1048576 : Int) < (a0.size : Int) + (a1.size : Int) := by omega
    have B := bytes_yes a0 a1 a2 hb
    by_cases hp0 : a2 < 0
    · go_enter Trym.func5, Trym.ntmps5
      go_wp2_with fail
      refine (B _).mono ?_
      rintro e w1 ⟨rfl, rfl⟩
      go_wp2_with fail
      go_ret
      exact ⟨rfl, Grown.refl _⟩
    by_cases hp1 : (a0.size : Int) < a2
    · go_enter Trym.func5, Trym.ntmps5
      go_wp2_with fail
      refine (B _).mono ?_
      rintro e w1 ⟨rfl, rfl⟩
      go_wp2_with fail
      go_ret
      exact ⟨rfl, Grown.refl _⟩
    obtain ⟨p, rfl⟩ := Int.eq_ofNat_of_zero_le (show 0 ≤ a2 by omega)
    have hpl : p ≤ a0.data.toList.length := by rw [len_bytes]; omega
    have C1 := znest a0 (by omega) p (by omega)
    have C2 := znest (a0 ++ a1) (by rw [app_size]; omega) p (by rw [app_size]; omega)
    have hge := fin_ge a0.data.toList p hpl
    have hcl := fin_close a0.data.toList p
    have s3 := fin_tail a0.data.toList a1.data.toList p hpl
    rw [← app_bytes] at s3
    rw [len_bytes] at hge hcl s3
    clear hpl
    generalize hr : fin a0.data.toList p = r at *
    clear hr
    obtain ⟨hr0, hr1⟩ := hge
    by_cases hlt : r < a0.size
    · obtain ⟨hr2, hc, hd⟩ := hcl hlt
      rw [s3 hlt] at C2
      have X1 := index_at a0 (r - 2) ((r : Int) - 2) (by omega) 42 hc
      have X2 := index_at a0 (r - 1) ((r : Int) - 1) (by omega) 47 hd
      rw [num42] at X1
      rw [num47] at X2
      clear s3 hcl hc hd hb
      go_enter Trym.func5, Trym.ntmps5
      go_wp2_with fail
      refine (B _).mono ?_
      rintro e w1 ⟨rfl, rfl⟩
      go_wp2_with fail
      refine (C1 _).mono ?_
      rintro e w1 ⟨rfl, hg1⟩
      go_wp2_with fail
      refine (C2 _).mono ?_
      rintro e w2 ⟨rfl, hg2⟩
      go_wp2_with fail
      go_ret
      exact ⟨rfl, grown_trans hg1 hg2⟩
    · clear s3 hcl C2 hb
      go_enter Trym.func5, Trym.ntmps5
      go_wp2_with fail
      refine (B _).mono ?_
      rintro e w1 ⟨rfl, rfl⟩
      go_wp2_with fail
      refine (C1 _).mono ?_
      rintro e w1 ⟨rfl, hg1⟩
      go_wp2_with fail
      go_ret
      exact ⟨rfl, hg1⟩
  · have B := bytes_no a0 a1 a2 hb
    go_enter Trym.func5, Trym.ntmps5
    go_wp2_with fail
    refine (B _).mono ?_
    rintro e w1 ⟨rfl, rfl⟩
    go_wp2_with fail
    go_ret
    exact ⟨rfl, Grown.refl _⟩

/-! ### THE ROW's STEP: WRITTEN OUT: LEAVE IT -/
set_option maxRecDepth 100000 in
theorem lifted (os : Os) (started : os.Started) (H : Type) (enc : TypeId × Value → H) :
    ReturnsInHanded {} Trym.checked os 5 .any (Rows.fnSkipNestedCommentEndsInsideAndClosedIsFinalSpec.pre6 enc Trym.prog Trym.f5 Rows.fnSkipNestedCommentEndsInsideAndClosedIsFinalRow.domain false) (Rows.fnSkipNestedCommentEndsInsideAndClosedIsFinalSpec.post enc Trym.prog Trym.f5 false true false false) := by
  refine returnsInHanded_of_change (C := Trym.checked) own started (by kernel_rfl) Trym.func5
    (ChangeSpec.witness6 (enc := enc) (C := Trym.checked) false ⟨#[], #[.string ByteArray.empty, .string ByteArray.empty, .int .i64 0], []⟩ 8 (by kernel_rfl) (by kernel_rfl) (by kernel_rfl) (by kernel_rfl)) ?_
  intro W base args ds gs before hval0 hW hcnd _
  have hval : ∀ (j : Nat) t v, Trym.f5.params[j]? = some t → args[j]? = some v → Value.okWide Trym.prog W .any base t v := hval0
  have hW' := hW
  obtain ⟨p, q, hA0, hV, rfl, hfz, hnd⟩ := hW
  have hA : DataW.TrodAll enc Trym.prog W 0 (fun _ => true) true Trym.f5.params.toList args.toList ds p := hA0
  rw [Trym.params5] at hA hval
  obtain ⟨v0, vs0, d0, ds0, p0, q0, hargs, rfl, rfl, h0, r0⟩ := trodAll_cons hA
  obtain ⟨v1, vs1, d1, ds1, p1, q1, rfl, rfl, rfl, h1, r1⟩ := trodAll_cons r0
  obtain ⟨v2, vs2, d2, ds2, p2, q2, rfl, rfl, rfl, h2, r2⟩ := trodAll_cons r1
  obtain ⟨rfl, rfl, rfl⟩ := trodAll_nil r2
  obtain rfl : args = #[v0, v1, v2] := by cases args; simp_all
  obtain ⟨rfl, rfl⟩ := trodVars_none hV
  obtain ⟨a0, rfl, rfl, rfl, w0⟩ := open_string Trym.underlying9 (hval 0 9 v0 rfl rfl) h0
  obtain ⟨a1, rfl, rfl, rfl, w1⟩ := open_string Trym.underlying9 (hval 1 9 v1 rfl rfl) h1
  obtain ⟨a2, rfl, rfl, rfl, w2⟩ := open_int Trym.underlying3 (hval 2 3 v2 rfl rfl) h2
  clear hA0 hval0
  simp only [List.append_nil] at hW'
  refine (walk a0 a1 a2 w0 w1 w2 W).mono fun e W' ⟨he, hg⟩ => ?_
  subst he
  exact ⟨_, rfl, post_of_same (pa := []) (pv := []) hW' (fun _ _ _ => (trodAll_cons_mk (shut_bool Trym.underlying4 _) trodAll_mk0)) (fun sp _ => (trodAll_cons_mk (shut_string Trym.underlying9 w0) (trodAll_cons_mk (shut_string Trym.underlying9 w1) (trodAll_cons_mk (shut_int Trym.underlying3 w2) trodAll_mk0)))) (fun _ _ => rfl) rfl
    (hg.frame _) hg.2.1 (ok_one (by kernel_rfl) rfl (okWide_bool_mk Trym.underlying4 _))⟩

theorem over : Rows.fnSkipNestedCommentEndsInsideAndClosedIsFinalRow.holds Trym.pinned (OpenSpec.ofChange Rows.fnSkipNestedCommentEndsInsideAndClosedIsFinalSpec) :=
  OpenClaim.holds_of_wide 5 Trym.f5 rfl rfl rfl rfl rfl rfl rfl ⟨rfl, rfl, rfl, rfl, rfl⟩ rfl rfl rfl rfl rfl (by kernel_rfl) Trym.func5 (by kernel_rfl)
    (of_decide_eq_true (by kernel_rfl)) (by unfold Func.isWrapper; first | (rw [if_pos (by decide +kernel)]; kernel_rfl) | (rw [if_neg (by decide +kernel)]; exact ⟨rfl, rfl⟩))
    (fun os started H enc _ => lifted os started H enc)

/-- ████ THE STATEMENT ████ -/
theorem proved : Rows.FnSkipNestedCommentEndsInsideAndClosedIsFinalSaid :=
  over
#print axioms proved
end Go.Proofs.Qxb6600032aMods.fnSkipNestedCommentEndsInsideAndClosedIsFinal
