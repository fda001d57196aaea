/-
  A PROOF OF 'Rows.FnIntRangeAtLastIsLastSaid': the given shell, its walk filled.
-/
import Derived.Test.Qxb6001774aModsRows
import Derived.WalkKit
import Derived.ProofKit
import Derived.OpenShut
import Derived.ShutString
import Derived.Test.Qxb6001774aModsParts
namespace Go.Proofs.Qxb6001774aMods.fnIntRangeAtLastIsLast
open Go.ChangeShapes Go.WideShapes Go.ChangeAt Go.RowKit
open Plain
set_option linter.unusedVariables false      -- a walk need not use every 'w<i>' (that an integer argument fits its kind)

theorem own : ownKnob Trym.prog.godebug = none := by kernel_rfl

/-! ### STEP 1: THE WALK: the Go text returns true. 'Grown w w'': the world has at most new blocks (Derived/RowKit3.lean). Part the cases AHEAD of 'go_enter' where a test parts the walk; take each callee by a contract of your own. -/
theorem walk (a0 : Int) (a1 : Int) (a2 : Int) (w0 : (Lit.int .i64 a0).wf = true) (w1 : (Lit.int .i64 a1).wf = true) (w2 : (Lit.int .i64 a2).wf = true) (w : World) :
    Calls Trym.prog 5 #[.int .i64 a0, .int .i64 a1, .int .i64 a2] w fun e w' => e = .returned (.bool true) ∧ Grown w w' := by
  have b0 := i64_of_wf w0
  have b1 := i64_of_wf w1
  have b2 := i64_of_wf w2
  clear w0 w1 w2
  by_cases hz : a2 = 0
  · subst hz
    go_enter Trym.func5, Trym.ntmps5
    go_wp2
    go_ret
    exact ⟨rfl, Grown.refl _⟩
  have hz' : (a2 == 0) = false := by simpa using hz
  by_cases hs : 0 < a2
  · by_cases hab : a0 < a1
    · obtain ⟨n, hn⟩ : ∃ n, (a1 - a0 - 1) / a2 + 1 = n := ⟨_, rfl⟩
      have hn0 : 0 ≤ (a1 - a0 - 1) / a2 := Int.ediv_nonneg (by omega) (by omega)
      have hn9 : (a1 - a0 - 1) / a2 ≤ a1 - a0 - 1 := Int.ediv_le_self _ (by omega)
      have hn1 : 0 < n := by omega
      have hn2 : (n == 0) = false := by simp; omega
      have hn3 : n ≤ 18446744073709551615 := by have := b0.1; have := b1.2; omega
      have C := len_pos a0 a1 a2 n b0 b1 b2 hs hab hn
      by_cases hlt : 9223372036854775807 < n - 1
      · clear hn hn0 hn9
        go_enter Trym.func5, Trym.ntmps5
        go_wp2_with fail
        refine (C _).mono ?_
        rintro e w1 ⟨rfl, rfl⟩
        go_wp2_with fail
        go_ret
        exact ⟨rfl, Grown.refl _⟩
      · have hd := dist (a1 - a0) a2 (n - 1) hs (by omega) (by omega)
        have hr := last_dist (a1 - a0) a2 (n - 1) hs (by omega)
        have hv := at_exact a0 a2 (n - 1) ⟨by have := b0.1; omega, by have := b1.2; omega⟩ b0
        obtain ⟨x, hx⟩ : ∃ x, a0 + (n - 1) * a2 = x := ⟨_, rfl⟩
        have D1 := at_any a0 a1 a2 (n - 1) x (hv.trans hx)
        generalize (n - 1) * a2 = p at hd hr hx
        have e1 : IntKind.u64.wrap (IntKind.u64.wrap a1 - IntKind.u64.wrap x) = a1 - x := by
          rw [sub_u64 _ _ (by omega) (by have := b0.1; have := b1.2; omega)]
        have hx0 : a0 ≤ x := by omega
        have hx1 : x < a1 := by omega
        have hx2 : a1 - x ≤ a2 := by omega
        obtain ⟨_, _⟩ := b2
        clear hn hn0 hn9 hv hd hr hx
        go_enter Trym.func5, Trym.ntmps5
        go_wp2_with fail
        refine (C _).mono ?_
        rintro e w1 ⟨rfl, rfl⟩
        go_wp2_with fail
        refine (D1 _).mono ?_
        rintro e w2 ⟨rfl, hg⟩
        go_wp2_with fail
        go_ret
        exact ⟨ret_bool (by simp), hg⟩
    · have C := len_none a0 a1 a2 (.inl ⟨hs, by omega⟩)
      go_enter Trym.func5, Trym.ntmps5
      go_wp2_with fail
      refine (C _).mono ?_
      rintro e w1 ⟨rfl, rfl⟩
      go_wp2_with fail
      go_ret
      exact ⟨rfl, Grown.refl _⟩
  · have hs2 : a2 < 0 := by omega
    by_cases hab : a1 < a0
    · obtain ⟨t, ht⟩ : ∃ t, -a2 = t := ⟨_, rfl⟩
      have ht0 : 0 < t := by omega
      obtain ⟨n, hn⟩ : ∃ n, (a0 - a1 - 1) / (-a2) + 1 = n := ⟨_, rfl⟩
      have hn0 : 0 ≤ (a0 - a1 - 1) / (-a2) := Int.ediv_nonneg (by omega) (by omega)
      have hn9 : (a0 - a1 - 1) / (-a2) ≤ a0 - a1 - 1 := Int.ediv_le_self _ (by omega)
      have hn1 : 0 < n := by omega
      have hn2 : (n == 0) = false := by simp; omega
      have hn3 : n ≤ 18446744073709551615 := by have := b1.1; have := b0.2; omega
      have C := len_neg a0 a1 a2 n b0 b1 b2 hs2 hab hn
      by_cases hlt : 9223372036854775807 < n - 1
      · clear hn hn0 hn9 ht
        go_enter Trym.func5, Trym.ntmps5
        go_wp2_with fail
        refine (C _).mono ?_
        rintro e w1 ⟨rfl, rfl⟩
        go_wp2_with fail
        go_ret
        exact ⟨rfl, Grown.refl _⟩
      · have e0 : IntKind.u64.wrap (-IntKind.u64.wrap a2) = t := (neg_u64 a2 b2 hs2).trans ht
        rw [ht] at hn hn0 hn9
        have hd := dist (a0 - a1) t (n - 1) ht0 (by omega) (by omega)
        have hr := last_dist (a0 - a1) t (n - 1) ht0 (by omega)
        have q1 : (n - 1) * a2 = -((n - 1) * t) := by rw [← ht, Int.mul_neg, Int.neg_neg]
        have hv := at_exact a0 a2 (n - 1) ⟨by rw [q1]; have := b1.1; omega, by rw [q1]; have := b0.2; omega⟩ b0
        obtain ⟨x, hx⟩ : ∃ x, a0 + (n - 1) * a2 = x := ⟨_, rfl⟩
        have D1 := at_any a0 a1 a2 (n - 1) x (hv.trans hx)
        rw [q1] at hx
        generalize (n - 1) * t = p at hd hr hx
        have e1 : IntKind.u64.wrap (IntKind.u64.wrap x - IntKind.u64.wrap a1) = x - a1 := by
          rw [sub_u64 _ _ (by omega) (by have := b1.1; have := b0.2; omega)]
        have hx0 : x ≤ a0 := by omega
        have hx1 : a1 < x := by omega
        have hx2 : x - a1 ≤ t := by omega
        obtain ⟨_, _⟩ := b2
        clear hn hn0 hn9 hv hd hr hx q1 ht
        go_enter Trym.func5, Trym.ntmps5
        go_wp2_with fail
        refine (C _).mono ?_
        rintro e w1 ⟨rfl, rfl⟩
        go_wp2_with fail
        refine (D1 _).mono ?_
        rintro e w2 ⟨rfl, hg⟩
        go_wp2_with fail
        go_ret
        exact ⟨ret_bool (by simp), hg⟩
    · have C := len_none a0 a1 a2 (.inr ⟨hs2, by omega⟩)
      go_enter Trym.func5, Trym.ntmps5
      go_wp2_with fail
      refine (C _).mono ?_
      rintro e w1 ⟨rfl, rfl⟩
      go_wp2_with fail
      go_ret
      exact ⟨rfl, Grown.refl _⟩

/-! ### THE ROW's STEP: WRITTEN OUT: LEAVE IT -/
set_option maxRecDepth 100000 in
theorem lifted (os : Os) (started : os.Started) (H : Type) (enc : TypeId × Value → H) :
    ReturnsInHanded {} Trym.checked os 5 .any (Rows.fnIntRangeAtLastIsLastSpec.pre6 enc Trym.prog Trym.f5 Rows.fnIntRangeAtLastIsLastRow.domain false) (Rows.fnIntRangeAtLastIsLastSpec.post enc Trym.prog Trym.f5 false true false false) := by
  refine returnsInHanded_of_change (C := Trym.checked) own started (by kernel_rfl) Trym.func5
    (ChangeSpec.witness6 (enc := enc) (C := Trym.checked) false ⟨#[], #[.int .i64 0, .int .i64 0, .int .i64 0], []⟩ 8 (by kernel_rfl) (by kernel_rfl) (by kernel_rfl) (by kernel_rfl)) ?_
  intro W base args ds gs before hval0 hW hcnd _
  have hval : ∀ (j : Nat) t v, Trym.f5.params[j]? = some t → args[j]? = some v → Value.okWide Trym.prog W .any base t v := hval0
  have hW' := hW
  obtain ⟨p, q, hA0, hV, rfl, hfz, hnd⟩ := hW
  have hA : DataW.TrodAll enc Trym.prog W 0 (fun _ => true) true Trym.f5.params.toList args.toList ds p := hA0
  rw [Trym.params5] at hA hval
  obtain ⟨v0, vs0, d0, ds0, p0, q0, hargs, rfl, rfl, h0, r0⟩ := trodAll_cons hA
  obtain ⟨v1, vs1, d1, ds1, p1, q1, rfl, rfl, rfl, h1, r1⟩ := trodAll_cons r0
  obtain ⟨v2, vs2, d2, ds2, p2, q2, rfl, rfl, rfl, h2, r2⟩ := trodAll_cons r1
  obtain ⟨rfl, rfl, rfl⟩ := trodAll_nil r2
  obtain rfl : args = #[v0, v1, v2] := by cases args; simp_all
  obtain ⟨rfl, rfl⟩ := trodVars_none hV
  obtain ⟨a0, rfl, rfl, rfl, w0⟩ := open_int Trym.underlying2 (hval 0 2 v0 rfl rfl) h0
  obtain ⟨a1, rfl, rfl, rfl, w1⟩ := open_int Trym.underlying2 (hval 1 2 v1 rfl rfl) h1
  obtain ⟨a2, rfl, rfl, rfl, w2⟩ := open_int Trym.underlying2 (hval 2 2 v2 rfl rfl) h2
  clear hA0 hval0
  simp only [List.append_nil] at hW'
  refine (walk a0 a1 a2 w0 w1 w2 W).mono fun e W' ⟨he, hg⟩ => ?_
  subst he
  exact ⟨_, rfl, post_of_same (pa := []) (pv := []) hW' (fun _ _ _ => (trodAll_cons_mk (shut_bool Trym.underlying4 _) trodAll_mk0)) (fun sp _ => (trodAll_cons_mk (shut_int Trym.underlying2 w0) (trodAll_cons_mk (shut_int Trym.underlying2 w1) (trodAll_cons_mk (shut_int Trym.underlying2 w2) trodAll_mk0)))) (fun _ _ => rfl) rfl
    (hg.frame _) hg.2.1 (ok_one (by kernel_rfl) rfl (okWide_bool_mk Trym.underlying4 _))⟩

theorem over : Rows.fnIntRangeAtLastIsLastRow.holds Trym.pinned (OpenSpec.ofChange Rows.fnIntRangeAtLastIsLastSpec) :=
  OpenClaim.holds_of_wide 5 Trym.f5 rfl rfl rfl rfl rfl rfl rfl ⟨rfl, rfl, rfl, rfl, rfl⟩ rfl rfl rfl rfl rfl (by kernel_rfl) Trym.func5 (by kernel_rfl)
    (of_decide_eq_true (by kernel_rfl)) (by unfold Func.isWrapper; first | (rw [if_pos (by decide +kernel)]; kernel_rfl) | (rw [if_neg (by decide +kernel)]; exact ⟨rfl, rfl⟩))
    (fun os started H enc _ => lifted os started H enc)

/-- ████ THE STATEMENT ████ -/
theorem proved : Rows.FnIntRangeAtLastIsLastSaid :=
  over
#print axioms proved
end Go.Proofs.Qxb6001774aMods.fnIntRangeAtLastIsLast
