/-
  A PROOF OF 'Rows.FnSkipQuotedIgnoresWhatLiesBeforeAndAfterSaid': the given shell, its walk filled.
-/
import Derived.Test.Qxb6600032aModsRows
import Derived.WalkKit
import Derived.ProofKit
import Derived.OpenShut
import Derived.ShutString
import Derived.Test.Qxb6600032aModsAid
namespace Go.Proofs.Qxb6600032aMods.fnSkipQuotedIgnoresWhatLiesBeforeAndAfter
open Go.ChangeShapes Go.WideShapes Go.ChangeAt Go.RowKit
open Go.ChangeMaps (open_string shut_string)
open Plain
set_option linter.unusedVariables false      -- a walk need not use every 'w<i>' (that an integer argument fits its kind)

theorem own : ownKnob Trym.prog.godebug = none := by kernel_rfl

theorem bytes_yes (a0 a1 a2 : ByteArray) (a3 a4 : Int) (a5 : Bool) (h : a0.size + a1.size + a2.size ≤ 1048576) (w : World) :
    Calls Trym.prog 18 #[.string a0, .string a1, .string a2, .int .i64 a3, .int .u8 a4, .bool a5] w fun e w' => e = .returned (.bool true) ∧ w' = w := by
  have h0 : ¬ (1048576 : Int) < (a0.size : Int) := by omega
  have h1 : ¬ (1048576 : Int) < (a1.size : Int) := by omega
  have h2 : ¬ (1048576 : Int) < (a2.size : Int) := by omega
  have h3 : ¬ (1048576 : Int) < (a0.size : Int) + (a1.size : Int) := by omega
  have h4 : ¬ (1048576 : Int) < (a0.size : Int) + (a1.size : Int) + (a2.size : Int) := by omega
  go_enter Trym.func18, Trym.ntmps18
  go_wp2
  go_ret
  exact ⟨rfl, rfl⟩
theorem bytes_no (a0 a1 a2 : ByteArray) (a3 a4 : Int) (a5 : Bool) (h : ¬ a0.size + a1.size + a2.size ≤ 1048576) (w : World) :
    Calls Trym.prog 18 #[.string a0, .string a1, .string a2, .int .i64 a3, .int .u8 a4, .bool a5] w fun e w' => e = .returned (.bool false) ∧ w' = w := by
  go_enter Trym.func18, Trym.ntmps18
  go_wp2
  all_goals
    go_ret
    exact ⟨rfl, rfl⟩

/-! ### STEP 1: THE WALK: the Go text returns true. 'Grown w w'': the world has at most new blocks (Derived/RowKit3.lean). Part the cases AHEAD of 'go_enter' where a test parts the walk; take each callee by a contract of your own. -/
set_option maxHeartbeats 400000 in
theorem walk (a0 : ByteArray) (a1 : ByteArray) (a2 : ByteArray) (a3 : Int) (a4 : Int) (a5 : Bool) (w0 : a0.size ≤ maxLen) (w1 : a1.size ≤ maxLen) (w2 : a2.size ≤ maxLen) (w3 : (Lit.int .i64 a3).wf = true) (w4 : (Lit.int .u8 a4).wf = true) (w : World) :
    Calls Trym.prog 7 #[.string a0, .string a1, .string a2, .int .i64 a3, .int .u8 a4, .bool a5] w fun e w' => e = .returned (.bool true) ∧ Grown w w' := by
  clear w0 w1 w2 w3 w4
  by_cases hb : a0.size + a1.size + a2.size ≤ 1048576
  · have h0 : ¬ (1048576 : Int) < (a0.size : Int) := by omega
    have h1 : ¬ (1048576 : Int) < (a1.size : Int) := by omega
    have h2 : ¬ (1048576 : Int) < (a2.size : Int) := by omega
    have h4 : ¬ (1048576 : Int) < (a0.size : Int) + (a1.size : Int) + (a2.size : Int) := by omega
    have B := bytes_yes a0 a1 a2 a3 a4 a5 hb
    by_cases hp0 : a3 < 0
    · go_enter Trym.func7, Trym.ntmps7
      go_wp2_with fail
      refine (B _).mono ?_
      rintro e w1 ⟨rfl, rfl⟩
      go_wp2_with fail
      go_ret
      exact ⟨rfl, Grown.refl _⟩
    by_cases hp1 : (a1.size : Int) ≤ a3
    · go_enter Trym.func7, Trym.ntmps7
      go_wp2_with fail
      refine (B _).mono ?_
      rintro e w1 ⟨rfl, rfl⟩
      go_wp2_with fail
      go_ret
      exact ⟨rfl, Grown.refl _⟩
    obtain ⟨p, rfl⟩ := Int.eq_ofNat_of_zero_le (show 0 ≤ a3 by omega)
    have hpl : p + 1 ≤ a1.data.toList.length := by rw [len_bytes]; omega
    have C1 := zskip a1 (by omega) p (by omega) _ rfl a4 a5
    have C2 := zskip (a0 ++ a1) (by rw [app_size]; omega) (a0.size + p) (by rw [app_size]; omega) ((a0.size : Int) + (p : Int)) (by omega) a4 a5
    have C3 := zskip (a1 ++ a2) (by rw [app_size]; omega) p (by rw [app_size]; omega) _ rfl a4 a5
    have s2 := stop_shift a4 a5 a0.data.toList a1.data.toList (p + 1) hpl
    rw [← app_bytes, len_bytes, ← Nat.add_assoc] at s2
    rw [s2] at C2
    have hge := stop_ge a4 a5 a1.data.toList (p + 1) hpl
    have hcl := stop_close_at a4 a5 a1.data.toList (p + 1) hpl
    have s3 := stop_tail a4 a5 a1.data.toList a2.data.toList (p + 1) hpl
    rw [← app_bytes] at s3
    rw [len_bytes] at hge hcl s3
    clear s2 hpl
    generalize hr : stop a4 a5 a1.data.toList (p + 1) = r at *
    rw [show ((a0.size + r : Nat) : Int) = (a0.size : Int) + (r : Int) from by omega] at C2
    clear hr
    obtain ⟨hr0, hr1⟩ := hge
    by_cases hlt : r < a1.size
    · obtain ⟨hr2, ⟨c, hc, hcq⟩, d, hd, hdq⟩ := hcl hlt
      rw [s3 hlt] at C3
      have X1 := index_at a1 (r - 1) ((r : Int) - 1) (by omega) c hc
      have X2 := index_at a1 r _ rfl d hd
      rw [hcq] at X1
      generalize num d = z at *
      have hz : (z == a4) = false := by simpa using hdq
      clear s3 hcl hc hd hcq hdq hb
      go_enter Trym.func7, Trym.ntmps7
      go_wp2_with fail
      refine (B _).mono ?_
      rintro e w1 ⟨rfl, rfl⟩
      go_wp2_with fail
      refine (C1 _).mono ?_
      rintro e w1 ⟨rfl, hg1⟩
      go_wp2_with fail
      refine (C2 _).mono ?_
      rintro e w2 ⟨rfl, hg2⟩
      go_wp2_with fail
      refine (C3 _).mono ?_
      rintro e w3 ⟨rfl, hg3⟩
      go_wp2_with fail
      go_ret
      exact ⟨rfl, grown_trans hg1 (grown_trans hg2 hg3)⟩
    · clear s3 hcl C3 hb
      go_enter Trym.func7, Trym.ntmps7
      go_wp2_with fail
      refine (B _).mono ?_
      rintro e w1 ⟨rfl, rfl⟩
      go_wp2_with fail
      refine (C1 _).mono ?_
      rintro e w1 ⟨rfl, hg1⟩
      go_wp2_with fail
      refine (C2 _).mono ?_
      rintro e w2 ⟨rfl, hg2⟩
      go_wp2_with fail
      go_ret
      exact ⟨rfl, grown_trans hg1 hg2⟩
  · have B := bytes_no a0 a1 a2 a3 a4 a5 hb
    go_enter Trym.func7, Trym.ntmps7
    go_wp2_with fail
    refine (B _).mono ?_
    rintro e w1 ⟨rfl, rfl⟩
    go_wp2_with fail
    go_ret
    exact ⟨rfl, Grown.refl _⟩

/-! ### THE ROW's STEP: WRITTEN OUT: LEAVE IT -/
set_option maxRecDepth 100000 in
theorem lifted (os : Os) (started : os.Started) (H : Type) (enc : TypeId × Value → H) :
    ReturnsInHanded {} Trym.checked os 7 .any (Rows.fnSkipQuotedIgnoresWhatLiesBeforeAndAfterSpec.pre6 enc Trym.prog Trym.f7 Rows.fnSkipQuotedIgnoresWhatLiesBeforeAndAfterRow.domain false) (Rows.fnSkipQuotedIgnoresWhatLiesBeforeAndAfterSpec.post enc Trym.prog Trym.f7 false true false false) := by
  refine returnsInHanded_of_change (C := Trym.checked) own started (by kernel_rfl) Trym.func7
    (ChangeSpec.witness6 (enc := enc) (C := Trym.checked) false ⟨#[], #[.string ByteArray.empty, .string ByteArray.empty, .string ByteArray.empty, .int .i64 0, .int .u8 0, .bool false], []⟩ 8 (by kernel_rfl) (by kernel_rfl) (by kernel_rfl) (by kernel_rfl)) ?_
  intro W base args ds gs before hval0 hW hcnd _
  have hval : ∀ (j : Nat) t v, Trym.f7.params[j]? = some t → args[j]? = some v → Value.okWide Trym.prog W .any base t v := hval0
  have hW' := hW
  obtain ⟨p, q, hA0, hV, rfl, hfz, hnd⟩ := hW
  have hA : DataW.TrodAll enc Trym.prog W 0 (fun _ => true) true Trym.f7.params.toList args.toList ds p := hA0
  rw [Trym.params7] at hA hval
  obtain ⟨v0, vs0, d0, ds0, p0, q0, hargs, rfl, rfl, h0, r0⟩ := trodAll_cons hA
  obtain ⟨v1, vs1, d1, ds1, p1, q1, rfl, rfl, rfl, h1, r1⟩ := trodAll_cons r0
  obtain ⟨v2, vs2, d2, ds2, p2, q2, rfl, rfl, rfl, h2, r2⟩ := trodAll_cons r1
  obtain ⟨v3, vs3, d3, ds3, p3, q3, rfl, rfl, rfl, h3, r3⟩ := trodAll_cons r2
  obtain ⟨v4, vs4, d4, ds4, p4, q4, rfl, rfl, rfl, h4, r4⟩ := trodAll_cons r3
  obtain ⟨v5, vs5, d5, ds5, p5, q5, rfl, rfl, rfl, h5, r5⟩ := trodAll_cons r4
  obtain ⟨rfl, rfl, rfl⟩ := trodAll_nil r5
  obtain rfl : args = #[v0, v1, v2, v3, v4, v5] := by cases args; simp_all
  obtain ⟨rfl, rfl⟩ := trodVars_none hV
  obtain ⟨a0, rfl, rfl, rfl, w0⟩ := open_string Trym.underlying9 (hval 0 9 v0 rfl rfl) h0
  obtain ⟨a1, rfl, rfl, rfl, w1⟩ := open_string Trym.underlying9 (hval 1 9 v1 rfl rfl) h1
  obtain ⟨a2, rfl, rfl, rfl, w2⟩ := open_string Trym.underlying9 (hval 2 9 v2 rfl rfl) h2
  obtain ⟨a3, rfl, rfl, rfl, w3⟩ := open_int Trym.underlying3 (hval 3 3 v3 rfl rfl) h3
  obtain ⟨a4, rfl, rfl, rfl, w4⟩ := open_int Trym.underlying5 (hval 4 5 v4 rfl rfl) h4
  obtain ⟨a5, rfl, rfl, rfl⟩ := open_bool Trym.underlying4 (hval 5 4 v5 rfl rfl) h5
  clear hA0 hval0
  simp only [List.append_nil] at hW'
  refine (walk a0 a1 a2 a3 a4 a5 w0 w1 w2 w3 w4 W).mono fun e W' ⟨he, hg⟩ => ?_
  subst he
  exact ⟨_, rfl, post_of_same (pa := []) (pv := []) hW' (fun _ _ _ => (trodAll_cons_mk (shut_bool Trym.underlying4 _) trodAll_mk0)) (fun sp _ => (trodAll_cons_mk (shut_string Trym.underlying9 w0) (trodAll_cons_mk (shut_string Trym.underlying9 w1) (trodAll_cons_mk (shut_string Trym.underlying9 w2) (trodAll_cons_mk (shut_int Trym.underlying3 w3) (trodAll_cons_mk (shut_int Trym.underlying5 w4) (trodAll_cons_mk (shut_bool Trym.underlying4 _) trodAll_mk0))))))) (fun _ _ => rfl) rfl
    (hg.frame _) hg.2.1 (ok_one (by kernel_rfl) rfl (okWide_bool_mk Trym.underlying4 _))⟩

theorem over : Rows.fnSkipQuotedIgnoresWhatLiesBeforeAndAfterRow.holds Trym.pinned (OpenSpec.ofChange Rows.fnSkipQuotedIgnoresWhatLiesBeforeAndAfterSpec) :=
  OpenClaim.holds_of_wide 7 Trym.f7 rfl rfl rfl rfl rfl rfl rfl ⟨rfl, rfl, rfl, rfl, rfl⟩ rfl rfl rfl rfl rfl (by kernel_rfl) Trym.func7 (by kernel_rfl)
    (of_decide_eq_true (by kernel_rfl)) (by unfold Func.isWrapper; first | (rw [if_pos (by decide +kernel)]; kernel_rfl) | (rw [if_neg (by decide +kernel)]; exact ⟨rfl, rfl⟩))
    (fun os started H enc _ => lifted os started H enc)

/-- ████ THE STATEMENT ████ -/
theorem proved : Rows.FnSkipQuotedIgnoresWhatLiesBeforeAndAfterSaid :=
  over
#print axioms proved
end Go.Proofs.Qxb6600032aMods.fnSkipQuotedIgnoresWhatLiesBeforeAndAfter
