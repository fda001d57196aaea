/-
  A PROOF OF 'Rows.FnSkipQuotedStopsAtTheCloseOfAnEncodedTextSaid': the given shell, its walk filled.
-/
import Derived.Test.Qxb6600032aModsRows
import Derived.WalkKit
import Derived.ProofKit
import Derived.OpenShut
import Derived.ShutString
import Derived.Test.Qxb6600032aModsAid
import Derived.Test.Qxb6600032aModsEnc
namespace Go.Proofs.Qxb6600032aMods.fnSkipQuotedStopsAtTheCloseOfAnEncodedText
open Go.ChangeShapes Go.WideShapes Go.ChangeAt Go.RowKit
open Go.ChangeMaps (open_string shut_string)
open Plain
set_option linter.unusedVariables false      -- a walk need not use every 'w<i>' (that an integer argument fits its kind)

theorem own : ownKnob Trym.prog.godebug = none := by kernel_rfl

theorem bytes_yes (a0 a1 : ByteArray) (a2 : Int) (a3 : Bool) (h : a0.size + a1.size ≤ 1048576) (w : World) :
    Calls Trym.prog 15 #[.string a0, .string a1, .int .u8 a2, .bool a3] w fun e w' => e = .returned (.bool true) ∧ w' = w := by
  have h0 : ¬ (1048576 : Int) < (a0.size : Int) := by omega
  have h1 : ¬ (1048576 : Int) < (a1.size : Int) := by omega
  have h3 : ¬ (1048576 : Int) < (a0.size : Int) + (a1.size : Int) := by omega
  go_enter Trym.func15, Trym.ntmps15
  go_wp2
  go_ret
  exact ⟨rfl, rfl⟩
theorem bytes_no (a0 a1 : ByteArray) (a2 : Int) (a3 : Bool) (h : ¬ a0.size + a1.size ≤ 1048576) (w : World) :
    Calls Trym.prog 15 #[.string a0, .string a1, .int .u8 a2, .bool a3] w fun e w' => e = .returned (.bool false) ∧ w' = w := by
  go_enter Trym.func15, Trym.ntmps15
  go_wp2
  all_goals
    go_ret
    exact ⟨rfl, rfl⟩

/-- The quote as a byte. -/
theorem byte_of (z : Int) (h : (Lit.int .u8 z).wf = true) : ∃ q : UInt8, z = num q := by
  simp [Lit.wf, IntKind.min, IntKind.max, IntKind.signed, IntKind.bits] at h
  refine ⟨UInt8.ofNat z.toNat, ?_⟩
  unfold num
  rw [UInt8.toNat_ofNat']
  omega

/-- THE PLAIN LAW at the walk's own values: what 'encodeQuoted' gives (E), and where the scanner stops over E and the tail. -/
theorem law (a0 a1 : ByteArray) (a2 : Int) (a3 : Bool) (w2 : (Lit.int .u8 a2).wf = true) (hb : a0.size + a1.size ≤ 1048576) (h92 : (a3 && (a2 == 92)) = false) (hm : ∀ c, a1.data.toList[0]? = some c → (num c == a2) = false) :
    ∃ E : ByteArray, (∀ w, Calls Trym.prog 16 #[.string a0, .int .u8 a2, .bool a3] w fun e w' => e = .returned (.string E) ∧ Below w.heap.size w w') ∧
      (∀ w, Calls Trym.prog 17 #[.string (E ++ a1), .int .i64 0, .int .u8 a2, .bool a3] w fun e w' => e = .returned (.int .i64 E.size) ∧ Grown w w') ∧ E.size ≤ 2097154 := by
  obtain ⟨q, rfl⟩ := byte_of a2 w2
  obtain ⟨l, hl⟩ : ∃ l, q :: (body q a3 a0.data.toList ++ [q]) = l := ⟨_, rfl⟩
  have hlen : l.length ≤ 2 * a0.size + 2 := by
    have := body_len q a3 a0.data.toList
    rw [len_bytes] at this
    rw [← hl]; simp; omega
  have hsize : (⟨l.toArray⟩ : ByteArray).size = l.length := List.size_toArray
  have happ : ((⟨l.toArray⟩ : ByteArray) ++ a1).data.toList = l ++ a1.data.toList := by rw [app_bytes]
  have hpos : 0 < l.length := by rw [← hl]; simp
  have C2 := zskip (⟨l.toArray⟩ ++ a1) (by rw [app_size, hsize]; omega) 0 (by rw [app_size, hsize]; omega) 0 rfl (num q) a3
  have hs := stop_enc q a3 a0.data.toList a1.data.toList h92 (fun d r e => hm d (by rw [e]; rfl))
  rw [hl] at hs
  rw [happ, hs, ← hsize] at C2
  exact ⟨⟨l.toArray⟩, enc_any a0 (by omega) (num q) a3 l (by rw [← hl]; exact whole_num q a3 a0.data.toList), C2, by rw [hsize]; omega⟩

/-! ### STEP 1: THE WALK: the Go text returns true. Of what was there nothing has turned. Part the cases AHEAD of 'go_enter' where a test parts the walk; take each callee by a contract of your own. -/
set_option maxHeartbeats 1000000 in
theorem walk (a0 : ByteArray) (a1 : ByteArray) (a2 : Int) (a3 : Bool) (w0 : a0.size ≤ maxLen) (w1 : a1.size ≤ maxLen) (w2 : (Lit.int .u8 a2).wf = true) (w : World) :
    Calls Trym.prog 6 #[.string a0, .string a1, .int .u8 a2, .bool a3] w fun e w' => e = .returned (.bool true) ∧ w.keptBut w' (fun _ => False) := by
  clear w0 w1
  by_cases hb : a0.size + a1.size ≤ 1048576
  · have h0 : ¬ (1048576 : Int) < (a0.size : Int) := by omega
    have h1 : ¬ (1048576 : Int) < (a1.size : Int) := by omega
    have h4 : ¬ (1048576 : Int) < (a0.size : Int) + (a1.size : Int) := by omega
    have B := bytes_yes a0 a1 a2 a3 hb
    cases a3
    · by_cases htl : 0 < a1.size
      · obtain ⟨c, hc⟩ : ∃ c, a1.data.toList[0]? = some c := ⟨a1.data.toList[0]'(by rw [len_bytes]; exact htl), List.getElem?_eq_getElem _⟩
        have X := index_at a1 0 0 rfl c hc
        have hm : ∀ d, a1.data.toList[0]? = some d → d = c := fun d hd => by rw [hc] at hd; exact (Option.some.inj hd).symm
        have ht' : (0 : Int) < (a1.size : Int) := by omega
        by_cases hq : (num c == a2) = true
        · clear hm hc
          generalize num c = z at *
          go_enter Trym.func6, Trym.ntmps6
          go_wp2_with fail
          refine (B _).mono ?_
          rintro e w1 ⟨rfl, rfl⟩
          go_wp2_with fail
          go_ret
          exact ⟨rfl, World.keptBut_refl _ _⟩
        · have hq' : (num c == a2) = false := by simpa using hq
          clear hq
          obtain ⟨E, C1, C2, hE⟩ := law a0 a1 a2 false w2 hb rfl (fun d hd => by rw [hm d hd]; exact hq')
          clear hm hc
          generalize num c = z at *
          go_enter Trym.func6, Trym.ntmps6
          go_wp2_with fail
          refine (B _).mono ?_
          rintro e w1 ⟨rfl, rfl⟩
          go_wp2_with fail
          refine (C1 _).mono ?_
          rintro e w1 ⟨rfl, hb1⟩
          go_wp2_with fail
          refine (C2 _).mono ?_
          rintro e w2 ⟨rfl, hg2⟩
          go_wp2_with fail
          go_ret
          exact ⟨rfl, World.keptBut_trans (hb1.frame _) hg2.1⟩
      · obtain ⟨E, C1, C2, hE⟩ := law a0 a1 a2 false w2 hb rfl (fun d hd => absurd (List.getElem?_eq_some_iff.1 hd).1 (by rw [len_bytes]; omega))
        have ht' : ¬ (0 : Int) < (a1.size : Int) := by omega
        go_enter Trym.func6, Trym.ntmps6
        go_wp2_with fail
        refine (B _).mono ?_
        rintro e w1 ⟨rfl, rfl⟩
        go_wp2_with fail
        refine (C1 _).mono ?_
        rintro e w1 ⟨rfl, hb1⟩
        go_wp2_with fail
        refine (C2 _).mono ?_
        rintro e w2 ⟨rfl, hg2⟩
        go_wp2_with fail
        go_ret
        exact ⟨rfl, World.keptBut_trans (hb1.frame _) hg2.1⟩
    · by_cases h92 : (a2 == 92) = true
      · go_enter Trym.func6, Trym.ntmps6
        go_wp2_with fail
        refine (B _).mono ?_
        rintro e w1 ⟨rfl, rfl⟩
        go_wp2_with fail
        go_ret
        exact ⟨rfl, World.keptBut_refl _ _⟩
      have h93 : (a2 == 92) = false := by simpa using h92
      clear h92
      by_cases htl : 0 < a1.size
      · obtain ⟨c, hc⟩ : ∃ c, a1.data.toList[0]? = some c := ⟨a1.data.toList[0]'(by rw [len_bytes]; exact htl), List.getElem?_eq_getElem _⟩
        have X := index_at a1 0 0 rfl c hc
        have hm : ∀ d, a1.data.toList[0]? = some d → d = c := fun d hd => by rw [hc] at hd; exact (Option.some.inj hd).symm
        have ht' : (0 : Int) < (a1.size : Int) := by omega
        by_cases hq : (num c == a2) = true
        · clear hm hc
          generalize num c = z at *
          go_enter Trym.func6, Trym.ntmps6
          go_wp2_with fail
          refine (B _).mono ?_
          rintro e w1 ⟨rfl, rfl⟩
          go_wp2_with fail
          go_ret
          exact ⟨rfl, World.keptBut_refl _ _⟩
        · have hq' : (num c == a2) = false := by simpa using hq
          clear hq
          obtain ⟨E, C1, C2, hE⟩ := law a0 a1 a2 true w2 hb (by rw [h93]; rfl) (fun d hd => by rw [hm d hd]; exact hq')
          clear hm hc
          generalize num c = z at *
          go_enter Trym.func6, Trym.ntmps6
          go_wp2_with fail
          refine (B _).mono ?_
          rintro e w1 ⟨rfl, rfl⟩
          go_wp2_with fail
          refine (C1 _).mono ?_
          rintro e w1 ⟨rfl, hb1⟩
          go_wp2_with fail
          refine (C2 _).mono ?_
          rintro e w2 ⟨rfl, hg2⟩
          go_wp2_with fail
          go_ret
          exact ⟨rfl, World.keptBut_trans (hb1.frame _) hg2.1⟩
      · obtain ⟨E, C1, C2, hE⟩ := law a0 a1 a2 true w2 hb (by rw [h93]; rfl) (fun d hd => absurd (List.getElem?_eq_some_iff.1 hd).1 (by rw [len_bytes]; omega))
        have ht' : ¬ (0 : Int) < (a1.size : Int) := by omega
        go_enter Trym.func6, Trym.ntmps6
        go_wp2_with fail
        refine (B _).mono ?_
        rintro e w1 ⟨rfl, rfl⟩
        go_wp2_with fail
        refine (C1 _).mono ?_
        rintro e w1 ⟨rfl, hb1⟩
        go_wp2_with fail
        refine (C2 _).mono ?_
        rintro e w2 ⟨rfl, hg2⟩
        go_wp2_with fail
        go_ret
        exact ⟨rfl, World.keptBut_trans (hb1.frame _) hg2.1⟩
  · have B := bytes_no a0 a1 a2 a3 hb
    go_enter Trym.func6, Trym.ntmps6
    go_wp2_with fail
    refine (B _).mono ?_
    rintro e w1 ⟨rfl, rfl⟩
    go_wp2_with fail
    go_ret
    exact ⟨rfl, World.keptBut_refl _ _⟩

/-! ### THE ROW's STEP: WRITTEN OUT: LEAVE IT -/
set_option maxRecDepth 100000 in
theorem lifted (os : Os) (started : os.Started) (H : Type) (enc : TypeId × Value → H) :
    ReturnsInHanded {} Trym.checked os 6 .any (Rows.fnSkipQuotedStopsAtTheCloseOfAnEncodedTextSpec.pre6 enc Trym.prog Trym.f6 Rows.fnSkipQuotedStopsAtTheCloseOfAnEncodedTextRow.domain false) (Rows.fnSkipQuotedStopsAtTheCloseOfAnEncodedTextSpec.post enc Trym.prog Trym.f6 false true false false) := by
  refine returnsInHanded_of_change (C := Trym.checked) own started (by kernel_rfl) Trym.func6
    (ChangeSpec.witness6 (enc := enc) (C := Trym.checked) false ⟨#[], #[.string ByteArray.empty, .string ByteArray.empty, .int .u8 0, .bool false], []⟩ 8 (by kernel_rfl) (by kernel_rfl) (by kernel_rfl) (by kernel_rfl)) ?_
  intro W base args ds gs before hval0 hW hcnd _
  have hval : ∀ (j : Nat) t v, Trym.f6.params[j]? = some t → args[j]? = some v → Value.okWide Trym.prog W .any base t v := hval0
  have hW' := hW
  obtain ⟨p, q, hA0, hV, rfl, hfz, hnd⟩ := hW
  have hA : DataW.TrodAll enc Trym.prog W 0 (fun _ => true) true Trym.f6.params.toList args.toList ds p := hA0
  rw [Trym.params6] at hA hval
  obtain ⟨v0, vs0, d0, ds0, p0, q0, hargs, rfl, rfl, h0, r0⟩ := trodAll_cons hA
  obtain ⟨v1, vs1, d1, ds1, p1, q1, rfl, rfl, rfl, h1, r1⟩ := trodAll_cons r0
  obtain ⟨v2, vs2, d2, ds2, p2, q2, rfl, rfl, rfl, h2, r2⟩ := trodAll_cons r1
  obtain ⟨v3, vs3, d3, ds3, p3, q3, rfl, rfl, rfl, h3, r3⟩ := trodAll_cons r2
  obtain ⟨rfl, rfl, rfl⟩ := trodAll_nil r3
  obtain rfl : args = #[v0, v1, v2, v3] := by cases args; simp_all
  obtain ⟨rfl, rfl⟩ := trodVars_none hV
  obtain ⟨a0, rfl, rfl, rfl, w0⟩ := open_string Trym.underlying9 (hval 0 9 v0 rfl rfl) h0
  obtain ⟨a1, rfl, rfl, rfl, w1⟩ := open_string Trym.underlying9 (hval 1 9 v1 rfl rfl) h1
  obtain ⟨a2, rfl, rfl, rfl, w2⟩ := open_int Trym.underlying5 (hval 2 5 v2 rfl rfl) h2
  obtain ⟨a3, rfl, rfl, rfl⟩ := open_bool Trym.underlying4 (hval 3 4 v3 rfl rfl) h3
  clear hA0 hval0
  refine (walk a0 a1 a2 a3 w0 w1 w2 W).mono fun e W' ⟨he, hg⟩ => ?_
  subst he
  exact ⟨_, rfl, _, _, _, [], _, [], hW', trodAll_mk1 (shut_bool Trym.underlying4 _), (trodAll_cons_mk (shut_string Trym.underlying9 w0) (trodAll_cons_mk (shut_string Trym.underlying9 w1) (trodAll_cons_mk (shut_int Trym.underlying5 w2) (trodAll_cons_mk (shut_bool Trym.underlying4 _) trodAll_mk0)))), rfl, World.keptBut_mono (fun _ f => f.elim) hg, fun h => by cases h⟩

theorem over : Rows.fnSkipQuotedStopsAtTheCloseOfAnEncodedTextRow.holds Trym.pinned (OpenSpec.ofChange Rows.fnSkipQuotedStopsAtTheCloseOfAnEncodedTextSpec) :=
  OpenClaim.holds_of_wide 6 Trym.f6 rfl rfl rfl rfl rfl rfl rfl ⟨rfl, rfl, rfl, rfl, rfl⟩ rfl rfl rfl rfl rfl (by kernel_rfl) Trym.func6 (by kernel_rfl)
    (of_decide_eq_true (by kernel_rfl)) (by unfold Func.isWrapper; first | (rw [if_pos (by decide +kernel)]; kernel_rfl) | (rw [if_neg (by decide +kernel)]; exact ⟨rfl, rfl⟩))
    (fun os started H enc _ => lifted os started H enc)

/-- ████ THE STATEMENT ████ -/
theorem proved : Rows.FnSkipQuotedStopsAtTheCloseOfAnEncodedTextSaid :=
  over
#print axioms proved
end Go.Proofs.Qxb6600032aMods.fnSkipQuotedStopsAtTheCloseOfAnEncodedText
