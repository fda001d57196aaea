/-
  THE SCANNER's 'skipNestedComment' (20) AND ITS DOOR 'ZZSkipNestedComment' (12): contracts over the plain function 'fin'.
-/
import Derived.Test.Qxb6600032aModsQuoted
import Derived.Test.Qxb6600032aModsPrefix
namespace Go.Proofs.Qxb6600032aMods
open Go.ChangeShapes Go.WideShapes Go.ChangeAt Go.RowKit Nest

theorem tail_bytes (t : ByteArray) (p : Nat) : (t.extract p t.size).data.toList = t.data.toList.drop p := by
  rw [Lib.extract_data, List.take_of_length_le (by rw [List.length_drop, len_bytes]; exact Nat.le_refl _)]
theorem tail_size (t : ByteArray) (p : Nat) : (t.extract p t.size).size = t.size - p := by
  rw [← len_bytes, tail_bytes, List.length_drop, len_bytes]

set_option maxHeartbeats 1000000 in
set_option maxRecDepth 10000 in
theorem nest_any (t : ByteArray) (ht : t.size ≤ 4194304) (p : Nat) (hp : p ≤ t.size) (b : Nat) (w0 w : World) (hs : Stands w0 w b t p) :
    Calls Trym.prog 20 #[.pointer (some ⟨b, 0, none⟩)] w fun e w' => e = .returned (.tuple #[]) ∧ Stands w0 w' b t (fin t.data.toList p) := by
  go_enter Trym.func20, Trym.ntmps20
  go_wp2
  go_loopg [2] (t.size + 1) (fun k v wr => ∃ (p' : Nat) (d : Int), p' ≤ t.size ∧ t.size + 1 ≤ k + p' ∧ -(p' : Int) ≤ d ∧ d ≤ (p' : Int) ∧ v = .int .i64 d ∧ Stands w0 wr b t p' ∧ Hid (p' + nc d (t.data.toList.drop p') = fin t.data.toList p))
  case atStart => exact ⟨p, 0, by omega, by omega, by omega, by omega, rfl, hs, rfl⟩
  case round =>
    clear hs
    obtain ⟨p', d, hp', hk, hd1, hd2, rfl, hs, hst⟩ := hrel
    have h0 := hs.text
    have h1 := hs.pos
    have hf := hs.free
    by_cases hlt : p' < t.size
    · have hlt' : (p' : Int) < (t.size : Int) := by omega
      have hsl : t.data.toList.length = t.size := len_bytes t
      have HL := hid hsl
      clear hsl
      have htl := hid (tail_bytes t p')
      have hts : (t.extract p' t.size).size ≤ 4194304 := by rw [tail_size]; omega
      by_cases ho : has2 47 42 (t.data.toList.drop p') = true
      · have C := prefix_is (t.extract p' t.size) 47 42 true hts (by rw [htl.out]; exact ho)
        have hlen := has2_lt _ _ _ _ ho
        rw [HL.out] at hlen
        have hnc := hid (nc_open t.data.toList p' d ho)
        clear ho
        go_wp2
        go_quiet (fail)
        go_wp2
        have hsq := hs.drewN nq
        clear h0 h1 hf hs
        revert hsq
        generalize wr.drewN nq = wq
        intro hs
        have h0 := hs.text
        have h1 := hs.pos
        have hf := hs.free
        go_quiet ((go_at_call 22; exact Calls.quiet_of_same (C _)))
        go_wp2
        go_roundg (t.size - (p' + 1))
        case measure => omega
        case rel => exact ⟨p' + 2, d + 1, by omega, by omega, by omega, by omega, rfl, (hs.drewN _).set (p' + 2) _ (by omega), hid (by rw [← hst.out, hnc.out]; omega)⟩
      have ho' : has2 47 42 (t.data.toList.drop p') = false := by simpa using ho
      have C := prefix_is (t.extract p' t.size) 47 42 false hts (by rw [htl.out]; exact ho')
      have HO := hid ho'
      clear ho ho'
      by_cases hc : has2 42 47 (t.data.toList.drop p') = true
      · have D := prefix_is (t.extract p' t.size) 42 47 true hts (by rw [htl.out]; exact hc)
        have hlen := has2_lt _ _ _ _ hc
        rw [HL.out] at hlen
        by_cases hd0 : (d - 1 == 0) = true
        · have hnc := hid (nc_last t.data.toList p' d HO.out hc hd0)
          clear hc
          go_wp2
          go_quiet (fail)
          go_wp2
          have hsq := hs.drewN nq
          clear h0 h1 hf hs
          revert hsq
          generalize wr.drewN nq = wq
          intro hs
          have h0 := hs.text
          have h1 := hs.pos
          have hf := hs.free
          go_quiet ((go_at_call 22; exact Calls.quiet_of_same (C _)))
          go_wp2
          have hsq := hs.drewN nq
          clear h0 h1 hf hs
          revert hsq
          generalize wq.drewN nq = wz
          intro hs
          have h0 := hs.text
          have h1 := hs.pos
          have hf := hs.free
          go_quiet ((go_at_call 22; exact Calls.quiet_of_same (D _)))
          go_wp2
          refine bodyPost_ret (results_none rfl _ _ _) rfl ⟨rfl, ?_⟩
          rw [← hst.out, hnc.out]
          exact (hs.drewN _).set (p' + 2) _ (by omega)
        · have hd0' : (d - 1 == 0) = false := by simpa using hd0
          have hnc := hid (nc_shut t.data.toList p' d HO.out hc hd0')
          clear hc hd0
          go_wp2
          go_quiet (fail)
          go_wp2
          have hsq := hs.drewN nq
          clear h0 h1 hf hs
          revert hsq
          generalize wr.drewN nq = wq
          intro hs
          have h0 := hs.text
          have h1 := hs.pos
          have hf := hs.free
          go_quiet ((go_at_call 22; exact Calls.quiet_of_same (C _)))
          go_wp2
          have hsq := hs.drewN nq
          clear h0 h1 hf hs
          revert hsq
          generalize wq.drewN nq = wz
          intro hs
          have h0 := hs.text
          have h1 := hs.pos
          have hf := hs.free
          go_quiet ((go_at_call 22; exact Calls.quiet_of_same (D _)))
          go_wp2
          go_roundg (t.size - (p' + 1))
          case measure => omega
          case rel => exact ⟨p' + 2, d - 1, by omega, by omega, by omega, by omega, rfl, (hs.drewN _).set (p' + 2) _ (by omega), hid (by rw [← hst.out, hnc.out]; omega)⟩
      · have hc' : has2 42 47 (t.data.toList.drop p') = false := by simpa using hc
        have D := prefix_is (t.extract p' t.size) 42 47 false hts (by rw [htl.out]; exact hc')
        have hnc := hid (nc_step t.data.toList p' d (by rw [HL.out]; exact hlt) HO.out hc')
        clear hc hc'
        go_wp2
        go_quiet (fail)
        go_wp2
        have hsq := hs.drewN nq
        clear h0 h1 hf hs
        revert hsq
        generalize wr.drewN nq = wq
        intro hs
        have h0 := hs.text
        have h1 := hs.pos
        have hf := hs.free
        go_quiet ((go_at_call 22; exact Calls.quiet_of_same (C _)))
        go_wp2
        have hsq := hs.drewN nq
        clear h0 h1 hf hs
        revert hsq
        generalize wq.drewN nq = wz
        intro hs
        have h0 := hs.text
        have h1 := hs.pos
        have hf := hs.free
        go_quiet ((go_at_call 22; exact Calls.quiet_of_same (D _)))
        go_wp2
        go_roundg (t.size - p')
        case measure => omega
        case rel => exact ⟨p' + 1, d, by omega, by omega, by omega, by omega, rfl, (hs.drewN _).set (p' + 1) _ (by omega), hid (by rw [← hst.out, hnc.out]; omega)⟩
    · have hpe : p' = t.size := by omega
      have he : nc d (t.data.toList.drop p') = 0 := by rw [List.drop_eq_nil_of_le (by rw [len_bytes]; omega)]; rfl
      have HE := hid he
      clear hpe he
      go_wp2
      go_quiet (fail)
      go_wp2
      go_end0
      refine ⟨rfl, ?_⟩
      rw [← hst.out, HE.out]
      exact hs.drewN _

set_option maxHeartbeats 400000 in
/-- ZZSkipNestedComment: where the scanner stops. -/
theorem znest (t : ByteArray) (ht : t.size ≤ 4194304) (p : Nat) (hp : p ≤ t.size) (w : World) :
    Calls Trym.prog 12 #[.string t, .int .i64 p] w fun e w' => e = .returned (.int .i64 (fin t.data.toList p)) ∧ Grown w w' := by
  go_enter Trym.func12, Trym.ntmps12
  go_wp2_with fail
  refine (nest_any t ht p hp w.heap.size w _ ?_).mono ?_
  · exact ⟨by simp, by simp, by simp, (Grown.refl _).alloc _ _, Nat.le_refl _⟩
  rintro e w1 ⟨rfl, hs⟩
  have h1 := hs.pos
  go_wp2
  go_ret
  exact ⟨rfl, hs.kept⟩
end Go.Proofs.Qxb6600032aMods
