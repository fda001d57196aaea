/-
  PLAIN FUNCTIONS AND LAWS for the scanner's 'skipQuoted': no Go in sight.
-/
import Derived.WalkKit
namespace Go.Proofs.Qxb6600032aMods.Plain
open Go.RowKit

theorem hid {p : Prop} (h : p) : Hid p := h

/-- A byte as the number that the walk shows. -/
def num (c : UInt8) : Int := (c.toNat : Int)

/-- How many bytes of what is left the scanner goes over, its opening byte behind it: 'q' the quote, 'bs' whether a backslash escapes. -/
def sq (q : Int) (bs : Bool) : List UInt8 → Nat
  | [] => 0
  | [_] => 1
  | c :: d :: r =>
    if (bs && (num c == 92)) = true then 2 + sq q bs r
    else if (num c == q) = true then (if (num d == q) = true then 2 + sq q bs r else 1)
    else 1 + sq q bs (d :: r)

/-- Where the scanner stops that stands at p (in the loop): its end is cut to the text's. -/
def stop (q : Int) (bs : Bool) (l : List UInt8) (p : Nat) : Nat := if p ≤ l.length then p + sq q bs (l.drop p) else l.length

theorem sq_le (q : Int) (bs : Bool) : ∀ l : List UInt8, sq q bs l ≤ l.length
  | [] => by simp [sq]
  | [_] => by simp [sq]
  | c :: d :: r => by
    have h1 := sq_le q bs r
    have h2 := sq_le q bs (d :: r)
    simp only [List.length_cons] at *
    unfold sq
    split
    · omega
    · split
      · split <;> omega
      · omega

theorem stop_end (q : Int) (bs : Bool) (l : List UInt8) (p : Nat) (h : l.length ≤ p) : stop q bs l p = l.length := by
  unfold stop
  split
  · have : p = l.length := by omega
    subst this
    simp [sq]
  · rfl

theorem stop_last (q : Int) (bs : Bool) (l : List UInt8) (p : Nat) (h : p + 1 = l.length) : stop q bs l p = l.length := by
  unfold stop
  have e : l.drop p = [l[p]'(by omega)] := by
    rw [List.drop_eq_getElem_cons (by omega), List.drop_eq_nil_of_le (by omega)]
  rw [if_pos (by omega), e]
  simp [sq]; omega

theorem drop_two (l : List UInt8) (p : Nat) (h : p + 1 < l.length) : l.drop p = l[p] :: l[p + 1] :: l.drop (p + 2) := by
  rw [List.drop_eq_getElem_cons (by omega), List.drop_eq_getElem_cons (by omega)]

/-- A backslash that escapes: two bytes on. -/
theorem stop_esc (q : Int) (bs : Bool) (l : List UInt8) (p : Nat) (h : p < l.length) (h1 : bs = true) (h2 : (num l[p] == 92) = true) : stop q bs l p = stop q bs l (p + 2) := by
  by_cases hl : p + 1 = l.length
  · rw [stop_last q bs l p hl, stop_end q bs l (p + 2) (by omega)]
  · unfold stop
    rw [if_pos (by omega), if_pos (by omega), drop_two l p (by omega), sq, if_pos (by simp [h1, h2])]
    omega

/-- A doubled quote: two bytes on. -/
theorem stop_dbl (q : Int) (bs : Bool) (l : List UInt8) (p : Nat) (h : p + 1 < l.length) (h1 : (bs && (num l[p] == 92)) = false) (h2 : (num l[p] == q) = true) (h3 : (num l[p + 1] == q) = true) : stop q bs l p = stop q bs l (p + 2) := by
  unfold stop
  rw [if_pos (by omega), if_pos (by omega), drop_two l p (by omega), sq, if_neg (by rw [h1]; decide), if_pos h2, if_pos h3]
  omega

/-- The closing quote. -/
theorem stop_close (q : Int) (bs : Bool) (l : List UInt8) (p : Nat) (h : p < l.length) (h1 : (bs && (num l[p] == 92)) = false) (h2 : (num l[p] == q) = true) (h3 : ∀ h : p + 1 < l.length, (num l[p + 1] == q) = false) : stop q bs l p = p + 1 := by
  by_cases hl : p + 1 = l.length
  · rw [stop_last q bs l p hl]; omega
  · unfold stop
    rw [if_pos (by omega), drop_two l p (by omega), sq, if_neg (by rw [h1]; decide), if_pos h2, if_neg (by rw [h3 (by omega)]; decide)]

/-- Any other byte: one on. -/
theorem stop_step (q : Int) (bs : Bool) (l : List UInt8) (p : Nat) (h : p < l.length) (h1 : (bs && (num l[p] == 92)) = false) (h2 : (num l[p] == q) = false) : stop q bs l p = stop q bs l (p + 1) := by
  by_cases hl : p + 1 = l.length
  · rw [stop_last q bs l p hl, stop_end q bs l (p + 1) (by omega)]
  · have e : l.drop (p + 1) = l[p + 1] :: l.drop (p + 2) := by rw [List.drop_eq_getElem_cons (by omega)]
    unfold stop
    rw [if_pos (by omega), if_pos (by omega), drop_two l p (by omega), sq, if_neg (by rw [h1]; decide), if_neg (by rw [h2]; decide), e]
    omega

theorem stop_ge (q : Int) (bs : Bool) (l : List UInt8) (p : Nat) (h : p ≤ l.length) : p ≤ stop q bs l p ∧ stop q bs l p ≤ l.length := by
  unfold stop
  have := sq_le q bs (l.drop p)
  rw [List.length_drop] at this
  rw [if_pos h]
  omega

/-- What lies before shifts the stop. -/
theorem stop_shift (q : Int) (bs : Bool) (m l : List UInt8) (p : Nat) (h : p ≤ l.length) : stop q bs (m ++ l) (m.length + p) = m.length + stop q bs l p := by
  unfold stop
  rw [if_pos (by simp; omega), if_pos h, List.drop_append, List.drop_eq_nil_of_le (by omega)]
  simp; omega

/-- A stop ahead of the end: just behind a quote that no quote follows. -/
theorem sq_close (q : Int) (bs : Bool) : ∀ l : List UInt8, sq q bs l < l.length → 1 ≤ sq q bs l ∧ (∃ c, l[sq q bs l - 1]? = some c ∧ num c = q) ∧ ∃ d, l[sq q bs l]? = some d ∧ num d ≠ q
  | [], h => by simp at h
  | [_], h => by simp [sq] at h
  | c :: d :: r, h => by
    by_cases h1 : (bs && (num c == 92)) = true
    · have e : sq q bs (c :: d :: r) = 2 + sq q bs r := by rw [sq, if_pos h1]
      rw [e] at h ⊢
      simp only [List.length_cons] at h
      obtain ⟨i1, ⟨x, hx, hq⟩, y, hy, hn⟩ := sq_close q bs r (by omega)
      obtain ⟨k, hk⟩ : ∃ k, sq q bs r = k + 1 := ⟨sq q bs r - 1, by omega⟩
      rw [hk] at hx hy ⊢
      exact ⟨by omega, ⟨x, by rw [show 2 + (k + 1) - 1 = k + 1 + 1 from by omega]; simpa using hx, hq⟩, y, by rw [show 2 + (k + 1) = k + 1 + 1 + 1 from by omega]; simpa using hy, hn⟩
    · by_cases h2 : (num c == q) = true
      · by_cases h3 : (num d == q) = true
        · have e : sq q bs (c :: d :: r) = 2 + sq q bs r := by rw [sq, if_neg h1, if_pos h2, if_pos h3]
          rw [e] at h ⊢
          simp only [List.length_cons] at h
          obtain ⟨i1, ⟨x, hx, hq⟩, y, hy, hn⟩ := sq_close q bs r (by omega)
          obtain ⟨k, hk⟩ : ∃ k, sq q bs r = k + 1 := ⟨sq q bs r - 1, by omega⟩
          rw [hk] at hx hy ⊢
          exact ⟨by omega, ⟨x, by rw [show 2 + (k + 1) - 1 = k + 1 + 1 from by omega]; simpa using hx, hq⟩, y, by rw [show 2 + (k + 1) = k + 1 + 1 + 1 from by omega]; simpa using hy, hn⟩
        · have e : sq q bs (c :: d :: r) = 1 := by rw [sq, if_neg h1, if_pos h2, if_neg h3]
          rw [e]
          exact ⟨by omega, ⟨c, rfl, by simpa using h2⟩, d, rfl, by simpa using h3⟩
      · have e : sq q bs (c :: d :: r) = 1 + sq q bs (d :: r) := by rw [sq, if_neg h1, if_neg h2]
        rw [e] at h ⊢
        simp only [List.length_cons] at h
        obtain ⟨i1, ⟨x, hx, hq⟩, y, hy, hn⟩ := sq_close q bs (d :: r) (by simp only [List.length_cons]; omega)
        obtain ⟨k, hk⟩ : ∃ k, sq q bs (d :: r) = k + 1 := ⟨sq q bs (d :: r) - 1, by omega⟩
        rw [hk] at hx hy ⊢
        exact ⟨by omega, ⟨x, by rw [show 1 + (k + 1) - 1 = k + 1 from by omega]; simpa using hx, hq⟩, y, by rw [show 1 + (k + 1) = k + 1 + 1 from by omega]; simpa using hy, hn⟩

/-- A stop ahead of the end: whatever is set behind the text does not move it. -/
theorem sq_app (q : Int) (bs : Bool) (m : List UInt8) : ∀ l : List UInt8, sq q bs l < l.length → sq q bs (l ++ m) = sq q bs l
  | [], h => by simp at h
  | [_], h => by simp [sq] at h
  | c :: d :: r, h => by
    have f : c :: d :: r ++ m = c :: d :: (r ++ m) := rfl
    rw [f]
    by_cases h1 : (bs && (num c == 92)) = true
    · rw [sq, if_pos h1] at h ⊢
      rw [sq, if_pos h1]
      simp only [List.length_cons] at h
      rw [sq_app q bs m r (by omega)]
    · by_cases h2 : (num c == q) = true
      · by_cases h3 : (num d == q) = true
        · rw [sq, if_neg h1, if_pos h2, if_pos h3] at h ⊢
          rw [sq, if_neg h1, if_pos h2, if_pos h3]
          simp only [List.length_cons] at h
          rw [sq_app q bs m r (by omega)]
        · rw [sq, if_neg h1, if_pos h2, if_neg h3, sq, if_neg h1, if_pos h2, if_neg h3]
      · rw [sq, if_neg h1, if_neg h2] at h ⊢
        rw [sq, if_neg h1, if_neg h2]
        simp only [List.length_cons] at h
        have g := sq_app q bs m (d :: r) (by simp only [List.length_cons]; omega)
        rw [List.cons_append] at g
        rw [g]

theorem stop_close_at (q : Int) (bs : Bool) (l : List UInt8) (p : Nat) (h : p ≤ l.length) (hr : stop q bs l p < l.length) :
    p + 1 ≤ stop q bs l p ∧ (∃ c, l[stop q bs l p - 1]? = some c ∧ num c = q) ∧ ∃ d, l[stop q bs l p]? = some d ∧ num d ≠ q := by
  unfold stop at hr ⊢
  rw [if_pos h] at hr ⊢
  obtain ⟨h1, ⟨c, hc, hq⟩, d, hd, hn⟩ := sq_close q bs (l.drop p) (by rw [List.length_drop]; omega)
  rw [List.getElem?_drop] at hc hd
  exact ⟨by omega, ⟨c, by rw [← hc]; congr 1; omega, hq⟩, d, hd, hn⟩

theorem stop_tail (q : Int) (bs : Bool) (l m : List UInt8) (p : Nat) (h : p ≤ l.length) (hr : stop q bs l p < l.length) : stop q bs (l ++ m) p = stop q bs l p := by
  unfold stop at hr ⊢
  rw [if_pos h] at hr ⊢
  rw [if_pos (by simp; omega), List.drop_append, show p - l.length = 0 from by omega, List.drop_zero, sq_app q bs m (l.drop p) (by rw [List.length_drop]; omega)]
end Go.Proofs.Qxb6600032aMods.Plain
