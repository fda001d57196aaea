/-
  PLAIN FUNCTIONS AND LAWS for the scanner's 'skipNestedComment': no Go in sight.
-/
import Derived.WalkKit
namespace Go.Proofs.Qxb6600032aMods.Nest
open Go.RowKit

theorem hid {p : Prop} (h : p) : Hid p := h

/-- Do the bytes begin with x, y? -/
def has2 (x y : UInt8) : List UInt8 → Bool
  | a :: b :: _ => a == x && b == y
  | _ => false

/-- How many bytes of what is left the scanner goes over at depth d. -/
def nc : Int → List UInt8 → Nat
  | _, [] => 0
  | _, [_] => 1
  | d, a :: b :: r =>
    if (a == 47 && b == 42) = true then 2 + nc (d + 1) r
    else if (a == 42 && b == 47) = true then (if (d - 1 == 0) = true then 2 else 2 + nc (d - 1) r)
    else 1 + nc d (b :: r)

theorem nc_le : ∀ (l : List UInt8) (d : Int), nc d l ≤ l.length
  | [], d => by simp [nc]
  | [_], d => by simp [nc]
  | a :: b :: r, d => by
    have h1 := nc_le r (d + 1)
    have h2 := nc_le r (d - 1)
    have h3 := nc_le (b :: r) d
    simp only [List.length_cons] at *
    unfold nc
    split
    · omega
    · split
      · split <;> omega
      · omega

theorem drop_two (l : List UInt8) (p : Nat) (h : p + 1 < l.length) : l.drop p = l[p] :: l[p + 1] :: l.drop (p + 2) := by
  rw [List.drop_eq_getElem_cons (by omega), List.drop_eq_getElem_cons (by omega)]

theorem drop_one (l : List UInt8) (p : Nat) (h : p + 1 = l.length) : l.drop p = [l[p]'(by omega)] := by
  rw [List.drop_eq_getElem_cons (by omega), List.drop_eq_nil_of_le (by omega)]

/-- Two bytes stand there. -/
theorem has2_lt (x y : UInt8) (l : List UInt8) (p : Nat) (h : has2 x y (l.drop p) = true) : p + 1 < l.length := by
  by_cases hl : p + 1 < l.length
  · exact hl
  · by_cases hp : p < l.length
    · rw [drop_one l p (by omega)] at h; simp [has2] at h
    · rw [List.drop_eq_nil_of_le (by omega)] at h; simp [has2] at h

theorem nc_open (l : List UInt8) (p : Nat) (d : Int) (h : has2 47 42 (l.drop p) = true) : nc d (l.drop p) = 2 + nc (d + 1) (l.drop (p + 2)) := by
  have hp := has2_lt _ _ l p h
  rw [drop_two l p hp] at h ⊢
  have h' : (l[p] == 47 && l[p + 1] == 42) = true := h
  rw [nc, if_pos h']

theorem nc_shut (l : List UInt8) (p : Nat) (d : Int) (h1 : has2 47 42 (l.drop p) = false) (h : has2 42 47 (l.drop p) = true) (h0 : (d - 1 == 0) = false) : nc d (l.drop p) = 2 + nc (d - 1) (l.drop (p + 2)) := by
  have hp := has2_lt _ _ l p h
  rw [drop_two l p hp] at h h1 ⊢
  have h1' : (l[p] == 47 && l[p + 1] == 42) = false := h1
  have h' : (l[p] == 42 && l[p + 1] == 47) = true := h
  rw [nc, if_neg (by rw [h1']; decide), if_pos h', if_neg (by rw [h0]; decide)]

theorem nc_last (l : List UInt8) (p : Nat) (d : Int) (h1 : has2 47 42 (l.drop p) = false) (h : has2 42 47 (l.drop p) = true) (h0 : (d - 1 == 0) = true) : nc d (l.drop p) = 2 := by
  have hp := has2_lt _ _ l p h
  rw [drop_two l p hp] at h h1 ⊢
  have h1' : (l[p] == 47 && l[p + 1] == 42) = false := h1
  have h' : (l[p] == 42 && l[p + 1] == 47) = true := h
  rw [nc, if_neg (by rw [h1']; decide), if_pos h', if_pos h0]

theorem nc_step (l : List UInt8) (p : Nat) (d : Int) (hp : p < l.length) (h1 : has2 47 42 (l.drop p) = false) (h : has2 42 47 (l.drop p) = false) : nc d (l.drop p) = 1 + nc d (l.drop (p + 1)) := by
  by_cases hl : p + 1 = l.length
  · rw [drop_one l p hl, List.drop_eq_nil_of_le (by omega)]
    simp [nc]
  · have e : l.drop (p + 1) = l[p + 1] :: l.drop (p + 2) := by rw [List.drop_eq_getElem_cons (by omega)]
    rw [drop_two l p (by omega)] at h h1 ⊢
    have h1' : (l[p] == 47 && l[p + 1] == 42) = false := h1
    have h' : (l[p] == 42 && l[p + 1] == 47) = false := h
    rw [nc, if_neg (by rw [h1']; decide), if_neg (by rw [h']; decide), e]

/-- A stop ahead of the end: just behind the two bytes that close, and, from depth 0 or below, at least four bytes on. -/
theorem nc_close : ∀ (l : List UInt8) (d : Int), nc d l < l.length → 2 ≤ nc d l ∧ (d ≤ 0 → 4 ≤ nc d l) ∧ l[nc d l - 2]? = some 42 ∧ l[nc d l - 1]? = some 47
  | [], d, h => by simp at h
  | [_], d, h => by simp [nc] at h
  | a :: b :: r, d, h => by
    by_cases h1 : (a == 47 && b == 42) = true
    · have e : nc d (a :: b :: r) = 2 + nc (d + 1) r := by rw [nc, if_pos h1]
      rw [e] at h ⊢
      simp only [List.length_cons] at h
      obtain ⟨i1, i2, i3, i4⟩ := nc_close r (d + 1) (by omega)
      obtain ⟨k, hk⟩ : ∃ k, nc (d + 1) r = k + 2 := ⟨nc (d + 1) r - 2, by omega⟩
      rw [hk] at i3 i4 ⊢
      refine ⟨by omega, by omega, ?_, ?_⟩
      · rw [show 2 + (k + 2) - 2 = k + 1 + 1 from by omega]; simpa using i3
      · rw [show 2 + (k + 2) - 1 = k + 1 + 1 + 1 from by omega]; simpa using i4
    · by_cases h2 : (a == 42 && b == 47) = true
      · by_cases h3 : (d - 1 == 0) = true
        · have e : nc d (a :: b :: r) = 2 := by rw [nc, if_neg h1, if_pos h2, if_pos h3]
          rw [e]
          simp at h2 h3
          refine ⟨by omega, by omega, ?_, ?_⟩
          · simp [h2.1]
          · simp [h2.2]
        · have e : nc d (a :: b :: r) = 2 + nc (d - 1) r := by rw [nc, if_neg h1, if_pos h2, if_neg h3]
          rw [e] at h ⊢
          simp only [List.length_cons] at h
          obtain ⟨i1, i2, i3, i4⟩ := nc_close r (d - 1) (by omega)
          obtain ⟨k, hk⟩ : ∃ k, nc (d - 1) r = k + 2 := ⟨nc (d - 1) r - 2, by omega⟩
          rw [hk] at i3 i4 ⊢
          refine ⟨by omega, by omega, ?_, ?_⟩
          · rw [show 2 + (k + 2) - 2 = k + 1 + 1 from by omega]; simpa using i3
          · rw [show 2 + (k + 2) - 1 = k + 1 + 1 + 1 from by omega]; simpa using i4
      · have e : nc d (a :: b :: r) = 1 + nc d (b :: r) := by rw [nc, if_neg h1, if_neg h2]
        rw [e] at h ⊢
        simp only [List.length_cons] at h
        obtain ⟨i1, i2, i3, i4⟩ := nc_close (b :: r) d (by simp only [List.length_cons]; omega)
        obtain ⟨k, hk⟩ : ∃ k, nc d (b :: r) = k + 2 := ⟨nc d (b :: r) - 2, by omega⟩
        rw [hk] at i3 i4 i2 ⊢
        refine ⟨by omega, by omega, ?_, ?_⟩
        · rw [show 1 + (k + 2) - 2 = k + 1 from by omega]; simpa using i3
        · rw [show 1 + (k + 2) - 1 = k + 1 + 1 from by omega]; simpa using i4

/-- A stop ahead of the end: whatever is set behind does not move it. -/
theorem nc_app (m : List UInt8) : ∀ (l : List UInt8) (d : Int), nc d l < l.length → nc d (l ++ m) = nc d l
  | [], d, h => by simp at h
  | [_], d, h => by simp [nc] at h
  | a :: b :: r, d, h => by
    have f : a :: b :: r ++ m = a :: b :: (r ++ m) := rfl
    rw [f]
    by_cases h1 : (a == 47 && b == 42) = true
    · rw [nc, if_pos h1] at h ⊢
      rw [nc, if_pos h1]
      simp only [List.length_cons] at h
      rw [nc_app m r (d + 1) (by omega)]
    · by_cases h2 : (a == 42 && b == 47) = true
      · by_cases h3 : (d - 1 == 0) = true
        · rw [nc, if_neg h1, if_pos h2, if_pos h3, nc, if_neg h1, if_pos h2, if_pos h3]
        · rw [nc, if_neg h1, if_pos h2, if_neg h3] at h ⊢
          rw [nc, if_neg h1, if_pos h2, if_neg h3]
          simp only [List.length_cons] at h
          rw [nc_app m r (d - 1) (by omega)]
      · rw [nc, if_neg h1, if_neg h2] at h ⊢
        rw [nc, if_neg h1, if_neg h2]
        simp only [List.length_cons] at h
        have g := nc_app m (b :: r) d (by simp only [List.length_cons]; omega)
        rw [List.cons_append] at g
        rw [g]

/-- Where the scanner stops that stands at p with depth 0. -/
def fin (l : List UInt8) (p : Nat) : Nat := p + nc 0 (l.drop p)

theorem fin_ge (l : List UInt8) (p : Nat) (h : p ≤ l.length) : p ≤ fin l p ∧ fin l p ≤ l.length := by
  unfold fin
  have := nc_le (l.drop p) 0
  rw [List.length_drop] at this
  omega

theorem fin_close (l : List UInt8) (p : Nat) (hr : fin l p < l.length) : p + 4 ≤ fin l p ∧ l[fin l p - 2]? = some 42 ∧ l[fin l p - 1]? = some 47 := by
  unfold fin at hr ⊢
  obtain ⟨h1, h2, h3, h4⟩ := nc_close (l.drop p) 0 (by rw [List.length_drop]; omega)
  have h2' := h2 (Int.le_refl 0)
  rw [List.getElem?_drop] at h3 h4
  refine ⟨by omega, ?_, ?_⟩
  · rw [← h3]; congr 1; omega
  · rw [← h4]; congr 1; omega

theorem fin_tail (l m : List UInt8) (p : Nat) (h : p ≤ l.length) (hr : fin l p < l.length) : fin (l ++ m) p = fin l p := by
  unfold fin at hr ⊢
  rw [List.drop_append, show p - l.length = 0 from by omega, List.drop_zero, nc_app m (l.drop p) 0 (by rw [List.length_drop]; omega)]
end Go.Proofs.Qxb6600032aMods.Nest
