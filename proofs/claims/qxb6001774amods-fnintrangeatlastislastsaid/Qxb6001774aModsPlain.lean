/-
  PLAIN ARITHMETIC for the laws over 'rangeLength' and 'intRange.at': no Go in sight.
-/
import Derived.WalkKit
namespace Go.Proofs.Qxb6001774aMods.Plain
open Go.RowKit

theorem hid {p : Prop} (h : p) : Hid p := h

/-- An int64. -/
def I64 (x : Int) : Prop := -9223372036854775808 ≤ x ∧ x ≤ 9223372036854775807

theorem i64_of_wf {x : Int} (h : (Lit.int .i64 x).wf = true) : I64 x := by
  simp [Lit.wf, IntKind.min, IntKind.max, IntKind.signed, IntKind.bits] at h
  exact ⟨by omega, by omega⟩

/-- The length going up, as the Go text reckons it. -/
theorem len_up (a b s : Int) (ha : I64 a) (hb : I64 b) (hs : I64 s) (h0 : 0 < s) (h : a < b) :
    IntKind.u64.wrap (IntKind.u64.wrap ((IntKind.u64.wrap (IntKind.u64.wrap (IntKind.u64.wrap b - IntKind.u64.wrap a) - 1)).tdiv s) + 1) = (b - a - 1) / s + 1 := by
  obtain ⟨_, _⟩ := ha; obtain ⟨_, _⟩ := hb; obtain ⟨_, _⟩ := hs
  have e : IntKind.u64.wrap (IntKind.u64.wrap (IntKind.u64.wrap b - IntKind.u64.wrap a) - 1) = b - a - 1 := by
    simp only [IntKind.wrap_u64]; omega
  rw [e, Int.tdiv_eq_ediv_of_nonneg (by omega)]
  have h1 : 0 ≤ (b - a - 1) / s := Int.ediv_nonneg (by omega) (by omega)
  have h2 : (b - a - 1) / s ≤ b - a - 1 := Int.ediv_le_self _ (by omega)
  generalize (b - a - 1) / s = q at *
  simp only [IntKind.wrap_u64]; omega

/-- The length going down. -/
theorem len_down (a b s : Int) (ha : I64 a) (hb : I64 b) (hs : I64 s) (h0 : s < 0) (h : b < a) :
    IntKind.u64.wrap (IntKind.u64.wrap ((IntKind.u64.wrap (IntKind.u64.wrap (IntKind.u64.wrap a - IntKind.u64.wrap b) - 1)).tdiv (IntKind.u64.wrap (-IntKind.u64.wrap s))) + 1) = (a - b - 1) / (-s) + 1 := by
  obtain ⟨_, _⟩ := ha; obtain ⟨_, _⟩ := hb; obtain ⟨_, _⟩ := hs
  have e : IntKind.u64.wrap (IntKind.u64.wrap (IntKind.u64.wrap a - IntKind.u64.wrap b) - 1) = a - b - 1 := by
    simp only [IntKind.wrap_u64]; omega
  have e' : IntKind.u64.wrap (-IntKind.u64.wrap s) = -s := by
    simp only [IntKind.wrap_u64]; omega
  rw [e, e', Int.tdiv_eq_ediv_of_nonneg (by omega)]
  have h1 : 0 ≤ (a - b - 1) / (-s) := Int.ediv_nonneg (by omega) (by omega)
  have h2 : (a - b - 1) / (-s) ≤ a - b - 1 := Int.ediv_le_self _ (by omega)
  generalize (a - b - 1) / (-s) = q at *
  simp only [IntKind.wrap_u64]; omega

/-- An index below the length: its distance from the start, in steps of t, lies within D - 1. -/
theorem dist (D t i : Int) (ht : 0 < t) (hi : 0 ≤ i) (h : i < (D - 1) / t + 1) : 0 ≤ i * t ∧ i * t ≤ D - 1 := by
  refine ⟨Int.mul_nonneg hi (by omega), ?_⟩
  have h1 : i * t ≤ (D - 1) / t * t := Int.mul_le_mul_of_nonneg_right (by omega) (by omega)
  have h2 : (D - 1) / t * t ≤ D - 1 := Int.ediv_mul_le _ (by omega)
  omega

/-- The last index: what is left of D behind it is at most one step. -/
theorem last_dist (D t i : Int) (ht : 0 < t) (h : i = (D - 1) / t) : D - i * t ≤ t := by
  subst h
  have h1 := Int.mul_ediv_add_emod (D - 1) t
  have h2 := Int.emod_lt_of_pos (D - 1) ht
  rw [Int.mul_comm] at h1
  omega

/-- The int at i, where the exact one is an int64. -/
theorem at_exact (a s i : Int) (h : I64 (a + i * s)) (ha : I64 a) : wrap64 (a + wrap64 (i * s)) = a + i * s := by
  obtain ⟨_, _⟩ := h; obtain ⟨_, _⟩ := ha
  generalize i * s = p at *
  unfold wrap64; omega

theorem sub_u64 (x y : Int) (h0 : 0 ≤ x - y) (h1 : x - y < 18446744073709551616) : IntKind.u64.wrap (IntKind.u64.wrap x - IntKind.u64.wrap y) = x - y := by
  simp only [IntKind.wrap_u64]; omega

theorem neg_u64 (s : Int) (hs : I64 s) (h0 : s < 0) : IntKind.u64.wrap (-IntKind.u64.wrap s) = -s := by
  obtain ⟨_, _⟩ := hs
  simp only [IntKind.wrap_u64]; omega

/-- An exact quotient, as the Go text reckons it on uint64. -/
theorem quo_u64 (i t p : Int) (ht : 0 < t) (hi : 0 ≤ i) (hi' : i ≤ 9223372036854775807) (hp : i * t = p) : (IntKind.u64.wrap (p.tdiv t) == i) = true := by
  subst hp
  rw [Int.tdiv_eq_ediv_of_nonneg (Int.mul_nonneg hi (by omega)), Int.mul_ediv_cancel _ (by omega), IntKind.wrap_u64]
  simp; omega
theorem rem_u64 (i t p : Int) (hp : i * t = p) : (p % t == 0) = true := by
  subst hp; simp
end Go.Proofs.Qxb6001774aMods.Plain
