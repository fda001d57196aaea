/-
  THE CALLEES' CONTRACTS: ZZRangeLength (6) over rangeLength (8), ZZIntRangeAt (7) over intRange.at (9).
-/
import Derived.Test.Qxb6001774aModsRows
import Derived.WalkKit
import Derived.ProofKit
import Derived.OpenShut
import Derived.Test.Qxb6001774aModsPlain
namespace Go.Proofs.Qxb6001774aMods
open Go.ChangeShapes Go.WideShapes Go.ChangeAt Go.RowKit Plain

theorem ret_int {k : IntKind} {a b : Int} (h : a = b) : Ending.returned (.int k a) = .returned (.int k b) := by rw [h]

theorem grown_trans {u v w : World} (h1 : Grown u v) (h2 : Grown v w) : Grown u w :=
  ⟨World.keptBut_trans h1.1 h2.1, fun a => (h2.2.1 a).trans (h1.2.1 a), Nat.le_trans h1.2.2 h2.2.2⟩

theorem ret_bool {b : Bool} (h : b = true) : Ending.returned (.bool b) = .returned (.bool true) := by rw [h]

theorem len_pos (a b s n : Int) (w0 : I64 a) (w1 : I64 b) (w2 : I64 s) (hs : 0 < s) (h : a < b) (hn : (b - a - 1) / s + 1 = n) (w : World) :
    Calls Trym.prog 6 #[.int .i64 a, .int .i64 b, .int .i64 s] w fun e w' => e = .returned (.int .u64 n) ∧ w' = w := by
  have E := hid ((len_up a b s w0 w1 w2 hs h).trans hn)
  clear hn
  obtain ⟨_, _⟩ := w2
  go_enter Trym.func6, Trym.ntmps6
  go_wp2
  go_ret
  exact ⟨ret_int E.out, rfl⟩

theorem len_neg (a b s n : Int) (w0 : I64 a) (w1 : I64 b) (w2 : I64 s) (hs : s < 0) (h : b < a) (hn : (a - b - 1) / (-s) + 1 = n) (w : World) :
    Calls Trym.prog 6 #[.int .i64 a, .int .i64 b, .int .i64 s] w fun e w' => e = .returned (.int .u64 n) ∧ w' = w := by
  have E := hid ((len_down a b s w0 w1 w2 hs h).trans hn)
  clear hn
  have hs' : ¬ 0 < s := by omega
  have hz : ¬ IntKind.u64.wrap (-IntKind.u64.wrap s) = 0 := by rw [neg_u64 s w2 hs]; omega
  obtain ⟨_, _⟩ := w2
  go_enter Trym.func6, Trym.ntmps6
  go_wp2
  go_ret
  exact ⟨ret_int E.out, rfl⟩

theorem len_none (a b s : Int) (h : (0 < s ∧ b ≤ a) ∨ (s < 0 ∧ a ≤ b)) (w : World) :
    Calls Trym.prog 6 #[.int .i64 a, .int .i64 b, .int .i64 s] w fun e w' => e = .returned (.int .u64 0) ∧ w' = w := by
  rcases h with ⟨h1, h2⟩ | ⟨h1, h2⟩
  · have h3 : ¬ a < b := by omega
    have h4 : ¬ s < 0 := by omega
    go_enter Trym.func6, Trym.ntmps6
    go_wp2
    go_ret
    exact ⟨rfl, rfl⟩
  · have h3 : ¬ b < a := by omega
    have h4 : ¬ 0 < s := by omega
    go_enter Trym.func6, Trym.ntmps6
    go_wp2
    go_ret
    exact ⟨rfl, rfl⟩

theorem at_any (a b s i v : Int) (hv : wrap64 (a + wrap64 (i * s)) = v) (w : World) :
    Calls Trym.prog 7 #[.int .i64 a, .int .i64 b, .int .i64 s, .int .i64 i] w fun e w' => e = .returned (.int .i64 v) ∧ Grown w w' := by
  have E := hid hv
  clear hv
  go_enter Trym.func7, Trym.ntmps7
  go_wp2
  go_ret
  exact ⟨ret_int E.out, by repeat (first | exact Grown.refl _ | apply Grown.drew | apply Grown.alloc)⟩
end Go.Proofs.Qxb6001774aMods
