/-
  strings.HasPrefix (22, over 23) at a prefix of two bytes.
-/
import Derived.Test.Qxb6600032aModsRows
import Derived.WalkKit
import Derived.ProofKit
import Derived.OpenShut
import Derived.WalkSpells
import Derived.Lib.Strings
import Derived.Test.Qxb6600032aModsNestPlain
namespace Go.Proofs.Qxb6600032aMods
open Go.ChangeShapes Go.WideShapes Go.ChangeAt Go.RowKit Nest

theorem retb {a b : Bool} (h : a = b) : Ending.returned (.bool a) = .returned (.bool b) := by rw [h]

theorem two_bytes (s : ByteArray) (x y : UInt8) (h2 : 2 ≤ s.size) : ((s.extract 0 2).toList == [x, y]) = has2 x y s.data.toList := by
  have hl : s.data.toList.length = s.size := Array.length_toList
  rw [Lib.extract_toList, List.drop_zero]
  match hs : s.data.toList, hl with
  | [], hl => simp at hl; omega
  | [_], hl => simp at hl; omega
  | a :: b :: r, _ => simp [has2]

theorem no_bytes (s : ByteArray) (x y : UInt8) (h2 : ¬ 2 ≤ s.size) : has2 x y s.data.toList = false := by
  have hl : s.data.toList.length = s.size := Array.length_toList
  match hs : s.data.toList, hl with
  | [], _ => rfl
  | [_], _ => rfl
  | a :: b :: r, hl => simp at hl; omega

set_option maxHeartbeats 400000 in
theorem prefix_is (s : ByteArray) (x y : UInt8) (b : Bool) (h : s.size ≤ 4194304) (hb : has2 x y s.data.toList = b) (w : World) :
    Calls Trym.prog 22 #[.string s, .string ⟨#[x, y]⟩] w fun e w' => e = .returned (.bool b) ∧ w' = w := by
  by_cases h2 : 2 ≤ s.size
  · have h2' : (2 : Int) ≤ (s.size : Int) := by omega
    have H : Hid (((s.extract 0 2).toList == [x, y]) = b) := (two_bytes s x y h2).trans hb
    clear hb
    go_enter Trym.func22, Trym.ntmps22
    go_wp2
    go_ret
    exact ⟨retb H.out, rfl⟩
  · have h2' : ¬ (2 : Int) ≤ (s.size : Int) := by omega
    have hb' := no_bytes s x y h2
    rw [hb'] at hb
    subst hb
    clear hb'
    go_enter Trym.func22, Trym.ntmps22
    go_wp2
    go_ret
    exact ⟨rfl, rfl⟩
end Go.Proofs.Qxb6600032aMods
