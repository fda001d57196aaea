/-
  SMALL AIDS: a text set behind a text; a byte of a string as the walk reads it.
-/
import Derived.Test.Qxb6600032aModsQuoted
namespace Go.Proofs.Qxb6600032aMods
open Go.ChangeShapes Go.WideShapes Go.ChangeAt Go.RowKit Plain

theorem app_bytes (a b : ByteArray) : (a ++ b).data.toList = a.data.toList ++ b.data.toList := by rw [ByteArray.data_append, Array.toList_append]
theorem app_size (a b : ByteArray) : (a ++ b).size = a.size + b.size := ByteArray.size_append

/-- A byte of a string, as the walk reads it. -/
theorem index_at (t : ByteArray) (i : Nat) (z : Int) (hz : z = (i : Int)) (c : UInt8) (h : t.data.toList[i]? = some c) (w : World) :
    (Instr.index 9 (.string t) (.int .i64 z)).run Trym.prog w = .ok (.int .u8 (num c)) w := by
  subst hz
  have hi : i < t.size := by
    have := (List.getElem?_eq_some_iff.1 h).1
    rwa [len_bytes] at this
  rw [run_index_string _ _ _ _ _ Trym.underlying9, dif_pos ⟨by omega, by omega⟩]
  obtain ⟨h1, h2⟩ := List.getElem?_eq_some_iff.1 h
  have e : t[((i : Int).toNat)]'(by omega) = c := h2
  rw [e]; rfl
end Go.Proofs.Qxb6600032aMods
