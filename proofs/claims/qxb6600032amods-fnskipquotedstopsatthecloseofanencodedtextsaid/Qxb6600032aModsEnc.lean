/-
  'encodeQuoted' (16): its contract over the plain function 'preZ'.
-/
import Derived.Test.Qxb6600032aModsRows
import Derived.WalkKit
import Derived.ProofKit
import Derived.OpenShut
import Derived.Deep.LoopGhost
import Derived.WalkSpells
import Derived.Laws.IdiomStrings
import Derived.Test.Qxb6600032aModsEncPlain
namespace Go.Proofs.Qxb6600032aMods
open Go.ChangeShapes Go.WideShapes Go.ChangeAt Go.RowKit Plain

theorem info5 : (Trym.prog.info? 5).map (fun i => (i.zero, i.size, i.bytes)) = some (some (.int .u8 0), 1, 1) := by kernel_rfl

/-- The call's own row of bytes, at the head of block B: the numbers zs, room for cap. -/
def Row (w : World) (B cap : Nat) (zs : List Int) : Prop := w.ownsRow B 5 1 (.slice (some ⟨B, 0, none⟩) zs.length cap) zs.length (zs.map (Value.int .u8))

theorem Row.of {w : World} {B cap n : Nat} {zs : List Int} {xs news : List Value} (ys : List Int) (h : w.ownsRow B 5 1 (.slice (some ⟨B, 0, none⟩) n cap) n (xs ++ news)) (hx : xs = zs.map (Value.int .u8)) (hn : news = ys.map (Value.int .u8)) (hl : n = zs.length + ys.length) : Row w B cap (zs ++ ys) := by
  subst hx hn hl
  unfold Row
  rw [List.length_append, List.map_append]
  exact h

theorem cell_new1 (w : World) (x : Value) (t : TypeId) : ∀ j u, [x][j]? = some u → (w.alloc (.cells #[x] t)).cell? ((⟨w.heap.size, 0, none⟩ : Addr).add j) = some u := by
  intro j u hj
  match j, hj with
  | 0, hj => simp at hj; subst hj; simp [Addr.add]
theorem cell_new2 (w : World) (x y : Value) (t : TypeId) : ∀ j u, [x, y][j]? = some u → (w.alloc (.cells #[x, y] t)).cell? ((⟨w.heap.size, 0, none⟩ : Addr).add j) = some u := by
  intro j u hj
  match j, hj with
  | 0, hj => simp at hj; subst hj; simp [Addr.add]
  | 1, hj => simp at hj; subst hj; simp [Addr.add]
theorem one_cell1 (k : IntKind) (x : Int) : ∀ u ∈ [Value.int k x], u.oneCell' = true := by
  intro u hu; simp at hu; subst hu; rfl
theorem one_cell2 (k : IntKind) (x y : Int) : ∀ u ∈ [Value.int k x, Value.int k y], u.oneCell' = true := by
  intro u hu; simp at hu; rcases hu with rfl | rfl <;> rfl

/-- 'string(out)' of the call's own row. -/
theorem conv_row {w : World} {B cap n : Nat} {xs : List Value} (h : w.ownsRow B 5 1 (.slice (some ⟨B, 0, none⟩) n cap) n xs) (l : List UInt8) (hx : xs = (l.map num).map (Value.int .u8)) :
    (convert 36 9 (.slice (some ⟨B, 0, none⟩) n cap)).run Trym.prog w = .ok (.string ⟨l.toArray⟩) w := by
  subst hx
  have hn : n = l.length := by have := h.1; simp at this; omega
  subst hn
  refine run_convert_bytes_back w 36 9 5 ⟨B, 0, none⟩ cap l Trym.underlying36 Trym.underlying5 Trym.underlying9 fun j hj => ?_
  have hc := h.cellAt j (by omega)
  have e : (⟨B, 0, none⟩ : Addr).add j = ⟨B, j, none⟩ := by simp [Addr.add]; exact Eq.symm
  rw [e, hc]
  simp [List.getElem?_eq_getElem hj, num]

set_option maxHeartbeats 1000000 in
theorem enc_true (t : ByteArray) (ht : t.size ≤ 1048576) (q : Int) (l : List UInt8) (hl : l.map num = preZ q true t.data.toList ++ [q]) (w : World) :
    Calls Trym.prog 16 #[.string t, .int .u8 q, .bool true] w fun e w' => e = .returned (.string ⟨l.toArray⟩) ∧ Below w.heap.size w w' := by
  have HL := hid hl
  clear hl
  obtain ⟨i0, hi, hz0, hz1, hz2⟩ := info_parts info5
  go_enter Trym.func16, Trym.ntmps16
  go_wp2_with (first
    | (at_make; refine wpList_make_own _ rfl _ _ 36 rfl w.heap.size 5 i0 (.int .u8 0) 1 Trym.underlying36 hi hz0 hz1 .i64 .i64 _ (2 * t.size + 2) rfl rfl (by omega) (by rw [hz2]; omega) (by unfold maxLen; omega) (Nat.le_refl _) ?_; intro w1 hown1 hgrow1)
    | (at_builtin; refine wpList_append_fits _ rfl (.tmp 15) (.tmp 17) 36 rfl w.heap.size 5 i0 1 Trym.underlying36 hi hz1 w.heap.size 0 (2 * t.size + 2) [] rfl (hown1.alloc _) ⟨w1.heap.size, 0, none⟩ 1 1 [.int .u8 q] rfl rfl (cell_new1 _ _ _) (one_cell1 _ _) (by omega) ?_; intro w2 hown2 hgrow2))
  have hb1 : Below w.heap.size w w1 := (Below.refl _ _).grown hgrow1 (Nat.le_refl _) (by intro k e; cases e)
  have hb2 : Below w.heap.size w w2 := (hb1.alloc hb1.size _).grown hgrow2 (by have := hb1.size; simp; omega) (by intro k e; cases e; exact Nat.le_refl _)
  have hr2 : Row w2 w.heap.size (2 * t.size + 2) [q] := Row.of (zs := []) [q] hown2 rfl rfl rfl
  clear hown1 hown2 hgrow1 hgrow2 hb1
  go_loopg [7, 8] t.size (fun g v i wr => ∃ (k : Nat) (zs : List Int), k ≤ t.size ∧ t.size ≤ g + k ∧ zs.length ≤ 2 * k + 1 ∧ i = .int .i64 k ∧ v = .slice (some ⟨w.heap.size, 0, none⟩) zs.length (2 * t.size + 2) ∧ Row wr w.heap.size (2 * t.size + 2) zs ∧ Below w.heap.size w wr ∧ Hid (zs = preZ q true (t.data.toList.take k)))
  case atStart => exact ⟨0, [q], by omega, by omega, by simp, rfl, rfl, hr2, hb2, hid rfl⟩
  case round =>
    clear hr2 hb2
    obtain ⟨k, zs, hk, hg, hzl, rfl, rfl, hrow, hbel, hzs⟩ := hrel
    have hrow' : wr.ownsRow w.heap.size 5 1 (.slice (some ⟨w.heap.size, 0, none⟩) zs.length (2 * t.size + 2)) zs.length (zs.map (Value.int .u8)) := hrow
    have hsz := hbel.size
    by_cases hlt : k < t.size
    · have hsn := hid (preZ_snoc q true t.data.toList k hlt)
      by_cases h92 : ((t[k].toNat : Int) == 92) = true
      · go_wp2_with (at_builtin; refine wpList_append_fits _ rfl (.tmp 38) (.tmp 40) 36 rfl w.heap.size 5 i0 1 Trym.underlying36 hi hz1 w.heap.size zs.length (2 * t.size + 2) (zs.map (Value.int .u8)) rfl (hrow'.alloc _) ⟨wr.heap.size, 0, none⟩ 2 2 [.int .u8 92, .int .u8 (t[k].toNat : Int)] rfl rfl (cell_new2 _ _ _ _) (one_cell2 _ _ _) (by omega) ?_; intro w3 hown3 hgrow3)
        go_roundg (t.size - (k + 1))
        case measure => omega
        case rel =>
          refine ⟨k + 1, zs ++ [92, (t[k].toNat : Int)], by omega, by omega, by simp; omega, by go_num, by simp, Row.of [92, (t[k].toNat : Int)] hown3 rfl rfl rfl, (hbel.alloc hsz _).grown hgrow3 (by simp; omega) (by intro j e; cases e; exact Nat.le_refl _), ?_⟩
          show zs ++ [92, (t[k].toNat : Int)] = _
          rw [hsn.out, ← hzs.out]
          exact congrArg (zs ++ ·) (pieceZ_esc q _ (.inl h92)).symm
      have h93 : ((t[k].toNat : Int) == 92) = false := by simpa using h92
      clear h92
      by_cases hq : ((t[k].toNat : Int) == q) = true
      · go_wp2_with (at_builtin; refine wpList_append_fits _ rfl (.tmp 38) (.tmp 40) 36 rfl w.heap.size 5 i0 1 Trym.underlying36 hi hz1 w.heap.size zs.length (2 * t.size + 2) (zs.map (Value.int .u8)) rfl (hrow'.alloc _) ⟨wr.heap.size, 0, none⟩ 2 2 [.int .u8 92, .int .u8 (t[k].toNat : Int)] rfl rfl (cell_new2 _ _ _ _) (one_cell2 _ _ _) (by omega) ?_; intro w3 hown3 hgrow3)
        go_roundg (t.size - (k + 1))
        case measure => omega
        case rel =>
          refine ⟨k + 1, zs ++ [92, (t[k].toNat : Int)], by omega, by omega, by simp; omega, by go_num, by simp, Row.of [92, (t[k].toNat : Int)] hown3 rfl rfl rfl, (hbel.alloc hsz _).grown hgrow3 (by simp; omega) (by intro j e; cases e; exact Nat.le_refl _), ?_⟩
          show zs ++ [92, (t[k].toNat : Int)] = _
          rw [hsn.out, ← hzs.out]
          exact congrArg (zs ++ ·) (pieceZ_esc q _ (.inr hq)).symm
      have hq' : ((t[k].toNat : Int) == q) = false := by simpa using hq
      clear hq
      go_wp2_with (at_builtin; refine wpList_append_fits _ rfl (.tmp 50) (.tmp 52) 36 rfl w.heap.size 5 i0 1 Trym.underlying36 hi hz1 w.heap.size zs.length (2 * t.size + 2) (zs.map (Value.int .u8)) rfl (hrow'.alloc _) ⟨wr.heap.size, 0, none⟩ 1 1 [.int .u8 (t[k].toNat : Int)] rfl rfl (cell_new1 _ _ _) (one_cell1 _ _) (by omega) ?_; intro w3 hown3 hgrow3)
      go_roundg (t.size - (k + 1))
      case measure => omega
      case rel =>
        refine ⟨k + 1, zs ++ [(t[k].toNat : Int)], by omega, by omega, by simp; omega, by go_num, by simp, Row.of [(t[k].toNat : Int)] hown3 rfl rfl rfl, (hbel.alloc hsz _).grown hgrow3 (by simp; omega) (by intro j e; cases e; exact Nat.le_refl _), ?_⟩
        show zs ++ [(t[k].toNat : Int)] = _
        rw [hsn.out, ← hzs.out]
        exact congrArg (zs ++ ·) (pieceZ_one q true _ (.inr h93) hq').symm
    · have hke : k = t.size := by omega
      subst hke
      have hall : zs ++ [q] = l.map num := by
        rw [HL.out, hzs.out, List.take_of_length_le (by rw [Array.length_toList]; exact Nat.le_refl _)]
      have HA := hid hall
      clear hall
      go_wp2_with (at_builtin; refine wpList_append_fits _ rfl (.tmp 54) (.tmp 56) 36 rfl w.heap.size 5 i0 1 Trym.underlying36 hi hz1 w.heap.size zs.length (2 * t.size + 2) (zs.map (Value.int .u8)) rfl (hrow'.alloc _) ⟨wr.heap.size, 0, none⟩ 1 1 [.int .u8 q] rfl rfl (cell_new1 _ _ _) (one_cell1 _ _) (by omega) ?_; intro w3 hown3 hgrow3; have hcv := conv_row hown3 l (by rw [← HA.out]; simp))
      go_ret
      exact ⟨rfl, (hbel.alloc hsz _).grown hgrow3 (by simp; omega) (by intro j e; cases e; exact Nat.le_refl _)⟩

set_option maxHeartbeats 1000000 in
theorem enc_false (t : ByteArray) (ht : t.size ≤ 1048576) (q : Int) (l : List UInt8) (hl : l.map num = preZ q false t.data.toList ++ [q]) (w : World) :
    Calls Trym.prog 16 #[.string t, .int .u8 q, .bool false] w fun e w' => e = .returned (.string ⟨l.toArray⟩) ∧ Below w.heap.size w w' := by
  have HL := hid hl
  clear hl
  obtain ⟨i0, hi, hz0, hz1, hz2⟩ := info_parts info5
  go_enter Trym.func16, Trym.ntmps16
  go_wp2_with (first
    | (at_make; refine wpList_make_own _ rfl _ _ 36 rfl w.heap.size 5 i0 (.int .u8 0) 1 Trym.underlying36 hi hz0 hz1 .i64 .i64 _ (2 * t.size + 2) rfl rfl (by omega) (by rw [hz2]; omega) (by unfold maxLen; omega) (Nat.le_refl _) ?_; intro w1 hown1 hgrow1)
    | (at_builtin; refine wpList_append_fits _ rfl (.tmp 15) (.tmp 17) 36 rfl w.heap.size 5 i0 1 Trym.underlying36 hi hz1 w.heap.size 0 (2 * t.size + 2) [] rfl (hown1.alloc _) ⟨w1.heap.size, 0, none⟩ 1 1 [.int .u8 q] rfl rfl (cell_new1 _ _ _) (one_cell1 _ _) (by omega) ?_; intro w2 hown2 hgrow2))
  have hb1 : Below w.heap.size w w1 := (Below.refl _ _).grown hgrow1 (Nat.le_refl _) (by intro k e; cases e)
  have hb2 : Below w.heap.size w w2 := (hb1.alloc hb1.size _).grown hgrow2 (by have := hb1.size; simp; omega) (by intro k e; cases e; exact Nat.le_refl _)
  have hr2 : Row w2 w.heap.size (2 * t.size + 2) [q] := Row.of (zs := []) [q] hown2 rfl rfl rfl
  clear hown1 hown2 hgrow1 hgrow2 hb1
  go_loopg [7, 8] t.size (fun g v i wr => ∃ (k : Nat) (zs : List Int), k ≤ t.size ∧ t.size ≤ g + k ∧ zs.length ≤ 2 * k + 1 ∧ i = .int .i64 k ∧ v = .slice (some ⟨w.heap.size, 0, none⟩) zs.length (2 * t.size + 2) ∧ Row wr w.heap.size (2 * t.size + 2) zs ∧ Below w.heap.size w wr ∧ Hid (zs = preZ q false (t.data.toList.take k)))
  case atStart => exact ⟨0, [q], by omega, by omega, by simp, rfl, rfl, hr2, hb2, hid rfl⟩
  case round =>
    clear hr2 hb2
    obtain ⟨k, zs, hk, hg, hzl, rfl, rfl, hrow, hbel, hzs⟩ := hrel
    have hrow' : wr.ownsRow w.heap.size 5 1 (.slice (some ⟨w.heap.size, 0, none⟩) zs.length (2 * t.size + 2)) zs.length (zs.map (Value.int .u8)) := hrow
    have hsz := hbel.size
    by_cases hlt : k < t.size
    · have hsn := hid (preZ_snoc q false t.data.toList k hlt)
      by_cases hq : ((t[k].toNat : Int) == q) = true
      · go_wp2_with (at_builtin; refine wpList_append_fits _ rfl (.tmp 45) (.tmp 48) 36 rfl w.heap.size 5 i0 1 Trym.underlying36 hi hz1 w.heap.size zs.length (2 * t.size + 2) (zs.map (Value.int .u8)) rfl (hrow'.alloc _) ⟨wr.heap.size, 0, none⟩ 2 2 [.int .u8 q, .int .u8 q] rfl rfl (cell_new2 _ _ _ _) (one_cell2 _ _ _) (by omega) ?_; intro w3 hown3 hgrow3)
        go_roundg (t.size - (k + 1))
        case measure => omega
        case rel =>
          refine ⟨k + 1, zs ++ [q, q], by omega, by omega, by simp; omega, by go_num, by simp, Row.of [q, q] hown3 rfl rfl rfl, (hbel.alloc hsz _).grown hgrow3 (by simp; omega) (by intro j e; cases e; exact Nat.le_refl _), ?_⟩
          show zs ++ [q, q] = _
          rw [hsn.out, ← hzs.out]
          exact congrArg (zs ++ ·) (pieceZ_dbl q _ hq).symm
      have hq' : ((t[k].toNat : Int) == q) = false := by simpa using hq
      clear hq
      go_wp2_with (at_builtin; refine wpList_append_fits _ rfl (.tmp 50) (.tmp 52) 36 rfl w.heap.size 5 i0 1 Trym.underlying36 hi hz1 w.heap.size zs.length (2 * t.size + 2) (zs.map (Value.int .u8)) rfl (hrow'.alloc _) ⟨wr.heap.size, 0, none⟩ 1 1 [.int .u8 (t[k].toNat : Int)] rfl rfl (cell_new1 _ _ _) (one_cell1 _ _) (by omega) ?_; intro w3 hown3 hgrow3)
      go_roundg (t.size - (k + 1))
      case measure => omega
      case rel =>
        refine ⟨k + 1, zs ++ [(t[k].toNat : Int)], by omega, by omega, by simp; omega, by go_num, by simp, Row.of [(t[k].toNat : Int)] hown3 rfl rfl rfl, (hbel.alloc hsz _).grown hgrow3 (by simp; omega) (by intro j e; cases e; exact Nat.le_refl _), ?_⟩
        show zs ++ [(t[k].toNat : Int)] = _
        rw [hsn.out, ← hzs.out]
        exact congrArg (zs ++ ·) (pieceZ_one q false _ (.inl rfl) hq').symm
    · have hke : k = t.size := by omega
      subst hke
      have hall : zs ++ [q] = l.map num := by
        rw [HL.out, hzs.out, List.take_of_length_le (by rw [Array.length_toList]; exact Nat.le_refl _)]
      have HA := hid hall
      clear hall
      go_wp2_with (at_builtin; refine wpList_append_fits _ rfl (.tmp 54) (.tmp 56) 36 rfl w.heap.size 5 i0 1 Trym.underlying36 hi hz1 w.heap.size zs.length (2 * t.size + 2) (zs.map (Value.int .u8)) rfl (hrow'.alloc _) ⟨wr.heap.size, 0, none⟩ 1 1 [.int .u8 q] rfl rfl (cell_new1 _ _ _) (one_cell1 _ _) (by omega) ?_; intro w3 hown3 hgrow3; have hcv := conv_row hown3 l (by rw [← HA.out]; simp))
      go_ret
      exact ⟨rfl, (hbel.alloc hsz _).grown hgrow3 (by simp; omega) (by intro j e; cases e; exact Nat.le_refl _)⟩

theorem enc_any (t : ByteArray) (ht : t.size ≤ 1048576) (q : Int) (bs : Bool) (l : List UInt8) (hl : l.map num = preZ q bs t.data.toList ++ [q]) (w : World) :
    Calls Trym.prog 16 #[.string t, .int .u8 q, .bool bs] w fun e w' => e = .returned (.string ⟨l.toArray⟩) ∧ Below w.heap.size w w' := by
  cases bs
  · exact enc_false t ht q l hl w
  · exact enc_true t ht q l hl w
end Go.Proofs.Qxb6600032aMods
