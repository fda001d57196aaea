/-
  PLAIN FUNCTIONS AND LAWS for 'encodeQuoted': no Go in sight.
-/
import Derived.Test.Qxb6600032aModsPlain
namespace Go.Proofs.Qxb6600032aMods.Plain
open Go.RowKit

/-- What one byte is written as, in numbers. -/
def pieceZ (q : Int) (bs : Bool) (c : UInt8) : List Int :=
  if (bs && (num c == 92 || num c == q)) = true then [92, num c] else if (num c == q) = true then [q, q] else [num c]

/-- The opening quote and all that is written behind it. -/
def preZ (q : Int) (bs : Bool) (l : List UInt8) : List Int := q :: l.flatMap (pieceZ q bs)

theorem preZ_snoc (q : Int) (bs : Bool) (l : List UInt8) (k : Nat) (h : k < l.length) : preZ q bs (l.take (k + 1)) = preZ q bs (l.take k) ++ pieceZ q bs l[k] := by
  unfold preZ
  rw [List.take_succ_eq_append_getElem h, List.flatMap_append]
  simp

theorem pieceZ_esc (q : Int) (c : UInt8) (h : (num c == 92) = true ∨ (num c == q) = true) : pieceZ q true c = [92, num c] := by
  unfold pieceZ
  rw [if_pos (by rcases h with h | h <;> simp [h])]
theorem pieceZ_dbl (q : Int) (c : UInt8) (h : (num c == q) = true) : pieceZ q false c = [q, q] := by
  unfold pieceZ
  rw [if_neg (by simp), if_pos h]
theorem pieceZ_one (q : Int) (bs : Bool) (c : UInt8) (h1 : bs = false ∨ (num c == 92) = false) (h2 : (num c == q) = false) : pieceZ q bs c = [num c] := by
  unfold pieceZ
  rw [if_neg (by rcases h1 with h | h <;> simp [h, h2]), if_neg (by rw [h2]; decide)]

/-- The same in bytes. -/
def piece (q : UInt8) (bs : Bool) (c : UInt8) : List UInt8 :=
  if (bs && (num c == 92 || num c == num q)) = true then [92, c] else if (num c == num q) = true then [q, q] else [c]
def body (q : UInt8) (bs : Bool) (l : List UInt8) : List UInt8 := l.flatMap (piece q bs)

theorem num92 : num 92 = 92 := by decide

theorem piece_num (q : UInt8) (bs : Bool) (c : UInt8) : (piece q bs c).map num = pieceZ (num q) bs c := by
  unfold piece pieceZ
  split
  · simp [num92]
  · split <;> simp

theorem body_num (q : UInt8) (bs : Bool) : ∀ l : List UInt8, (body q bs l).map num = l.flatMap (pieceZ (num q) bs)
  | [] => rfl
  | c :: l => by
    have := body_num q bs l
    unfold body at this ⊢
    simp only [List.flatMap_cons, List.map_append, piece_num, this]

/-- All of it, in bytes and in numbers. -/
theorem whole_num (q : UInt8) (bs : Bool) (l : List UInt8) : (q :: (body q bs l ++ [q])).map num = preZ (num q) bs l ++ [num q] := by
  unfold preZ
  simp [body_num]

theorem body_len (q : UInt8) (bs : Bool) : ∀ l : List UInt8, (body q bs l).length ≤ 2 * l.length
  | [] => by simp [body]
  | c :: l => by
    have := body_len q bs l
    unfold body at this ⊢
    rw [List.flatMap_cons, List.length_append, List.length_cons]
    have h : (piece q bs c).length ≤ 2 := by
      unfold piece
      split
      · simp
      · split <;> simp
    omega

/-- The scanner goes over the encoded bytes and stops behind the closing quote. -/
theorem sq_body (q : UInt8) (bs : Bool) (m : List UInt8) (hq : (bs && (num q == 92)) = false) (hm : ∀ d r, m = d :: r → (num d == num q) = false) :
    ∀ l : List UInt8, sq (num q) bs (body q bs l ++ q :: m) = (body q bs l).length + 1
  | [] => by
    show sq (num q) bs (q :: m) = 1
    cases m with
    | nil => rfl
    | cons d r => rw [sq, if_neg (by rw [hq]; decide), if_pos (by simp), if_neg (by rw [hm d r rfl]; decide)]
  | c :: l => by
    have ih := sq_body q bs m hq hm l
    have e : body q bs (c :: l) = piece q bs c ++ body q bs l := by simp [body]
    rw [e, List.append_assoc, List.length_append]
    by_cases h1 : (bs && (num c == 92 || num c == num q)) = true
    · have ep : piece q bs c = [92, c] := by unfold piece; rw [if_pos h1]
      have hb : bs = true := by revert h1; cases bs <;> simp
      rw [ep]
      show sq (num q) bs (92 :: c :: (body q bs l ++ q :: m)) = _
      rw [sq, if_pos (by rw [hb, num92]; decide), ih]
      simp; omega
    · by_cases h2 : (num c == num q) = true
      · have ep : piece q bs c = [q, q] := by unfold piece; rw [if_neg h1, if_pos h2]
        have hb : bs = false := by
          cases bs
          · rfl
          · exact absurd (by simp [h2]) h1
        rw [ep]
        show sq (num q) bs (q :: q :: (body q bs l ++ q :: m)) = _
        rw [sq, if_neg (by rw [hb]; simp), if_pos (by simp), if_pos (by simp), ih]
        simp; omega
      · have ep : piece q bs c = [c] := by unfold piece; rw [if_neg h1, if_neg h2]
        have h3 : (bs && (num c == 92)) = false := by
          cases bs
          · rfl
          · revert h1; cases (num c == 92) <;> simp
        rw [ep]
        show sq (num q) bs (c :: (body q bs l ++ q :: m)) = _
        have hne : body q bs l ++ q :: m ≠ [] := by simp
        obtain ⟨d, r, hd⟩ := List.exists_cons_of_ne_nil hne
        rw [hd] at ih ⊢
        rw [sq, if_neg (by rw [h3]; decide), if_neg h2, ih]
        simp; omega

/-- The law in plain words. -/
theorem stop_enc (q : UInt8) (bs : Bool) (l m : List UInt8) (hq : (bs && (num q == 92)) = false) (hm : ∀ d r, m = d :: r → (num d == num q) = false) :
    stop (num q) bs ((q :: (body q bs l ++ [q])) ++ m) 1 = (q :: (body q bs l ++ [q])).length := by
  unfold stop
  have e : ((q :: (body q bs l ++ [q])) ++ m).drop 1 = body q bs l ++ q :: m := by simp
  rw [if_pos (by simp), e, sq_body q bs m hq hm l]
  simp; omega
end Go.Proofs.Qxb6600032aMods.Plain
