/-
  YoecqwStrParts: the plain side of IdentList.String: the pieces that are joined, and how long the joined text can be.
-/
import Derived.Test.YoecqwBase
import Derived.Lib.Join
namespace Go.Proofs.Yoecqw
open Go.RowKit

def dots : ByteArray := ⟨#[46, 46, 46]⟩
/-- The j-th piece: the name, with three dots ahead of the last one where the list is variadic. -/
def piece (va : Bool) (n : Nat) (S : Nat → ByteArray) (j : Nat) : ByteArray := if va = true ∧ j + 1 = n then dots ++ S j else S j
theorem piece_last {n j : Nat} (S : Nat → ByteArray) (h : j + 1 = n) : piece true n S j = dots ++ S j := if_pos ⟨rfl, h⟩
theorem piece_mid {n j : Nat} (va : Bool) (S : Nat → ByteArray) (h : ¬ j + 1 = n) : piece va n S j = S j := if_neg (fun x => h x.2)
theorem piece_plain (n j : Nat) (S : Nat → ByteArray) : piece false n S j = S j := if_neg (fun x => by cases x.1)

def pieces (va : Bool) (n : Nat) (S : Nat → ByteArray) (k : Nat) : List ByteArray := (List.range k).map (piece va n S)
theorem pieces_length (va : Bool) (n : Nat) (S : Nat → ByteArray) (k : Nat) : (pieces va n S k).length = k := by simp [pieces]
theorem pieces_succ (va : Bool) (n : Nat) (S : Nat → ByteArray) (k : Nat) : pieces va n S (k + 1) = pieces va n S k ++ [piece va n S k] := by simp [pieces, List.range_succ]

theorem piece_size (va : Bool) (n : Nat) (S : Nat → ByteArray) (j : Nat) : (piece va n S j).size ≤ (S j).size + 3 := by
  unfold piece
  split
  · rw [ByteArray.size_append]
    have : dots.size = 3 := rfl
    omega
  · omega

theorem lens_pieces (va : Bool) (n : Nat) (S : Nat → ByteArray) (k : Nat) : Lib.lens ((pieces va n S k).map (·.data.toList)) ≤ sumTo S k + 3 * k := by
  induction k with
  | zero => simp [pieces, Lib.lens]
  | succ k ih =>
    rw [pieces_succ, sumTo_succ]
    have := piece_size va n S k
    have e : ((piece va n S k).data.toList).length = (piece va n S k).size := Array.length_toList
    simp only [Lib.lens, List.map_append, List.sum_append, List.map_cons, List.map_nil, List.sum_cons, List.sum_nil] at ih ⊢
    omega

/-- The list's text between the parentheses. -/
def inner (va : Bool) (n : Nat) (S : Nat → ByteArray) : List UInt8 := Lib.join ((pieces va n S n).map (·.data.toList)) [44, 32]
theorem join_le (xs : List (List UInt8)) (sep : List UInt8) : (Lib.join xs sep).length ≤ sep.length * xs.length + Lib.lens xs := by
  cases xs with
  | nil => simp [Lib.join_nil]
  | cons x r =>
    rw [Lib.join_length]
    have : sep.length * r.length ≤ sep.length * (x :: r).length := Nat.mul_le_mul_left _ (by simp)
    omega
theorem inner_le (va : Bool) (n : Nat) (S : Nat → ByteArray) : (inner va n S).length ≤ sumTo S n + 5 * n := by
  have h := join_le ((pieces va n S n).map (·.data.toList)) [44, 32]
  have h' := lens_pieces va n S n
  simp only [List.length_map, pieces_length, List.length_cons, List.length_nil] at h
  unfold inner
  omega
theorem inner_zero (va : Bool) (S : Nat → ByteArray) : inner va 0 S = [] := rfl

end Go.Proofs.Yoecqw
