/-
  YoecqwBase: the words that all walks of this seat share: what is known of the two slices that come in; the sum of the names' lengths.
-/
import Derived.Test.YoecqwRows
import Derived.WalkKit
import Derived.WalkSpells
namespace Go.Proofs.Yoecqw
open Go.RowKit

/-- The slice at 'a' holds n strings, S 0 .. S (n - 1), in blocks that were there. -/
def NamesAt (w : World) (a : Option Addr) (n : Nat) (S : Nat → ByteArray) : Prop :=
  n = 0 ∨ ∃ b o, a = some ⟨b, o, none⟩ ∧ b < w.heap.size ∧ ∀ i, i < n → w.cell? ⟨b, o + i, none⟩ = some (.string (S i))
/-- The slice at 'a' holds n ints, Z 0 .. Z (n - 1), in blocks that were there. -/
def IntsAt (w : World) (a : Option Addr) (n : Nat) (Z : Nat → Int) : Prop :=
  n = 0 ∨ ∃ b o, a = some ⟨b, o, none⟩ ∧ b < w.heap.size ∧ ∀ i, i < n → w.cell? ⟨b, o + i, none⟩ = some (.int .i64 (Z i))

theorem NamesAt.below {B : Nat} {w w' : World} {a : Option Addr} {n : Nat} {S : Nat → ByteArray} (h : NamesAt w a n S) (hb : Below B w w') (hB : w.heap.size ≤ B) : NamesAt w' a n S := by
  rcases h with h | ⟨b, o, rfl, hlt, hc⟩
  · exact Or.inl h
  · exact Or.inr ⟨b, o, rfl, Nat.lt_of_lt_of_le hlt hb.size, fun i hi => (hb.cell (p := ⟨b, o + i, none⟩) (Nat.lt_of_lt_of_le hlt hB)).trans (hc i hi)⟩
theorem IntsAt.below {B : Nat} {w w' : World} {a : Option Addr} {n : Nat} {Z : Nat → Int} (h : IntsAt w a n Z) (hb : Below B w w') (hB : w.heap.size ≤ B) : IntsAt w' a n Z := by
  rcases h with h | ⟨b, o, rfl, hlt, hc⟩
  · exact Or.inl h
  · exact Or.inr ⟨b, o, rfl, Nat.lt_of_lt_of_le hlt hb.size, fun i hi => (hb.cell (p := ⟨b, o + i, none⟩) (Nat.lt_of_lt_of_le hlt hB)).trans (hc i hi)⟩

/-- The sum of the first k names' lengths. -/
def sumTo (S : Nat → ByteArray) : Nat → Nat
  | 0 => 0
  | k + 1 => sumTo S k + (S k).size
theorem sumTo_succ (S : Nat → ByteArray) (k : Nat) : sumTo S (k + 1) = sumTo S k + (S k).size := rfl
theorem sumTo_mono (S : Nat → ByteArray) {k n : Nat} (h : k ≤ n) : sumTo S k ≤ sumTo S n := by
  induction h with
  | refl => exact Nat.le_refl _
  | step _ ih => rw [sumTo_succ]; omega
theorem size_le_sum (S : Nat → ByteArray) {k n : Nat} (h : k < n) : sumTo S k + (S k).size ≤ sumTo S n := sumTo_mono S h

theorem ret_bool {a b : Bool} (h : a = b) : Ending.returned (.bool a) = .returned (.bool b) := by rw [h]

end Go.Proofs.Yoecqw
