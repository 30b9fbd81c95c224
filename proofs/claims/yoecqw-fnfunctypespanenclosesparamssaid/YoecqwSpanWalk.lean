/-
  YoecqwSpanWalk: the walks of (*FuncType).Pos (13), (*FuncType).End (14) and of the law FnFuncTypeSpanEnclosesParams (4).
-/
import Derived.Test.YoecqwSpanReads
import Derived.Test.YoecqwBuild
namespace Go.Proofs.Yoecqw
open Go.RowKit

theorem pos_any (B1 : Nat) (p1 : Int) (w : World) (h : w.cell? ⟨B1, 0, none⟩ = some (.int .i64 p1)) :
    Calls Ecqg.prog 13 #[.pointer (some ⟨B1, 0, none⟩)] w fun e w' => e = .returned (.int .i64 p1) ∧ w = w' := by
  go_enter Ecqg.func13, Ecqg.ntmps13
  go_wp2
  go_ret
  exact ⟨rfl, rfl⟩

theorem end_any (B1 B2 : Nat) (p3 : Int) (w : World) (h1 : w.cell? ⟨B1, 1, none⟩ = some (.pointer (some ⟨B2, 0, none⟩))) (h2 : w.cell? ⟨B2, 3, none⟩ = some (.int .i64 p3))
    (h3 : 1 ≤ p3) (h4 : p3 ≤ 1073741824) :
    Calls Ecqg.prog 14 #[.pointer (some ⟨B1, 0, none⟩)] w fun e w' => e = .returned (.int .i64 (p3 + 1)) ∧ w = w' := by
  go_enter Ecqg.func14, Ecqg.ntmps14
  go_wp2
  go_ret
  exact ⟨rfl, rfl⟩

/-- The law's end: true, and nothing that was there has turned. -/
def IsTrue (w : World) (e : Ending) (w' : World) : Prop := e = .returned (.bool true) ∧ Below w.heap.size w w'
theorem belowDrewN {B : Nat} {a w : World} (h : Below B a w) (n : Nat) : Below B a (w.drewN n) := by
  induction n with
  | zero => exact h
  | succ n ih => exact ih.drew

set_option maxRecDepth 100000 in
set_option maxHeartbeats 800000 in
theorem span_walk (p1 p2 p3 : Int) (va : Bool) (an : Option Addr) (ln cn : Nat) (ap : Option Addr) (lp cp : Nat) (S : Nat → ByteArray) (Z : Nat → Int) (w : World)
    (hN : NamesAt w an ln S) (hln : ln ≤ maxLen) (hP : IntsAt w ap lp Z) (hlp : lp ≤ maxLen) :
    Calls Ecqg.prog 4 #[.int .i64 p1, .int .i64 p2, .int .i64 p3, .bool va, .slice an ln cn, .slice ap lp cp] w (IsTrue w) := by
  go_enter Ecqg.func4, Ecqg.ntmps4
  go_wp2_with fail
  refine (bytes9_any _ _ _ _ _ _ _ _ _ _ S _ hN hln hlp).mono ?_
  rintro e w' ⟨b, rfl, rfl, hb⟩
  cases b with
  | false =>
    go_wp2
    go_ret
    exact ⟨rfl, Below.refl _ _⟩
  | true =>
  have hsum := hb rfl
  clear hb hln hlp
  go_wp2_with fail
  refine (tooBig_any _ _ _ _ _ _ S _ hN hsum).mono ?_
  rintro e w' ⟨b, rfl, rfl, -⟩
  cases b with
  | true =>
    go_wp2
    go_ret
    exact ⟨rfl, Below.refl _ _⟩
  | false =>
  by_cases hl : ln = lp
  rotate_left
  · have hne : ((ln : Int) != (lp : Int)) = true := by rw [bne_iff_ne]; omega
    go_wp2
    go_ret
    exact ⟨rfl, Below.refl _ _⟩
  subst hl
  go_wp2_with fail
  refine (out_any _ _).mono ?_
  rintro e w' ⟨b, rfl, rfl, h1⟩
  cases b with
  | true =>
    go_wp2
    go_ret
    exact ⟨rfl, Below.refl _ _⟩
  | false =>
  obtain ⟨h1a, h1b⟩ := h1 rfl
  clear h1
  go_wp2_with fail
  refine (out_any _ _).mono ?_
  rintro e w' ⟨b, rfl, rfl, h2⟩
  cases b with
  | true =>
    go_wp2
    go_ret
    exact ⟨rfl, Below.refl _ _⟩
  | false =>
  obtain ⟨h2a, h2b⟩ := h2 rfl
  clear h2
  go_wp2_with fail
  refine (out_any _ _).mono ?_
  rintro e w' ⟨b, rfl, rfl, h3⟩
  cases b with
  | true =>
    go_wp2
    go_ret
    exact ⟨rfl, Below.refl _ _⟩
  | false =>
  obtain ⟨h3a, h3b⟩ := h3 rfl
  clear h3
  go_wp2_with fail
  refine (anyOut_any _ _ _ Z _ hP (by omega)).mono ?_
  rintro e w' ⟨b, rfl, rfl, h4⟩
  cases b with
  | true =>
    go_wp2
    go_ret
    exact ⟨rfl, Below.refl _ _⟩
  | false =>
  have hin := h4 rfl
  clear h4
  go_wp2_with fail
  refine (shaped_any _ _ _ _ _ _ _ _ _ S Z _ hN hP rfl hsum hin h1a h1b h2a h2b).mono ?_
  rintro e w' ⟨b, rfl, ⟨nd, rfl⟩, h5⟩
  cases b with
  | false =>
    go_wp2
    go_ret
    exact ⟨rfl, belowDrewN (Below.refl _ _) _⟩
  | true =>
  obtain ⟨q1, q2, q3, q4⟩ := h5 rfl
  clear h5
  have hdN : Below w.heap.size w (w.drewN nd) := belowDrewN (Below.refl _ _) _
  have hN1 := hN.below hdN (Nat.le_refl _)
  have hP1 := hP.below hdN (Nat.le_refl _)
  go_wp2_with fail
  refine (build_any _ _ _ _ _ _ _ _ _ _ S Z _ hN1 hP1 rfl (by omega)).mono ?_
  rintro e w1 ⟨B1, B2, g, cap, Q, rfl, hB, hbel⟩
  have c1 := hB.fpos
  have c2 := hB.params
  have c3 := hB.rparen
  clear hB
  have hN2 := hN1.below hbel (Nat.le_refl _)
  have hP2 := hP1.below hbel (Nat.le_refl _)
  have HB : Below w.heap.size w w1 := hdN.trans (hbel.mono hdN.size)
  clear hN1 hP1 hbel hdN hN hP
  go_wp2_with fail
  refine (pos_any _ _ _ c1).mono ?_
  rintro e w' ⟨rfl, rfl⟩
  go_wp2_with fail
  refine (end_any _ _ _ _ c2 c3 (by omega) h3b).mono ?_
  rintro e w' ⟨rfl, rfl⟩
  clear c1 c2 c3
  have hd0 : decide (p3 + 1 ≤ p1) = false := decide_eq_false (by omega)
  have Q4 : Hid (∀ i, i < ln → p2 + 1 ≤ Z i ∧ Z i + ((S i).size : Int) ≤ p3) := q4
  have HIN : Hid (InLim ln Z) := hin
  clear q4 hin
  go_wp2_with fail
  go_loopw [16] (fun i wr => ∃ (k nq : Nat), k ≤ ln ∧ i = .int .i64 k ∧ wr = w1.drewN nq) (fun i _ => ln - (intOf i).toNat)
  case atStart => exact ⟨0, 0, Nat.zero_le _, rfl, rfl⟩
  case round =>
    obtain ⟨k, nq0, hk, rfl, rfl⟩ := hrel
    by_cases hlt : k < ln
    · rcases hN2 with h0 | ⟨b, o, rfl, hb, hc⟩
      · omega
      rcases hP2 with h0 | ⟨b', o', rfl, hb', hc'⟩
      · omega
      have hck := hc k hlt
      have hck' := hc' k hlt
      have hsz := size_le_sum S hlt
      obtain ⟨hz1, hz2⟩ := HIN.out k hlt
      obtain ⟨y1, y2⟩ := Q4.out k hlt
      clear hc hc' Q4 HIN
      have i1 : (0 : Int) ≤ (k : Int) := by omega
      have i2 : (k : Int) < (ln : Int) := by omega
      have hd1 : decide (Z k ≤ p1) = false := decide_eq_false (by omega)
      go_wp2_with fail
      go_quiet (fail)
      go_wp2
      go_roundw
      case rel => exact ⟨k + 1, _, by omega, by go_num, rfl⟩
      case measure => simp [intOf]; omega
    · obtain rfl : k = ln := by omega
      go_wp2
      go_ret
      exact ⟨rfl, belowDrewN HB _⟩

end Go.Proofs.Yoecqw
