/-
  YoecqwSpanReads: the walks of zzOut (10), zzAnyOut (11), zzSpanShaped (12).
-/
import Derived.Test.YoecqwSizes
import Derived.Deep.QuietTactic
import Derived.BigQuiet
namespace Go.Proofs.Yoecqw
open Go.RowKit

/-- A call that hands back a bool, writes nothing, and whose 'false' says p. -/
def TellsNot (p : Prop) (w : World) (e : Ending) (w' : World) : Prop := ∃ b, e = .returned (.bool b) ∧ w = w' ∧ (b = false → p)
theorem TellsNot.yes {p : Prop} {w : World} : TellsNot p w (.returned (.bool true)) w := ⟨true, rfl, rfl, fun h => by cases h⟩
theorem TellsNot.no {p : Prop} {w : World} (h : p) : TellsNot p w (.returned (.bool false)) w := ⟨false, rfl, rfl, fun _ => h⟩

theorem out_any (x : Int) (w : World) : Calls Ecqg.prog 10 #[.int .i64 x, .int .i64 1073741824] w (TellsNot (-1073741824 ≤ x ∧ x ≤ 1073741824) w) := by
  by_cases h1 : x < -1073741824
  · go_enter Ecqg.func10, Ecqg.ntmps10
    go_wp2
    go_ret
    exact TellsNot.yes
  by_cases h2 : 1073741824 < x
  · go_enter Ecqg.func10, Ecqg.ntmps10
    go_wp2
    go_ret
    exact TellsNot.yes
  go_enter Ecqg.func10, Ecqg.ntmps10
  go_wp2
  go_ret
  exact TellsNot.no (by first | trivial | omega)

def InLim (n : Nat) (Z : Nat → Int) : Prop := ∀ i, i < n → -1073741824 ≤ Z i ∧ Z i ≤ 1073741824
theorem InLim.zero (Z : Nat → Int) : InLim 0 Z := fun i hi => by omega
theorem InLim.succ {n : Nat} {Z : Nat → Int} (h : InLim n Z) (hn : -1073741824 ≤ Z n ∧ Z n ≤ 1073741824) : InLim (n + 1) Z := fun i hi => by
  by_cases e : i = n
  · subst e; exact hn
  · exact h i (by omega)

theorem anyOut_any (ap : Option Addr) (lp cp : Nat) (Z : Nat → Int) (w : World) (hP : IntsAt w ap lp Z) (hlp : lp ≤ 1048576) :
    Calls Ecqg.prog 11 #[.slice ap lp cp, .int .i64 1073741824] w (TellsNot (InLim lp Z) w) := by
  go_enter Ecqg.func11, Ecqg.ntmps11
  go_wp2
  go_loop [5] (fun i => ∃ k : Nat, k ≤ lp ∧ i = .int .i64 k ∧ InLim k Z) (fun i => lp - (intOf i).toNat)
  case atStart => exact ⟨0, Nat.zero_le _, rfl, InLim.zero Z⟩
  case round =>
    obtain ⟨k, hk, rfl, hin⟩ := hrel
    by_cases hlt : k < lp
    · rcases hP with h0 | ⟨b, o, rfl, hb, hc⟩
      · omega
      have hck := hc k hlt
      clear hc
      go_wp2_with fail
      refine (out_any _ _).mono ?_
      rintro e w' ⟨b', rfl, rfl, hb'⟩
      cases b' with
      | true =>
        go_wp2
        go_ret
        exact TellsNot.yes
      | false =>
        have hz := hb' rfl
        clear hb'
        go_wp2
        go_round
        case rel => exact ⟨k + 1, by omega, by go_num, hin.succ hz⟩
        case measure => simp [intOf]; omega
    · obtain rfl : k = lp := by omega
      go_wp2
      go_ret
      exact TellsNot.no (by first | exact hin | trivial)

/-- The layout that zzSpanShaped asks: 'func' at p1, the parentheses at p2 and p3, every name between them. -/
def Shaped (p1 p2 p3 : Int) (n : Nat) (S : Nat → ByteArray) (Z : Nat → Int) : Prop :=
  1 ≤ p1 ∧ p1 + 4 ≤ p2 ∧ p2 + 1 ≤ p3 ∧ ∀ i, i < n → p2 + 1 ≤ Z i ∧ Z i + ((S i).size : Int) ≤ p3
/-- Behind k rounds: the names so far lie between p2 + 1 and cur. -/
def Upto (p2 cur : Int) (k : Nat) (S : Nat → ByteArray) (Z : Nat → Int) : Prop :=
  p2 + 1 ≤ cur ∧ ∀ i, i < k → p2 + 1 ≤ Z i ∧ Z i + ((S i).size : Int) ≤ cur
theorem Upto.zero (p2 : Int) (S : Nat → ByteArray) (Z : Nat → Int) : Upto p2 (p2 + 1) 0 S Z := ⟨Int.le_refl _, fun i hi => by omega⟩
theorem Upto.succ {p2 cur : Int} {k : Nat} {S : Nat → ByteArray} {Z : Nat → Int} (h : Upto p2 cur k S Z) (hz : cur ≤ Z k) : Upto p2 (Z k + ((S k).size : Int)) (k + 1) S Z := by
  refine ⟨by have := h.1; omega, fun i hi => ?_⟩
  by_cases e : i = k
  · subst e; have := h.1; omega
  · have := h.2 i (by omega); omega

/-- As 'Tells', behind draws. -/
def TellsDrawn (p : Prop) (w : World) (e : Ending) (w' : World) : Prop := ∃ b, e = .returned (.bool b) ∧ (∃ n, w' = w.drewN n) ∧ (b = true → p)
theorem TellsDrawn.no {p : Prop} {w : World} {n : Nat} : TellsDrawn p w (.returned (.bool false)) (w.drewN n) := ⟨false, rfl, ⟨n, rfl⟩, fun h => by cases h⟩
theorem TellsDrawn.yes {p : Prop} {w : World} {n : Nat} (h : p) : TellsDrawn p w (.returned (.bool true)) (w.drewN n) := ⟨true, rfl, ⟨n, rfl⟩, fun _ => h⟩

set_option maxHeartbeats 400000 in
theorem shaped_any (p1 p2 p3 : Int) (an : Option Addr) (ln cn : Nat) (ap : Option Addr) (lp cp : Nat) (S : Nat → ByteArray) (Z : Nat → Int) (w : World)
    (hN : NamesAt w an ln S) (hP : IntsAt w ap lp Z) (hl : ln = lp) (hsum : ln + sumTo S ln + lp ≤ 1048576) (hin : InLim lp Z)
    (h1a : -1073741824 ≤ p1) (h1b : p1 ≤ 1073741824) (h2a : -1073741824 ≤ p2) (h2b : p2 ≤ 1073741824) :
    Calls Ecqg.prog 12 #[.int .i64 p1, .int .i64 p2, .int .i64 p3, .slice an ln cn, .slice ap lp cp] w (TellsDrawn (Shaped p1 p2 p3 ln S Z) w) := by
  subst hl
  by_cases h1 : p1 < 1
  · go_enter Ecqg.func12, Ecqg.ntmps12
    go_wp2
    go_ret
    exact TellsDrawn.no (n := 0)
  by_cases h2 : p2 < p1 + 4
  · go_enter Ecqg.func12, Ecqg.ntmps12
    go_wp2
    go_ret
    exact TellsDrawn.no (n := 0)
  go_enter Ecqg.func12, Ecqg.ntmps12
  go_wp2
  go_loopw [11, 12] (fun c i wr => ∃ (k : Nat) (cur : Int) (nd : Nat), k ≤ ln ∧ i = .int .i64 k ∧ c = .int .i64 cur ∧ Upto p2 cur k S Z ∧ -1073741824 ≤ cur ∧ cur ≤ 1100000000 ∧ wr = w.drewN nd) (fun _ i _ => ln - (intOf i).toNat)
  case atStart => exact ⟨0, p2 + 1, 0, Nat.zero_le _, rfl, rfl, Upto.zero p2 S Z, by omega, by omega, rfl⟩
  case round =>
    obtain ⟨k, cur, nd, hk, rfl, rfl, hup, hc1, hc2, rfl⟩ := hrel
    by_cases hlt : k < ln
    · rcases hN with h0 | ⟨b, o, rfl, hb, hc⟩
      · omega
      rcases hP with h0 | ⟨b', o', rfl, hb', hc'⟩
      · omega
      have hck := hc k hlt
      have hck' := hc' k hlt
      have hsz := size_le_sum S hlt
      obtain ⟨hz1, hz2⟩ := hin k hlt
      clear hc hc' hin
      have i1 : (0 : Int) ≤ (k : Int) := by omega
      have i2 : (k : Int) < (ln : Int) := by omega
      by_cases h3 : Z k < cur
      · go_wp2
        go_ret
        exact TellsDrawn.no
      · go_wp2
        go_quiet (fail)
        go_wp2
        go_roundw
        case rel => exact ⟨k + 1, _, _, by omega, by go_num, rfl, hup.succ (by omega), by omega, by omega, rfl⟩
        case measure => simp [intOf]; omega
    · obtain rfl : k = ln := by omega
      by_cases h3 : cur ≤ p3
      · go_wp2
        go_ret
        exact TellsDrawn.yes ⟨by omega, by omega, by have := hup.1; omega, fun i hi => by have := hup.2 i hi; omega⟩
      · go_wp2
        go_ret
        exact TellsDrawn.no
end Go.Proofs.Yoecqw
