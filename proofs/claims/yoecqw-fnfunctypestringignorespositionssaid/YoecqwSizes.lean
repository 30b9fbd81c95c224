/-
  YoecqwSizes: the walks of the two byte ceilings (functions 5 and 9) and of zzTooBig (6): each returns some bool and writes nothing; a ceiling that says true bounds the sum of all lengths.
-/
import Derived.Test.YoecqwBase
namespace Go.Proofs.Yoecqw
open Go.RowKit

/-- A call that hands back a bool, writes nothing, and whose 'true' says p. -/
def Tells (p : Prop) (w : World) (e : Ending) (w' : World) : Prop := ∃ b, e = .returned (.bool b) ∧ w = w' ∧ (b = true → p)
theorem Tells.no {p : Prop} {w : World} : Tells p w (.returned (.bool false)) w := ⟨false, rfl, rfl, fun h => by cases h⟩
theorem Tells.yes {p : Prop} {w : World} (h : p) : Tells p w (.returned (.bool true)) w := ⟨true, rfl, rfl, fun _ => h⟩
theorem Tells.any {w : World} {b : Bool} : Tells True w (.returned (.bool b)) w := ⟨b, rfl, rfl, fun _ => trivial⟩

set_option maxHeartbeats 400000 in
theorem bytes9_any (p1 p2 p3 : Int) (va : Bool) (an : Option Addr) (ln cn : Nat) (ap : Option Addr) (lp cp : Nat) (S : Nat → ByteArray) (w : World)
    (hN : NamesAt w an ln S) (hln : ln ≤ maxLen) (hlp : lp ≤ maxLen) :
    Calls Ecqg.prog 9 #[.int .i64 p1, .int .i64 p2, .int .i64 p3, .bool va, .slice an ln cn, .slice ap lp cp] w (Tells (ln + sumTo S ln + lp ≤ 1048576) w) := by
  unfold maxLen at hln hlp
  by_cases h1 : (1048576 : Int) < (ln : Int)
  · go_enter Ecqg.func9, Ecqg.ntmps9
    go_wp2
    go_ret
    exact Tells.no
  go_enter Ecqg.func9, Ecqg.ntmps9
  go_wp2
  go_loop [13, 14] (fun n i => ∃ k : Nat, k ≤ ln ∧ i = .int .i64 k ∧ ln + sumTo S k ≤ 1048576 ∧ n = .int .i64 ((ln + sumTo S k : Nat) : Int)) (fun _ i => ln - (intOf i).toNat)
  case atStart => exact ⟨0, Nat.zero_le _, rfl, by simp [sumTo]; omega, by simp [sumTo]⟩
  case round =>
    obtain ⟨k, hk, rfl, hsm, rfl⟩ := hrel
    by_cases hlt : k < ln
    · rcases hN with h0 | ⟨b, o, rfl, hb, hc⟩
      · omega
      have hck := hc k hlt
      have HS : Hid (sumTo S (k + 1) = sumTo S k + (S k).size) := sumTo_succ S k
      clear hc
      by_cases h2 : (1048576 : Int) < ((S k).size : Int)
      · go_wp2
        go_ret
        exact Tells.no
      by_cases h3 : (1048576 : Int) < ((ln + sumTo S k + (S k).size : Nat) : Int)
      · go_wp2
        go_ret
        exact Tells.no
      · go_wp2
        go_round
        case rel => exact ⟨k + 1, by omega, by go_num, by rw [HS.out]; omega, by rw [HS.out]; go_num⟩
        case measure => simp [intOf]; omega
    · obtain rfl : k = ln := by omega
      by_cases h2 : (1048576 : Int) < (lp : Int)
      · go_wp2
        go_ret
        exact Tells.no
      by_cases h3 : (1048576 : Int) < ((k + sumTo S k + lp : Nat) : Int)
      · go_wp2
        go_ret
        exact Tells.no
      · go_wp2
        go_ret
        exact Tells.yes (by omega)

set_option maxHeartbeats 400000 in
theorem bytes5_any (p1 p2 p3 : Int) (va : Bool) (an : Option Addr) (ln cn : Nat) (ap : Option Addr) (lp cp : Nat) (d : Int) (S : Nat → ByteArray) (w : World)
    (hN : NamesAt w an ln S) (hln : ln ≤ maxLen) (hlp : lp ≤ maxLen) :
    Calls Ecqg.prog 5 #[.int .i64 p1, .int .i64 p2, .int .i64 p3, .bool va, .slice an ln cn, .slice ap lp cp, .int .i64 d] w (Tells (ln + sumTo S ln + lp ≤ 1048576) w) := by
  unfold maxLen at hln hlp
  by_cases h1 : (1048576 : Int) < (ln : Int)
  · go_enter Ecqg.func5, Ecqg.ntmps5
    go_wp2
    go_ret
    exact Tells.no
  go_enter Ecqg.func5, Ecqg.ntmps5
  go_wp2
  go_loop [15, 16] (fun n i => ∃ k : Nat, k ≤ ln ∧ i = .int .i64 k ∧ ln + sumTo S k ≤ 1048576 ∧ n = .int .i64 ((ln + sumTo S k : Nat) : Int)) (fun _ i => ln - (intOf i).toNat)
  case atStart => exact ⟨0, Nat.zero_le _, rfl, by simp [sumTo]; omega, by simp [sumTo]⟩
  case round =>
    obtain ⟨k, hk, rfl, hsm, rfl⟩ := hrel
    by_cases hlt : k < ln
    · rcases hN with h0 | ⟨b, o, rfl, hb, hc⟩
      · omega
      have hck := hc k hlt
      have HS : Hid (sumTo S (k + 1) = sumTo S k + (S k).size) := sumTo_succ S k
      clear hc
      by_cases h2 : (1048576 : Int) < ((S k).size : Int)
      · go_wp2
        go_ret
        exact Tells.no
      by_cases h3 : (1048576 : Int) < ((ln + sumTo S k + (S k).size : Nat) : Int)
      · go_wp2
        go_ret
        exact Tells.no
      · go_wp2
        go_round
        case rel => exact ⟨k + 1, by omega, by go_num, by rw [HS.out]; omega, by rw [HS.out]; go_num⟩
        case measure => simp [intOf]; omega
    · obtain rfl : k = ln := by omega
      by_cases h2 : (1048576 : Int) < (lp : Int)
      · go_wp2
        go_ret
        exact Tells.no
      by_cases h3 : (1048576 : Int) < ((k + sumTo S k + lp : Nat) : Int)
      · go_wp2
        go_ret
        exact Tells.no
      · go_wp2
        go_ret
        exact Tells.yes (by omega)

set_option maxHeartbeats 400000 in
theorem tooBig_any (an : Option Addr) (ln cn : Nat) (ap : Option Addr) (lp cp : Nat) (S : Nat → ByteArray) (w : World)
    (hN : NamesAt w an ln S) (hsum : ln + sumTo S ln + lp ≤ 1048576) :
    Calls Ecqg.prog 6 #[.slice an ln cn, .slice ap lp cp] w (Tells True w) := by
  by_cases h1 : (65536 : Int) < (ln : Int)
  · go_enter Ecqg.func6, Ecqg.ntmps6
    go_wp2
    go_ret
    exact Tells.any
  by_cases h2 : (65536 : Int) < (lp : Int)
  · go_enter Ecqg.func6, Ecqg.ntmps6
    go_wp2
    go_ret
    exact Tells.any
  go_enter Ecqg.func6, Ecqg.ntmps6
  go_wp2
  go_loop [5, 6] (fun n i => ∃ k : Nat, k ≤ ln ∧ i = .int .i64 k ∧ n = .int .i64 ((16 * ln + 8 * lp + sumTo S k : Nat) : Int)) (fun _ i => ln - (intOf i).toNat)
  case atStart => exact ⟨0, Nat.zero_le _, rfl, by simp [sumTo]⟩
  case round =>
    obtain ⟨k, hk, rfl, rfl⟩ := hrel
    have hmo := sumTo_mono S hk
    by_cases hlt : k < ln
    · rcases hN with h0 | ⟨b, o, rfl, hb, hc⟩
      · omega
      have hck := hc k hlt
      have hmo1 := size_le_sum S hlt
      have HS : Hid (sumTo S (k + 1) = sumTo S k + (S k).size) := sumTo_succ S k
      clear hc
      by_cases h3 : (1048576 : Int) < ((16 * ln + 8 * lp + sumTo S k + (S k).size : Nat) : Int)
      · go_wp2
        go_ret
        exact Tells.any
      · go_wp2
        go_round
        case rel => exact ⟨k + 1, by omega, by go_num, by rw [HS.out]; go_num⟩
        case measure => simp [intOf]; omega
    · obtain rfl : k = ln := by omega
      go_wp2
      go_ret
      exact Tells.any

end Go.Proofs.Yoecqw
