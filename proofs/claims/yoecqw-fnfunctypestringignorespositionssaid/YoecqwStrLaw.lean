/-
  YoecqwStrLaw: the walk of the law FnFuncTypeStringIgnoresPositions (3).
-/
import Derived.Test.YoecqwStrWalk
namespace Go.Proofs.Yoecqw
open Go.RowKit

theorem Ecqg.info3 : (Ecqg.prog.info? 3).map (fun i => (i.zero, i.size, i.bytes)) = some (some (.int .i64 0), 1, 8) := by kernel_rfl

/-- The slice 'moved' while the loop fills it: a row of n ints at block g, made behind w1. -/
def Moved (w1 wr : World) (g n : Nat) : Prop := ∃ zs : List Int, wr.ownsRow g 3 1 (.slice (some ⟨g, 0, none⟩) n n) n (zs.map (Value.int .i64)) ∧ Below g w1 wr
theorem Moved.cell {w1 wr : World} {g n k : Nat} (h : Moved w1 wr g n) (hk : k < n) : (∃ z, wr.cell? ⟨g, k, none⟩ = some (.int .i64 z)) ∧ wr.frozen? ⟨g, k, none⟩ = false := by
  obtain ⟨zs, hown, _⟩ := h
  refine ⟨?_, hown.frozenAt k⟩
  have hl : zs.length = n := by have := hown.1; simpa using this
  rw [hown.cellAt k (by omega), List.getElem?_map]
  exact ⟨zs[k], by rw [List.getElem?_eq_getElem (by omega)]; rfl⟩
theorem Moved.set {w1 wr : World} {g n k : Nat} (h : Moved w1 wr g n) (z : Int) : Moved w1 (wr.setCell ⟨g, k, none⟩ (.int .i64 z)) g n := by
  obtain ⟨zs, hown, hb⟩ := h
  have hs := (hown.stored k (.int .i64 z)).1
  rw [← List.map_set] at hs
  exact ⟨zs.set k z, hs, hb.setCell (Nat.le_refl _) _⟩
theorem Moved.ints {w1 wr : World} {g n : Nat} (h : Moved w1 wr g n) : ∃ Z, IntsAt wr (some ⟨g, 0, none⟩) n Z := by
  obtain ⟨zs, hown, _⟩ := h
  have hl : zs.length = n := by have := hown.1; simpa using this
  refine ⟨fun i => zs.getD i 0, ?_⟩
  by_cases h0 : n = 0
  · exact Or.inl h0
  have hc : ∀ i, i < n → wr.cell? ⟨g, 0 + i, none⟩ = some (.int .i64 (zs.getD i 0)) := fun i hi => by
    rw [Nat.zero_add, hown.cellAt i (by omega), List.getElem?_map, List.getElem?_eq_getElem (by omega)]
    simp [List.getD, List.getElem?_eq_getElem (show i < zs.length by omega)]
  exact Or.inr ⟨g, 0, rfl, World.block_lt_of_cell? _ _ (hc 0 (by omega)), hc⟩
theorem Moved.start {w1 wr : World} {n : Nat} (hown : wr.ownsRow w1.heap.size 3 1 (.slice (some ⟨w1.heap.size, 0, none⟩) n n) n (madeCells (Value.int .i64 0).cells (n * 1)).toList) (hgrow : w1.grownBy wr none) : Moved w1 wr w1.heap.size n := by
  refine ⟨List.replicate n 0, ?_, (Below.refl _ _).grown hgrow (Nat.le_refl _) (fun k hk => by cases hk)⟩
  rw [show (Value.int .i64 0).cells = #[Value.int .i64 0] from rfl, Nat.mul_one, toList_madeCells_one] at hown
  rw [List.map_replicate]
  exact hown
theorem Moved.below {w1 wr : World} {n : Nat} (h : Moved w1 wr w1.heap.size n) : Below w1.heap.size w1 wr := h.choose_spec.2

theorem Hid.intro {p : Prop} (h : p) : Hid p := h

/-- The law's end: true, and nothing that was there has turned. -/
def StrTrue (w : World) (e : Ending) (w' : World) : Prop := e = .returned (.bool true) ∧ Below w.heap.size w w'

set_option maxRecDepth 100000 in
set_option maxHeartbeats 800000 in
theorem str_walk (p1 p2 p3 : Int) (va : Bool) (an : Option Addr) (ln cn : Nat) (ap : Option Addr) (lp cp : Nat) (d : Int) (S : Nat → ByteArray) (Z : Nat → Int) (w : World)
    (hN : NamesAt w an ln S) (hln : ln ≤ maxLen) (hP : IntsAt w ap lp Z) (hlp : lp ≤ maxLen) :
    Calls Ecqg.prog 3 #[.int .i64 p1, .int .i64 p2, .int .i64 p3, .bool va, .slice an ln cn, .slice ap lp cp, .int .i64 d] w (StrTrue w) := by
  obtain ⟨i0, hi, hz0, hz1, hz2⟩ := info_parts Ecqg.info3
  go_enter Ecqg.func3, Ecqg.ntmps3
  go_wp2_with fail
  refine (bytes5_any _ _ _ _ _ _ _ _ _ _ _ S _ hN hln hlp).mono ?_
  rintro e w' ⟨b, rfl, rfl, hb⟩
  cases b with
  | false =>
    go_wp2
    go_ret
    exact ⟨rfl, Below.refl _ _⟩
  | true =>
  have hsum := hb rfl
  clear hb hln hlp
  go_wp2_with fail
  refine (tooBig_any _ _ _ _ _ _ S _ hN hsum).mono ?_
  rintro e w' ⟨b, rfl, rfl, -⟩
  cases b with
  | true =>
    go_wp2
    go_ret
    exact ⟨rfl, Below.refl _ _⟩
  | false =>
  by_cases hl : ln = lp
  rotate_left
  · have hne : ((ln : Int) != (lp : Int)) = true := by rw [bne_iff_ne]; omega
    go_wp2
    go_ret
    exact ⟨rfl, Below.refl _ _⟩
  subst hl
  go_wp2_with fail
  refine (build_any _ _ _ _ _ _ _ _ _ _ S Z _ hN hP rfl (by omega)).mono ?_
  rintro e w1 ⟨B1, B2, g, cap, Q, rfl, hB, hbel⟩
  have hN1 := hN.below hbel (Nat.le_refl _)
  have hP1 := hP.below hbel (Nat.le_refl _)
  clear hN hP
  have hby : i0.bytes * ln ≤ 281474976710656 := by rw [hz2]; omega
  go_wp2_with (at_make; refine wpList_make_full _ rfl _ _ 23 rfl w1.heap.size 3 i0 (.int .i64 0) 1 Ecqg.underlying23 hi hz0 hz1 .i64 .i64 _ _ ln rfl rfl rfl rfl hby (by unfold maxLen; omega) (Nat.le_refl _) ?_; intro w2 hown2 hgrow2)
  have hmv := Moved.start hown2 hgrow2
  clear hown2 hgrow2 hby
  go_loopw [17] (fun i wr => ∃ k : Nat, k ≤ ln ∧ i = .int .i64 k ∧ Moved w1 wr w1.heap.size ln) (fun i _ => ln - (intOf i).toNat)
  case atStart => exact ⟨0, Nat.zero_le _, rfl, hmv⟩
  case round =>
    obtain ⟨k, hk, rfl, hm⟩ := hrel
    clear hmv
    have hbw := hm.below
    by_cases hlt : k < ln
    · rcases hP1 with h0 | ⟨b', o', rfl, hb', hc'⟩
      · omega
      have hck' : wr.cell? ⟨b', o' + k, none⟩ = some (.int .i64 (Z k)) := (hbw.cell (by exact hb')).trans (hc' k hlt)
      obtain ⟨⟨z0, hcz⟩, hfz⟩ := hm.cell hlt
      have hm1 := hm.set (k := k) (wrap64 (Z k + d))
      clear hm hc' hbw
      go_wp2
      go_roundw
      case rel => exact ⟨k + 1, by omega, by go_num, hm1⟩
      case measure => simp [intOf]; omega
    · obtain rfl : k = ln := by omega
      obtain ⟨Z2, hP2⟩ := hm.ints
      have hN2 := hN1.below hbw (Nat.le_refl _)
      have hB2 := hB.below hbw
      have HB2 : Below w.heap.size w wr := hbel.trans (hbw.mono hbel.size)
      clear hm hB hbel hbw hN1 hP1
      by_cases h0 : k = 0
      · subst h0
        go_wp2_with fail
        refine (build_any _ _ _ _ _ _ _ _ _ _ S Z2 _ hN2 hP2 rfl (by omega)).mono ?_
        rintro e w4 ⟨D1, D2, g', cap', Q', rfl, hD, hb4⟩
        have hB4 := hB2.below hb4
        have HB4 : Below w.heap.size w w4 := HB2.trans (hb4.mono HB2.size)
        clear hB2 HB2 hb4 hN2 hP2
        have t4 := typeStr_any _ _ _ _ _ _ _ _ _ _ _ _ hB4 (by omega)
        rw [typeText_zero] at t4
        have T4 := Hid.intro t4
        clear t4
        go_wp2_with fail
        refine T4.out.mono ?_
        rintro e w5 ⟨rfl, hb5⟩
        have hD5 := hD.below hb5
        have HB5 : Below w.heap.size w w5 := HB4.trans (hb5.mono HB4.size)
        clear hB4 hD HB4 hb5 T4
        have t5 := typeStr_any _ _ _ _ _ _ _ _ _ _ _ _ hD5 (by omega)
        rw [typeText_zero] at t5
        have T5 := Hid.intro t5
        clear t5
        go_wp2_with fail
        refine T5.out.mono ?_
        rintro e w6 ⟨rfl, hb6⟩
        have HB6 : Below w.heap.size w w6 := HB5.trans (hb6.mono HB5.size)
        clear hD5 HB5 hb6 T5
        go_wp2
        go_ret
        exact ⟨rfl, HB6⟩
      · have hk0 : ((k : Int) == 0) = false := beq_eq_false_iff_ne.2 (by omega)
        go_wp2_with fail
        refine (build_any _ _ _ _ _ _ _ _ _ _ S Z2 _ hN2 hP2 rfl (by omega)).mono ?_
        rintro e w4 ⟨D1, D2, g', cap', Q', rfl, hD, hb4⟩
        have hB4 := hB2.below hb4
        have HB4 : Below w.heap.size w w4 := HB2.trans (hb4.mono HB2.size)
        clear hB2 HB2 hb4 hN2 hP2
        go_wp2_with fail
        refine (typeStr_any _ _ _ _ _ _ _ _ _ _ _ _ hB4 (by omega)).mono ?_
        rintro e w5 ⟨rfl, hb5⟩
        have hD5 := hD.below hb5
        have HB5 : Below w.heap.size w w5 := HB4.trans (hb5.mono HB4.size)
        clear hB4 hD HB4 hb5
        go_wp2_with fail
        refine (typeStr_any _ _ _ _ _ _ _ _ _ _ _ _ hD5 (by omega)).mono ?_
        rintro e w6 ⟨rfl, hb6⟩
        have HB6 : Below w.heap.size w w6 := HB5.trans (hb6.mono HB5.size)
        clear hD5 HB5 hb6
        go_wp2
        go_ret
        exact ⟨rfl, HB6⟩

end Go.Proofs.Yoecqw
