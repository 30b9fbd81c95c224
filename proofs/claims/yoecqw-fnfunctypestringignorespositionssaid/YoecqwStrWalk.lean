/-
  YoecqwStrWalk: the walks of (*Ident).String (17), (*IdentList).String (15), (*FuncType).String (8).
-/
import Derived.Test.YoecqwStrParts
import Derived.Test.YoecqwBuild
import Derived.Test.YoecqwShelf
namespace Go.Proofs.Yoecqw
open Go.RowKit

theorem Ecqg.info9 : (Ecqg.prog.info? 9).map (fun i => (i.zero, i.size, i.bytes)) = some (some (.string ByteArray.empty), 1, 16) := by kernel_rfl

theorem identStr_any (q : Nat) (s : ByteArray) (w : World) (h : w.cell? ⟨q, 0, none⟩ = some (.string s)) :
    Calls Ecqg.prog 17 #[.pointer (some ⟨q, 0, none⟩)] w fun e w' => e = .returned (.string s) ∧ w = w' := by
  go_enter Ecqg.func17, Ecqg.ntmps17
  go_wp2
  go_ret
  exact ⟨rfl, rfl⟩

def IsStr (s : ByteArray) (w : World) (e : Ending) (w' : World) : Prop := e = .returned (.string s) ∧ Below w.heap.size w w'

/-- One append of the loop: what the relation holds behind it. -/
theorem list_step {w wr w3 : World} {v' : Value} {ao : Option Addr} {cv k : Nat} {o : Obj} {va : Bool} {n : Nat} {S : Nat → ByteArray} {x : ByteArray}
    (hown : wr.ownsRow w.heap.size 9 1 (.slice ao k cv) k ((pieces va n S k).map Value.string))
    (hown' : w3.ownsRow w.heap.size 9 1 v' (k + 1) ((pieces va n S k).map Value.string ++ [.string x]))
    (hgrow : (wr.alloc o).grownBy w3 (Value.slice ao k cv).ownBlock) (hnx : Below w.heap.size w wr) (hx : x = piece va n S k) :
    ∃ ao' cv', v' = .slice ao' (k + 1) cv' ∧ w3.ownsRow w.heap.size 9 1 v' (k + 1) ((pieces va n S (k + 1)).map Value.string) ∧ Below w.heap.size w w3 := by
  subst hx
  obtain ⟨g3, cap3, hv3⟩ : ∃ g3 cap3, v' = .slice (some ⟨g3, 0, none⟩) (k + 1) cap3 := by
    rcases hown'.2 with ⟨_, h⟩ | ⟨g3, cap3, _, h, _⟩
    · omega
    · exact ⟨g3, cap3, h⟩
  refine ⟨_, _, hv3, ?_, (hnx.alloc hnx.size _).grown hgrow (by have := hnx.size; simp; omega) (fun q hq => (hown.lt q hq).1)⟩
  rw [pieces_succ, List.map_append]
  exact hown'

/-- strings.Join of the pieces, whatever slice owns them: off the shelf. -/
theorem join_own {wr : World} {base : Nat} {ao : Option Addr} {cv n : Nat} {va : Bool} {S : Nat → ByteArray} (hown : wr.ownsRow base 9 1 (.slice ao n cv) n ((pieces va n S n).map Value.string)) (hsum : n + sumTo S n ≤ 1048576) :
    Calls Ecqg.prog 18 #[.slice ao n cv, .string ⟨#[44, 32]⟩] wr fun e w' => ∃ j : ByteArray, e = .returned (.string j) ∧ j = ⟨(inner va n S).toArray⟩ ∧ j.size ≤ 6291456 ∧ Below wr.heap.size wr w' := by
  have hin := inner_le va n S
  have hsz : (⟨(inner va n S).toArray⟩ : ByteArray).size ≤ 6291456 := by
    show (inner va n S).toArray.size ≤ 6291456
    rw [List.size_toArray]
    omega
  rcases hown.2 with ⟨_, h0⟩ | ⟨g, cap, cur, hv, _, hg, hcap, _⟩
  · subst h0
    exact (Ecqg.strings_Join_none ao cv _ wr).mono fun e w' ⟨he, hw⟩ => ⟨_, he, rfl, hsz, hw ▸ Below.refl _ _⟩
  · simp only [Value.slice.injEq, true_and] at hv
    obtain ⟨rfl, rfl⟩ := hv
    have hl := pieces_length va n S n
    have hj := Ecqg.strings_Join g 0 cv (pieces va n S n) ⟨#[44, 32]⟩ wr ?_ (Array.getElem?_eq_some_iff.1 hg).1 (by omega) (by omega) (by show (inner va n S).length ≤ _; omega)
    · rw [hl] at hj
      exact hj.mono fun e w' ⟨he, hw⟩ => ⟨_, he, rfl, hsz, hw⟩
    · intro j x hx
      have hjn : j < n := by have := (List.getElem?_eq_some_iff.1 hx).1; omega
      rw [Nat.zero_add, hown.cellAt j (by omega), List.getElem?_map, hx]
      rfl

/-- The parameter list's text, its parentheses with it. -/
def listText (va : Bool) (n : Nat) (S : Nat → ByteArray) : ByteArray := ⟨#[40]⟩ ++ ⟨(inner va n S).toArray⟩ ++ ⟨#[41]⟩

set_option maxRecDepth 100000 in
set_option maxHeartbeats 800000 in
theorem listStr_any (B1 B2 g cap : Nat) (Q : Nat → Nat) (p1 p2 p3 : Int) (va : Bool) (n : Nat) (S : Nat → ByteArray) (w : World)
    (hB : BuiltAt w B1 B2 g cap Q p1 p2 p3 va n S) (hsum : n + sumTo S n ≤ 1048576) :
    Calls Ecqg.prog 15 #[.pointer (some ⟨B2, 0, none⟩)] w (IsStr (listText va n S) w) := by
  obtain ⟨i0, hi, hz0, hz1, hz2⟩ := info_parts Ecqg.info9
  have c1 := hB.varArgs
  have c2 := hB.list
  have l2 := hB.lt2
  have lg := hB.ltg
  have HE : Hid (∀ j, j < n → Q j < w.heap.size ∧ w.cell? ⟨g, j, none⟩ = some (.pointer (some ⟨Q j, 0, none⟩)) ∧ w.cell? ⟨Q j, 0, none⟩ = some (.string (S j))) := hB.each
  clear hB
  go_enter Ecqg.func15, Ecqg.ntmps15
  go_wp2_with fail
  go_loopw [3, 11] (fun v i wr => ∃ (k : Nat) (ao : Option Addr) (cv : Nat), k ≤ n ∧ i = .int .i64 k ∧ v = .slice ao k cv ∧ wr.ownsRow w.heap.size 9 1 v k ((pieces va n S k).map Value.string) ∧ Below w.heap.size w wr)
    (fun _ i _ => n - (intOf i).toNat)
  case atStart => exact ⟨0, none, 0, Nat.zero_le _, rfl, rfl, World.ownsRow_nil _ _ _ _, Below.refl _ _⟩
  case round =>
    obtain ⟨k, ao, cv, hk, rfl, rfl, hown, hnx⟩ := hrel
    have hsize := hnx.size
    by_cases hlt : k < n
    · obtain ⟨e1, e2, e3⟩ := HE.out k hlt
      have d1 : wr.cell? ⟨B2, 1, none⟩ = some (.bool va) := (hnx.cell (by exact l2)).trans c1
      have d2 : wr.cell? ⟨B2, 2, none⟩ = some (.slice (some ⟨g, 0, none⟩) n cap) := (hnx.cell (by exact l2)).trans c2
      have d3 : wr.cell? ⟨g, k, none⟩ = some (.pointer (some ⟨Q k, 0, none⟩)) := (hnx.cell (by exact lg)).trans e2
      have d4 : wr.cell? ⟨Q k, 0, none⟩ = some (.string (S k)) := (hnx.cell (by exact e1)).trans e3
      have hs1 := size_le_sum S hlt
      clear c1 c2 e2 e3
      by_cases hlast : va = true ∧ k + 1 = n
      · obtain ⟨rfl, hkn⟩ := hlast
        have ht : ((k : Int) == (n : Int) - 1) = true := beq_iff_eq.2 (by omega)
        have HK : Hid (k + 1 = n) := hkn
        clear hkn
        go_wp2_with (first | (go_at_call 17; refine (identStr_any _ _ _ d4).mono ?_; rintro e w' ⟨rfl, rfl⟩) | (at_builtin; refine wpList_append_own _ rfl _ _ 22 rfl w.heap.size 9 i0 (.string ByteArray.empty) 1 16 Ecqg.underlying22 hi hz0 hz1 hz2 rfl (by decide) _ _ _ rfl (hown.alloc _) ⟨wr.heap.size, 0, none⟩ 1 1 [.string ({ data := #[46, 46, 46] } ++ S k)] rfl rfl (cell_one_new _ _ _) (fun x hx => by simp at hx; subst hx; rfl) (by unfold maxLen; omega) (by omega) (by simp; omega) ?_; intro v' w3 hown' hgrow3 hnil3))
        obtain ⟨ao', cv', r1, r2, r3⟩ := list_step hown hown' hgrow3 hnx (piece_last S HK.out).symm
        go_roundw
        case rel => exact ⟨k + 1, ao', cv', by omega, by go_num, r1, r2, r3⟩
        case measure => simp [intOf]; omega
      · have hx : S k = piece va n S k := by
          cases va with
          | false => exact (piece_plain n k S).symm
          | true => exact (piece_mid true S (fun h => hlast ⟨rfl, h⟩)).symm
        have HX : Hid (S k = piece va n S k) := hx
        clear hx
        cases va with
        | false =>
          clear hlast
          go_wp2_with (first | (go_at_call 17; refine (identStr_any _ _ _ d4).mono ?_; rintro e w' ⟨rfl, rfl⟩) | (at_builtin; refine wpList_append_own _ rfl _ _ 22 rfl w.heap.size 9 i0 (.string ByteArray.empty) 1 16 Ecqg.underlying22 hi hz0 hz1 hz2 rfl (by decide) _ _ _ rfl (hown.alloc _) ⟨wr.heap.size, 0, none⟩ 1 1 [.string (S k)] rfl rfl (cell_one_new _ _ _) (fun x hx => by simp at hx; subst hx; rfl) (by unfold maxLen; omega) (by omega) (by simp; omega) ?_; intro v' w3 hown' hgrow3 hnil3))
          obtain ⟨ao', cv', r1, r2, r3⟩ := list_step hown hown' hgrow3 hnx HX.out
          go_roundw
          case rel => exact ⟨k + 1, ao', cv', by omega, by go_num, r1, r2, r3⟩
          case measure => simp [intOf]; omega
        | true =>
          have ht : ((k : Int) == (n : Int) - 1) = false := beq_eq_false_iff_ne.2 (fun h => hlast ⟨rfl, by omega⟩)
          clear hlast
          go_wp2_with (first | (go_at_call 17; refine (identStr_any _ _ _ d4).mono ?_; rintro e w' ⟨rfl, rfl⟩) | (at_builtin; refine wpList_append_own _ rfl _ _ 22 rfl w.heap.size 9 i0 (.string ByteArray.empty) 1 16 Ecqg.underlying22 hi hz0 hz1 hz2 rfl (by decide) _ _ _ rfl (hown.alloc _) ⟨wr.heap.size, 0, none⟩ 1 1 [.string (S k)] rfl rfl (cell_one_new _ _ _) (fun x hx => by simp at hx; subst hx; rfl) (by unfold maxLen; omega) (by omega) (by simp; omega) ?_; intro v' w3 hown' hgrow3 hnil3))
          obtain ⟨ao', cv', r1, r2, r3⟩ := list_step hown hown' hgrow3 hnx HX.out
          go_roundw
          case rel => exact ⟨k + 1, ao', cv', by omega, by go_num, r1, r2, r3⟩
          case measure => simp [intOf]; omega
    · obtain rfl : k = n := by omega
      clear c1 c2 HE
      go_wp2_with fail
      refine (join_own hown hsum).mono ?_
      rintro e w4 ⟨j, rfl, hj, hjs, hb4⟩
      have HJ : Hid (j = ⟨(inner va k S).toArray⟩) := hj
      have HB : Below w.heap.size w w4 := hnx.trans (hb4.mono hsize)
      clear hj hb4 hown hnx
      go_wp2
      go_ret
      exact ⟨by rw [HJ.out]; rfl, HB⟩

theorem listText_size (va : Bool) (n : Nat) (S : Nat → ByteArray) (hsum : n + sumTo S n ≤ 1048576) : (listText va n S).size ≤ 6291458 := by
  have hin := inner_le va n S
  have h1 : (⟨#[40]⟩ : ByteArray).size = 1 := rfl
  have h2 : (⟨#[41]⟩ : ByteArray).size = 1 := rfl
  have h3 : (⟨(inner va n S).toArray⟩ : ByteArray).size = (inner va n S).length := List.size_toArray
  unfold listText
  rw [ByteArray.size_append, ByteArray.size_append, h1, h2, h3]
  omega

/-- The text of the whole function type. -/
def typeText (va : Bool) (n : Nat) (S : Nat → ByteArray) : ByteArray := ⟨#[102, 117, 110, 99]⟩ ++ listText va n S
theorem typeText_zero (va : Bool) (S : Nat → ByteArray) : typeText va 0 S = ⟨#[102, 117, 110, 99, 40, 41]⟩ := rfl

set_option maxHeartbeats 400000 in
theorem typeStr_any (B1 B2 g cap : Nat) (Q : Nat → Nat) (p1 p2 p3 : Int) (va : Bool) (n : Nat) (S : Nat → ByteArray) (w : World)
    (hB : BuiltAt w B1 B2 g cap Q p1 p2 p3 va n S) (hsum : n + sumTo S n ≤ 1048576) :
    Calls Ecqg.prog 8 #[.pointer (some ⟨B1, 0, none⟩)] w (IsStr (typeText va n S) w) := by
  have c1 := hB.params
  have hsz := listText_size va n S hsum
  go_enter Ecqg.func8, Ecqg.ntmps8
  go_wp2_with fail
  refine (listStr_any _ _ _ _ _ _ _ _ _ _ _ _ hB hsum).mono ?_
  rintro e w1 ⟨rfl, hb⟩
  clear hB
  go_wp2
  go_ret
  exact ⟨rfl, hb⟩

end Go.Proofs.Yoecqw
