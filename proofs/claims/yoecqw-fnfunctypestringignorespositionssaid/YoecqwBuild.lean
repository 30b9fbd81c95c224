/-
  YoecqwBuild: the walk of zzBuild (7): what lies in memory behind it.
-/
import Derived.Test.YoecqwSizes
import Derived.Deep.RegionHeld3
import Derived.Deep.AppendLies
import Derived.Deep.DrawnRows
namespace Go.Proofs.Yoecqw
open Go.RowKit

theorem Ecqg.info36 : (Ecqg.prog.info? 36).map (fun i => (i.zero, i.size, i.bytes)) = some (some (.pointer none), 1, 8) := by kernel_rfl

/-- 'append' within the capacity, as one step of a region that draws its order. -/
theorem step_append_fits {P : Program} (w : World) {ops : Array Oper} {o : Oper} {a : Act} {K : Act → World → Prop} {Q : Exit → Act → World → Prop} {E : Prop}
    (hg : o.guard = .none) (s x : Operand) (t : TypeId) (hop : o.op = Op.call { callee := Callee.builtin Builtin.append, args := #[s, x], argTypes := #[t, t] })
    (base : Nat) (e : TypeId) (i : TypeInfo) (size : Nat) (h1 : P.underlying t = some (.slice e)) (h2 : P.info? e = some i) (h4 : i.size = size)
    (g k cap : Nat) (xs : List Value) (hs : a.eval s = .slice (some ⟨g, 0, .none⟩) k cap) (hown : w.ownsRow base e size (.slice (some ⟨g, 0, .none⟩) k cap) k xs)
    (ad : Addr) (m c : Nat) (news : List Value) (hx : a.eval x = .slice (some ad) m c) (hn : news.length = m * size)
    (hc : ∀ j u, news[j]? = some u → w.cell? (ad.add j) = some u) (h1c : ∀ u ∈ news, u.oneCell' = true) (b1 : k + m ≤ cap)
    (hK : ∀ w', w'.ownsRow base e size (.slice (some ⟨g, 0, .none⟩) (k + m) cap) (k + m) (xs ++ news) → w.grownBy w' (some g) → K (a.put o.dst (.slice (some ⟨g, 0, .none⟩) (k + m) cap)) w') :
    if Region.wanted o (yielded ops a.tmps) = true then Oper.wp P o a w K Q else E := by
  have hw : Region.wanted o (yielded ops a.tmps) = true := by simp [Region.wanted, hg]
  rw [if_pos hw]
  obtain ⟨w', hrun, r1, r2⟩ := run_append_fits (P := P) w base t o.type e i size h1 h2 h4 g k cap xs hown ad m c news hn hc h1c b1
  unfold Oper.wp
  simp [execOp, hop, resolve, invoke, builtin, hs, hx, hrun, Result.andThen]
  exact hK _ r1 r2

/-- Behind k rounds of zzBuild's loop: the row at block g owns k pointers; the j-th leads to a block whose first cell is the j-th name; what lay below g is as it was. -/
structure Idents (w wr : World) (g k n : Nat) (S : Nat → ByteArray) (Q : Nat → Nat) : Prop where
  own : wr.ownsRow g 36 1 (.slice (some ⟨g, 0, .none⟩) k n) k ((List.range k).map fun j => Value.pointer (some ⟨Q j, 0, .none⟩))
  each : ∀ j, j < k → g < Q j ∧ Q j < wr.heap.size ∧ wr.cell? ⟨Q j, 0, .none⟩ = some (.string (S j))
  below : Below g w wr
  lt : g < wr.heap.size

theorem Idents.step {w wr W2 w1 : World} {g k n : Nat} {S : Nat → ByteArray} {Q : Nat → Nat} (h : Idents w wr g k n S Q)
    (hb : Below wr.heap.size wr W2) (hsz : wr.heap.size < W2.heap.size) (hcell : W2.cell? ⟨wr.heap.size, 0, .none⟩ = some (.string (S k)))
    (hown : w1.ownsRow g 36 1 (.slice (some ⟨g, 0, .none⟩) (k + 1) n) (k + 1) (((List.range k).map fun j => Value.pointer (some ⟨Q j, 0, .none⟩)) ++ [Value.pointer (some ⟨wr.heap.size, 0, .none⟩)])) (hgrow : W2.grownBy w1 (some g)) :
    Idents w w1 g (k + 1) n S (fun j => if j = k then wr.heap.size else Q j) := by
  have hlt := h.lt
  refine ⟨?_, ?_, ?_, ?_⟩
  · have e : ((List.range (k + 1)).map fun j => Value.pointer (some ⟨if j = k then wr.heap.size else Q j, 0, .none⟩)) = ((List.range k).map fun j => Value.pointer (some ⟨Q j, 0, .none⟩)) ++ [Value.pointer (some ⟨wr.heap.size, 0, .none⟩)] := by
      rw [List.range_succ, List.map_append]
      congr 1
      · refine List.map_congr_left fun j hj => ?_
        rw [if_neg (by have := List.mem_range.1 hj; omega)]
      · simp
    rw [e]
    exact hown
  · intro j hj
    have hs := hgrow.size
    by_cases e : j = k
    · subst e
      rw [if_pos rfl]
      exact ⟨hlt, by omega, (hgrow.cell_far _ hsz (by simp; omega)).trans hcell⟩
    · rw [if_neg e]
      obtain ⟨a1, a2, a3⟩ := h.each j (by omega)
      exact ⟨a1, by omega, (hgrow.cell_far _ (by simp; omega) (by simp; omega)).trans ((hb.cell (by exact a2)).trans a3)⟩
  · have hb' : Below g wr W2 := hb.mono (by omega)
    exact (h.below.trans hb').grown hgrow (by omega) (fun k hk => by simp at hk; omega)
  · have := hgrow.size; omega

theorem two_new (wr : World) (A : Obj) (u : Value) (t : TypeId) : ∀ j v, [u][j]? = some v → ((wr.alloc A).alloc (.cells #[u] t)).drew.cell? ((⟨wr.heap.size + 1, 0, .none⟩ : Addr).add j) = some v := by
  have h : ((wr.alloc A).alloc (.cells #[u] t)).drew.heap[wr.heap.size + 1]? = some (.cells #[u] t (0, 0)) := by
    have e : (wr.alloc A).heap.size = wr.heap.size + 1 := by simp
    rw [← e]
    exact heap_alloc_new (wr.alloc A) (.cells #[u] t)
  exact World.news_of_block h
theorem two_below (wr : World) (A B : Obj) : Below wr.heap.size wr ((wr.alloc A).alloc B).drew := (((Below.refl _ _).alloc (Nat.le_refl _) _).alloc (by simp) _).drew
theorem two_size (wr : World) (A B : Obj) : wr.heap.size < ((wr.alloc A).alloc B).drew.heap.size := by
  show wr.heap.size < ((wr.alloc A).alloc B).heap.size
  simp; omega
theorem two_cell (wr : World) (x y : Value) (t : TypeId) (B : Obj) : ((wr.alloc (.cells #[x, y] t)).alloc B).drew.cell? ⟨wr.heap.size, 0, .none⟩ = some x := by
  have h : ((wr.alloc (.cells #[x, y] t)).alloc B).drew.heap[wr.heap.size]? = some (.cells #[x, y] t (0, 0)) :=
    (Below.heap_alloc (wr.alloc (.cells #[x, y] t)) B wr.heap.size (by simp)).trans (heap_alloc_new wr _)
  exact (cell_of_row _ _ _ _ _ _ h).trans rfl

/-- What zzBuild leaves: the FuncType at block B1, its parameter list at B2, the list's row at g, the identifiers at Q. -/
structure BuiltAt (w : World) (B1 B2 g cap : Nat) (Q : Nat → Nat) (p1 p2 p3 : Int) (va : Bool) (n : Nat) (S : Nat → ByteArray) : Prop where
  lt1 : B1 < w.heap.size
  lt2 : B2 < w.heap.size
  ltg : g < w.heap.size
  fpos : w.cell? ⟨B1, 0, .none⟩ = some (.int .i64 p1)
  params : w.cell? ⟨B1, 1, .none⟩ = some (.pointer (some ⟨B2, 0, .none⟩))
  lparen : w.cell? ⟨B2, 0, .none⟩ = some (.int .i64 p2)
  varArgs : w.cell? ⟨B2, 1, .none⟩ = some (.bool va)
  list : w.cell? ⟨B2, 2, .none⟩ = some (.slice (some ⟨g, 0, .none⟩) n cap)
  rparen : w.cell? ⟨B2, 3, .none⟩ = some (.int .i64 p3)
  each : ∀ j, j < n → Q j < w.heap.size ∧ w.cell? ⟨g, j, .none⟩ = some (.pointer (some ⟨Q j, 0, .none⟩)) ∧ w.cell? ⟨Q j, 0, .none⟩ = some (.string (S j))

theorem BuiltAt.below {w w' : World} {B1 B2 g cap : Nat} {Q : Nat → Nat} {p1 p2 p3 : Int} {va : Bool} {n : Nat} {S : Nat → ByteArray} (h : BuiltAt w B1 B2 g cap Q p1 p2 p3 va n S) (hb : Below w.heap.size w w') :
    BuiltAt w' B1 B2 g cap Q p1 p2 p3 va n S := by
  have hs := hb.size
  have c1 : ∀ o, w'.cell? ⟨B1, o, .none⟩ = w.cell? ⟨B1, o, .none⟩ := fun o => hb.cell (p := ⟨B1, o, .none⟩) h.lt1
  have c2 : ∀ o, w'.cell? ⟨B2, o, .none⟩ = w.cell? ⟨B2, o, .none⟩ := fun o => hb.cell (p := ⟨B2, o, .none⟩) h.lt2
  refine ⟨Nat.lt_of_lt_of_le h.lt1 hs, Nat.lt_of_lt_of_le h.lt2 hs, Nat.lt_of_lt_of_le h.ltg hs, (c1 _).trans h.fpos, (c1 _).trans h.params, (c2 _).trans h.lparen, (c2 _).trans h.varArgs, (c2 _).trans h.list, (c2 _).trans h.rparen, fun j hj => ?_⟩
  obtain ⟨a1, a2, a3⟩ := h.each j hj
  exact ⟨Nat.lt_of_lt_of_le a1 hs, (hb.cell (p := ⟨g, j, .none⟩) h.ltg).trans a2, (hb.cell (p := ⟨Q j, 0, .none⟩) a1).trans a3⟩

/-- The last statement of zzBuild: the two structs are laid behind the loop. -/
theorem Idents.built {w wr : World} {g n : Nat} {S : Nat → ByteArray} {Q : Nat → Nat} (h : Idents w wr g n n S Q) (p1 p2 p3 : Int) (va : Bool) :
    BuiltAt ((wr.alloc (.cells #[.int .i64 p2, .bool va, .slice (some ⟨g, 0, .none⟩) n n, .int .i64 p3] 41)).alloc (.cells #[.int .i64 p1, .pointer (some ⟨wr.heap.size, 0, .none⟩)] 43)) (wr.heap.size + 1) wr.heap.size g n Q p1 p2 p3 va n S ∧
    Below g w ((wr.alloc (.cells #[.int .i64 p2, .bool va, .slice (some ⟨g, 0, .none⟩) n n, .int .i64 p3] 41)).alloc (.cells #[.int .i64 p1, .pointer (some ⟨wr.heap.size, 0, .none⟩)] 43)) := by
  have hlt := h.lt
  have hb : Below wr.heap.size wr ((wr.alloc (.cells #[.int .i64 p2, .bool va, .slice (some ⟨g, 0, .none⟩) n n, .int .i64 p3] 41)).alloc (.cells #[.int .i64 p1, .pointer (some ⟨wr.heap.size, 0, .none⟩)] 43)) :=
    ((Below.refl _ _).alloc (Nat.le_refl _) _).alloc (by simp) _
  have e : (wr.alloc (.cells #[.int .i64 p2, .bool va, .slice (some ⟨g, 0, .none⟩) n n, .int .i64 p3] 41)).heap.size = wr.heap.size + 1 := by simp
  have k1 := heap_alloc_new (wr.alloc (.cells #[.int .i64 p2, .bool va, .slice (some ⟨g, 0, .none⟩) n n, .int .i64 p3] 41)) (.cells #[.int .i64 p1, .pointer (some ⟨wr.heap.size, 0, .none⟩)] 43)
  rw [e] at k1
  have k2 := (Below.heap_alloc (wr.alloc (.cells #[.int .i64 p2, .bool va, .slice (some ⟨g, 0, .none⟩) n n, .int .i64 p3] 41)) (.cells #[.int .i64 p1, .pointer (some ⟨wr.heap.size, 0, .none⟩)] 43) wr.heap.size (by simp)).trans (heap_alloc_new wr _)
  have hz : ((wr.alloc (.cells #[.int .i64 p2, .bool va, .slice (some ⟨g, 0, .none⟩) n n, .int .i64 p3] 41)).alloc (.cells #[.int .i64 p1, .pointer (some ⟨wr.heap.size, 0, .none⟩)] 43)).heap.size = wr.heap.size + 2 := by simp
  refine ⟨⟨by omega, by omega, by omega, (cell_of_row _ _ _ _ _ _ k1).trans rfl, (cell_of_row _ _ _ _ _ _ k1).trans rfl, (cell_of_row _ _ _ _ _ _ k2).trans rfl, (cell_of_row _ _ _ _ _ _ k2).trans rfl, (cell_of_row _ _ _ _ _ _ k2).trans rfl, (cell_of_row _ _ _ _ _ _ k2).trans rfl, fun j hj => ?_⟩, h.below.trans (hb.mono (by omega))⟩
  obtain ⟨a1, a2, a3⟩ := h.each j hj
  refine ⟨by omega, ?_, (hb.cell (p := ⟨Q j, 0, .none⟩) a2).trans a3⟩
  rw [hb.cell (p := ⟨g, j, .none⟩) hlt, h.own.cellAt j (by omega)]
  simp [hj]

/-- The contract's end. -/
def Built (p1 p2 p3 : Int) (va : Bool) (n : Nat) (S : Nat → ByteArray) (w : World) (e : Ending) (w' : World) : Prop :=
  ∃ B1 B2 g cap Q, e = .returned (.pointer (some ⟨B1, 0, .none⟩)) ∧ BuiltAt w' B1 B2 g cap Q p1 p2 p3 va n S ∧ Below w.heap.size w w'

set_option maxRecDepth 100000 in
set_option maxHeartbeats 800000 in
theorem build_any (p1 p2 p3 : Int) (va : Bool) (an : Option Addr) (ln cn : Nat) (ap : Option Addr) (lp cp : Nat) (S : Nat → ByteArray) (Z : Nat → Int) (w : World)
    (hN : NamesAt w an ln S) (hP : IntsAt w ap lp Z) (hl : ln = lp) (hln : ln ≤ 1048576) :
    Calls Ecqg.prog 7 #[.int .i64 p1, .int .i64 p2, .int .i64 p3, .bool va, .slice an ln cn, .slice ap lp cp] w (Built p1 p2 p3 va ln S w) := by
  subst hl
  obtain ⟨i0, hi, hz0, hz1, hz2⟩ := info_parts Ecqg.info36
  have hby : i0.bytes * ln ≤ 281474976710656 := by rw [hz2]; omega
  go_enter Ecqg.func7, Ecqg.ntmps7
  go_wp2_with (at_make; refine wpList_make_own _ rfl _ _ 35 rfl w.heap.size 36 i0 (.pointer .none) 1 Ecqg.underlying35 hi hz0 hz1 .i64 .i64 _ ln rfl rfl rfl hby (by unfold maxLen; omega) (Nat.le_refl _) ?_; intro w0 hown0 hgrow0)
  have hid0 : Idents w w0 w.heap.size 0 ln S (fun _ => 0) := by
    refine ⟨hown0, fun j hj => by omega, (Below.refl _ _).grown hgrow0 (Nat.le_refl _) (fun k hk => by cases hk), ?_⟩
    rcases hown0.2 with ⟨h', _⟩ | ⟨g', cap', cur, h', _, hg, _⟩
    · simp at h'
    · simp only [Value.slice.injEq, Option.some.injEq, Addr.mk.injEq, and_true, true_and] at h'
      obtain ⟨rfl, rfl⟩ := h'
      exact (Array.getElem?_eq_some_iff.1 hg).1
  clear hown0 hgrow0 hby
  go_loopw [13, 14] (fun v i wr => ∃ (k : Nat) (Q : Nat → Nat), k ≤ ln ∧ i = .int .i64 k ∧ v = .slice (some ⟨w.heap.size, 0, .none⟩) k ln ∧ Idents w wr w.heap.size k ln S Q) (fun _ i _ => ln - (intOf i).toNat)
  case atStart => exact ⟨0, _, Nat.zero_le _, rfl, rfl, hid0⟩
  case round =>
    obtain ⟨k, Q, hk, rfl, rfl, hid⟩ := hrel
    clear hid0
    by_cases hlt : k < ln
    · rcases hN with h0 | ⟨b, o, rfl, hb, hc⟩
      · omega
      rcases hP with h0 | ⟨b', o', rfl, hb', hc'⟩
      · omega
      have hck : wr.cell? ⟨b, o + k, .none⟩ = some (.string (S k)) := (hid.below.cell (by exact hb)).trans (hc k hlt)
      have hck' : wr.cell? ⟨b', o' + k, .none⟩ = some (.int .i64 (Z k)) := (hid.below.cell (by exact hb')).trans (hc' k hlt)
      have hsz := hid.below.size
      clear hc hc'
      have i1 : (0 : Int) ≤ (k : Int) := by omega
      have i2 : (k : Int) < (ln : Int) := by omega
      go_wp2_with fail
      go_region_held3 (fun w' => w'.cell? ⟨b, o + k, .none⟩ = some (.string (S k)) ∧ w'.cell? ⟨b', o' + k, .none⟩ = some (.int .i64 (Z k)))
        (first
          | go_keep
          | (go_split_ands
             refine ⟨?_, ?_⟩
             · (rw [hgrow.cell_far _ (by simp; omega) (by simp; omega)]; assumption)
             · (rw [hgrow.cell_far _ (by simp; omega) (by simp; omega)]; assumption)))
        ((refine step_append_fits _ (by rfl) _ _ _ (by rfl) w.heap.size 36 i0 1 Ecqg.underlying35 hi hz1 w.heap.size k ln _ (by rfl) (((hid.own.alloc _).alloc _).drew)
            ⟨wr.heap.size + 1, 0, .none⟩ 1 1 [.pointer (some ⟨wr.heap.size, 0, .none⟩)] (by rfl) (by rfl) (two_new _ _ _ _) (by simp [Value.oneCell'])
            (by omega) ?_; intro w1 hown1 hgrow))
      have hid1 := hid.step (two_below _ _ _) (two_size _ _ _) (two_cell _ _ _ _ _) hown1 hgrow
      clear hid hown1 hgrow hck hck'
      go_wp2
      go_roundw
      case rel => exact ⟨k + 1, _, by omega, by go_num, rfl, hid1⟩
      case measure => simp [intOf]; omega
    · obtain rfl : k = ln := by omega
      obtain ⟨hB, hbel⟩ := hid.built p1 p2 p3 va
      clear hid
      go_wp2
      go_ret
      exact ⟨_, _, _, _, _, rfl, hB, hbel⟩

end Go.Proofs.Yoecqw
