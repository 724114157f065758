import Derived.Test.Qxb6000413aModsRowU
namespace Go.Proofs.Qxb6000413aMods
open Go.ChangeShapes Go.WideShapes Go.ChangeAt Go.RowKit
open Pg

theorem set_list {α : Type} (c : Array α) (len : Nat) (u : α) (h : len < c.size) : (c.toList.take len ++ [u] ++ c.toList.drop (len + 1)).toArray = c.setIfInBounds len u := by
  apply Array.ext'
  simp only [Array.toList_setIfInBounds, List.append_assoc, List.singleton_append]
  rw [List.set_eq_take_append_cons_drop, if_pos (by simpa using h)]

/-- 'append(ids, x)' where there is room: one cell of the row turns. -/
theorem wpList_room (w : World) {ops : Array Oper} {rest : List Oper} {o : Oper} {a : Act} {Q : Exit → Act → World → Prop}
    (hg : o.guard = none) (s x : Operand) (hop : o.op = Op.call { callee := Callee.builtin Builtin.append, args := #[s, x], argTypes := #[40, 40] })
    (T len n : Nat) (c : Array Value) (hb : w.heap[T]? = some (.cells c 46 (0, 0))) (hcs : c.size = n) (hlen : len < n) (hs : a.eval s = .slice (some ⟨T, 0, none⟩) len n)
    (ad : Addr) (u : Value) (hx : a.eval x = .slice (some ad) 1 1) (hu : ∀ j v, [u][j]? = some v → w.cell? (ad.add j) = some v) (h1 : u.oneCell' = true)
    (hK : ∀ w', w'.heap[T]? = some (.cells (c.setIfInBounds len u) 46 (0, 0)) → w.grownBy w' (some T) → wpList Trym.prog ops Q rest (a.put o.dst (.slice (some ⟨T, 0, none⟩) (len + 1) n)) w') :
    wpList Trym.prog ops Q (o :: rest) a w := by
  obtain ⟨i0, hi, hz0, hz1, hz2⟩ := info_parts info46
  refine wpList_plain hg fun K hK' => ?_
  have hrun := run_append_room (P := Trym.prog) w 40 o.type 46 i0 Trym.underlying40 hi T len n c hb ad 1 1 [u] (by rw [hz1]; rfl) hu (by intro v hv; simp at hv; subst hv; exact h1) (by omega) (by rw [hz1]; simp; omega)
  rw [hz1] at hrun
  simp only [Nat.mul_one, List.length_singleton] at hrun
  rw [set_list c len u (by omega)] at hrun
  unfold Oper.wp
  simp [execOp, hop, resolve, invoke, builtin, hs, hx, hrun, Result.andThen]
  exact hK' _ _ (hK _ (setRow_heap w T c _ 46 _ hb) ⟨rfl, rfl, rfl, by simp, fun k _ hk => setRow_other w T k _ (fun e => hk (by rw [e]))⟩)

/-- What holds of the world behind k rounds of 'newFreePages'. -/
structure Inv (w wr : World) (n m k T H : Nat) (F G : Nat → Int) (vh : Value) (c : Array Value) : Prop where
  hT : wr.heap[T]? = some (.cells c 46 (0, 0))
  hcs : c.size = n
  hids : ∀ i, i < (idsL F G m k).length → c[i]? = some (.int .u64 (atL (idsL F G m k) i))
  hrest : ∀ i, k ≤ i → i < n → c[i]? = some (.int .u64 (F i))
  hF : wr.heap[w.heap.size + 1]? = some (.cells #[.slice (some ⟨T, 0, none⟩) (idsL F G m k).length n, vh] 42 (0, 0))
  hR : wr.heap[w.heap.size]? = some (.cells #[.slice none 0 0, .slice none 0 0] 42 (0, 0))
  hown : wr.ownsRow (w.heap.size + 2) 46 1 vh (heldL F G m k).length ((heldL F G m k).map (.int .u64))
  hH : ∀ j, j < m → wr.cell? ⟨H, j, none⟩ = some (.int .u64 (G j))
  hg : w.grownBy wr (some T)
  hTl : T < w.heap.size
  hHl : H < w.heap.size
  hTH : T ≠ H
  hsz : w.heap.size + 2 ≤ wr.heap.size

theorem own_far {wr : World} {B : Nat} {vh : Value} {n : Nat} {xs : List Value} (h : wr.ownsRow B 46 1 vh n xs) {b : Nat} (hb : b < B) : some b ≠ vh.ownBlock := by
  intro e
  have := (h.lt b e.symm).1
  omega
theorem own_far' {wr : World} {B : Nat} {vh : Value} {n : Nat} {xs : List Value} (h : wr.ownsRow B 46 1 vh n xs) {b : Nat} (hb : b < B) : vh.ownBlock = none ∨ vh.ownBlock ≠ some b :=
  .inr fun e => by have := (h.lt b e).1; omega

theorem inv_yes {w wr w1 : World} {n m k T H : Nat} {F G : Nat → Int} {vh v' : Value} {c : Array Value} (I : Inv w wr n m k T H F G vh c) (hm : memB G (F k) m = true)
    (ho : w1.ownsRow (w.heap.size + 2) 46 1 v' ((heldL F G m k).length + 1) ((heldL F G m k).map (.int .u64) ++ [.int .u64 (F k)]))
    (hgw : (wr.alloc (.cells #[.int .u64 (F k)] 46)).grownBy w1 vh.ownBlock) : Inv w (w1.setCell ⟨w.heap.size + 1, 1, none⟩ v') n m (k + 1) T H F G v' c := by
  have blk : ∀ b, b < w.heap.size + 2 → w1.heap[b]? = wr.heap[b]? := fun b hb => by
    have hs := I.hsz
    rw [hgw.block b (by simp; omega) (own_far I.hown hb), Below.heap_alloc _ _ _ (by omega)]
  have blk2 : ∀ b, b < w.heap.size + 2 → b ≠ w.heap.size + 1 → (w1.setCell ⟨w.heap.size + 1, 1, none⟩ v').heap[b]? = wr.heap[b]? := fun b hb hne => by
    rw [heap_setCell_other _ _ _ _ hne, blk b hb]
  have hTl := I.hTl
  have hHl := I.hHl
  refine ⟨?_, I.hcs, ?_, fun i h1 h2 => I.hrest i (by omega) h2, ?_, ?_, ?_, ?_, ?_, hTl, hHl, I.hTH, ?_⟩
  · rw [blk2 T (by omega) (by omega)]; exact I.hT
  · rw [ids_yes hm]; exact I.hids
  · rw [ids_yes hm]
    exact heap_setCell_same w1 _ 1 _ 42 v' ((blk _ (by omega)).trans I.hF)
  · rw [blk2 _ (by omega) (by omega)]; exact I.hR
  · rw [held_yes hm, List.length_append, List.map_append]
    exact ownsRow_setCell_below ho (by show w.heap.size + 1 < _; omega) _
  · intro j hj
    rw [World.cell?_of_block (w := wr) (blk2 H (by omega) (by omega))]
    exact I.hH j hj
  · have hs := hgw.size
    simp at hs
    refine ⟨hgw.os.trans I.hg.os, hgw.tape.trans I.hg.tape, hgw.output.trans I.hg.output, ?_, fun b hb hne => ?_⟩
    · have := I.hsz; show w.heap.size ≤ (w1.setCell _ _).heap.size; simp only [World.setCell, Array.size_modify]; omega
    · rw [blk2 b (by omega) (by omega)]; exact I.hg.block b hb hne
  · have hs := hgw.size
    simp at hs
    have := I.hsz; show _ ≤ (w1.setCell _ _).heap.size; simp only [World.setCell, Array.size_modify]; omega

theorem inv_no {w wr w1 : World} {n m k T H : Nat} {F G : Nat → Int} {vh : Value} {c : Array Value} (I : Inv w wr n m k T H F G vh c) (hk : k < n) (hm : memB G (F k) m = false)
    (hT1 : w1.heap[T]? = some (.cells (c.setIfInBounds (idsL F G m k).length (.int .u64 (F k))) 46 (0, 0)))
    (hgw : (wr.alloc (.cells #[.int .u64 (F k)] 46)).grownBy w1 (some T)) :
    Inv w (w1.setCell ⟨w.heap.size + 1, 0, none⟩ (.slice (some ⟨T, 0, none⟩) ((idsL F G m k).length + 1) n)) n m (k + 1) T H F G vh (c.setIfInBounds (idsL F G m k).length (.int .u64 (F k))) := by
  have hl := ids_len F G m k
  have hTl := I.hTl
  have hHl := I.hHl
  have blk : ∀ b, b < w.heap.size + 2 → b ≠ T → w1.heap[b]? = wr.heap[b]? := fun b hb hne => by
    have hs := I.hsz
    rw [hgw.block b (by simp; omega) (by simpa using hne), Below.heap_alloc _ _ _ (by omega)]
  have blk2 : ∀ b, b < w.heap.size + 2 → b ≠ T → b ≠ w.heap.size + 1 → (w1.setCell ⟨w.heap.size + 1, 0, none⟩ (.slice (some ⟨T, 0, none⟩) ((idsL F G m k).length + 1) n)).heap[b]? = wr.heap[b]? := fun b hb h1 hne => by
    rw [heap_setCell_other _ _ _ _ hne, blk b hb h1]
  refine ⟨?_, by simp [I.hcs], ?_, ?_, ?_, ?_, ?_, ?_, ?_, hTl, hHl, I.hTH, ?_⟩
  · rw [heap_setCell_other _ _ _ _ (by show T ≠ w.heap.size + 1; omega)]; exact hT1
  · intro i hi
    rw [ids_no hm] at hi ⊢
    simp at hi
    rw [Array.getElem?_setIfInBounds]
    by_cases e : (idsL F G m k).length = i
    · subst e; rw [if_pos rfl, if_pos (by rw [I.hcs]; omega), atL_last]
    · rw [if_neg e, atL_left (by omega)]; exact I.hids i (by omega)
  · intro i h1 h2
    rw [Array.getElem?_setIfInBounds, if_neg (by omega)]
    exact I.hrest i (by omega) h2
  · rw [ids_no hm, List.length_append]
    exact heap_setCell_same w1 _ 0 _ 42 _ ((blk _ (by omega) (by omega)).trans I.hF)
  · rw [blk2 _ (by omega) (by omega) (by omega)]; exact I.hR
  · rw [held_no hm]
    exact ownsRow_setCell_below ((I.hown.alloc _).kept hgw (own_far' I.hown (by omega))) (by show w.heap.size + 1 < _; omega) _
  · intro j hj
    rw [World.cell?_of_block (w := wr) (blk2 H (by omega) (by have := I.hTH; omega) (by omega))]
    exact I.hH j hj
  · have hs := hgw.size
    simp at hs
    refine ⟨hgw.os.trans I.hg.os, hgw.tape.trans I.hg.tape, hgw.output.trans I.hg.output, ?_, fun b hb hne => ?_⟩
    · have := I.hsz; show w.heap.size ≤ (w1.setCell _ _).heap.size; simp only [World.setCell, Array.size_modify]; omega
    · rw [blk2 b (by omega) (by simpa using hne) (by omega)]; exact I.hg.block b hb hne
  · have hs := hgw.size
    simp at hs
    have := I.hsz; show _ ≤ (w1.setCell _ _).heap.size; simp only [World.setCell, Array.size_modify]; omega
end Go.Proofs.Qxb6000413aMods
