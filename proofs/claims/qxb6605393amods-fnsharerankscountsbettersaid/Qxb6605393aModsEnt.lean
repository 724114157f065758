import Derived.Test.Qxb6605393aModsSize
import Derived.BigRegion
namespace Go.Proofs.Qxb6605393aMods
open Go.ChangeShapes Go.WideShapes Go.ChangeAt Go.RowKit

/-! ### the new row of entries, as one block -/
def Blk (w : World) (T : Nat) (c : Array Value) : Prop := w.heap[T]? = some (.cells c 30 (0, 0))
/-- The first k of n entries. -/
def Ent (c : Array Value) (n k : Nat) (rk : Nat → Int) (mb : Nat → ByteArray) (sc sr : Nat → Int) : Prop :=
  c.size = n * 4 ∧ ∀ i, i < k → c[i * 4]? = some (.int .i64 (rk i)) ∧ c[i * 4 + 1]? = some (.string (mb i)) ∧ c[i * 4 + 2]? = some (.int .i64 (sc i)) ∧ c[i * 4 + 3]? = some (.int .i64 (sr i))

theorem ent_put {c : Array Value} {n k : Nat} {rk : Nat → Int} {mb : Nat → ByteArray} {sc sr : Nat → Int} (h : Ent c n k rk mb sc sr) (hk : k < n) :
    Ent ((((c.setIfInBounds (k * 4) (.int .i64 (rk k))).setIfInBounds (k * 4 + 1) (.string (mb k))).setIfInBounds (k * 4 + 2) (.int .i64 (sc k))).setIfInBounds (k * 4 + 3) (.int .i64 (sr k))) n (k + 1) rk mb sc sr := by
  obtain ⟨hs, h⟩ := h
  refine ⟨by simp [hs], fun i hi => ?_⟩
  by_cases e : i = k
  · subst e
    refine ⟨?_, ?_, ?_, ?_⟩
    · rw [Array.getElem?_setIfInBounds, if_neg (by omega), Array.getElem?_setIfInBounds, if_neg (by omega), Array.getElem?_setIfInBounds, if_neg (by omega), Array.getElem?_setIfInBounds, if_pos rfl, if_pos (by omega)]
    · rw [Array.getElem?_setIfInBounds, if_neg (by omega), Array.getElem?_setIfInBounds, if_neg (by omega), Array.getElem?_setIfInBounds, if_pos rfl, if_pos (by simp; omega)]
    · rw [Array.getElem?_setIfInBounds, if_neg (by omega), Array.getElem?_setIfInBounds, if_pos rfl, if_pos (by simp; omega)]
    · rw [Array.getElem?_setIfInBounds, if_pos rfl, if_pos (by simp; omega)]
  · obtain ⟨h0, h1, h2, h3⟩ := h i (by omega)
    refine ⟨?_, ?_, ?_, ?_⟩
    all_goals
      rw [Array.getElem?_setIfInBounds, if_neg (by omega), Array.getElem?_setIfInBounds, if_neg (by omega), Array.getElem?_setIfInBounds, if_neg (by omega), Array.getElem?_setIfInBounds, if_neg (by omega)]
      assumption

theorem blk_put {w : World} {T : Nat} {c : Array Value} (h : Blk w T c) (j : Nat) (v : Value) : Blk (w.setCell ⟨T, j, none⟩ v) T (c.setIfInBounds j v) := heap_setCell_same w T j c 30 v h
theorem blk_cell {w : World} {T : Nat} {c : Array Value} (h : Blk w T c) {j : Nat} {v : Value} (hv : c[j]? = some v) : w.cell? ⟨T, j, none⟩ = some v := by rw [cell_of_row w T j c 30 (0, 0) h, hv]
theorem blk_free {w : World} {T : Nat} {c : Array Value} (h : Blk w T c) (j : Nat) : w.frozen? ⟨T, j, none⟩ = false := frozen_of_row w T j c 30 h

theorem info30 : (Trym.prog.info? 30).map (fun i => (i.zero, i.size, i.bytes)) = some (some (.agg #[.int .i64 0, .string ⟨#[]⟩, .int .i64 0, .int .i64 0]), 4, 40) := by kernel_rfl

def zero30 (n : Nat) : Array Value := madeCells (Value.agg #[.int .i64 0, .string ⟨#[]⟩, .int .i64 0, .int .i64 0]).cells (n * 4)
theorem zero30_size (n : Nat) : (zero30 n).size = n * 4 := size_madeCells _ _

theorem run_make30 (n : Nat) (h : n ≤ 26214) (w : World) :
    (Instr.makeSlice 25 (.int .i64 (n : Int)) (.int .i64 (n : Int))).run Trym.prog w = .ok (.slice (some ⟨w.heap.size, 0, none⟩) n n) (w.alloc (.cells (zero30 n) 30)) := by
  obtain ⟨i, hi, hz, hs, hb⟩ := info_parts info30
  have hr := run_make (P := Trym.prog) w 25 30 i _ Trym.underlying25 hi hz .i64 .i64 n n (by omega) (Int.le_refl _) (by rw [hb]; omega) (by omega)
  rw [hs] at hr
  simp only [Int.toNat_natCast] at hr
  exact hr

/-- A new row of entries that reads as the old one. -/
def Made (w w' : World) (n : Nat) (rk : Nat → Int) (mb : Nat → ByteArray) (sc sr : Nat → Int) : Prop := ∃ c, Blk w' w.heap.size c ∧ Ent c n n rk mb sc sr

set_option maxRecDepth 100000 in
set_option maxHeartbeats 1000000 in
theorem toEnt (ao : Option Addr) (len cap : Nat) (rk : Nat → Int) (mb : Nat → ByteArray) (sc sr : Nat → Int) (w : World) (hm : len ≤ 26214) (hc : Row4 w ao len rk mb sc sr) :
    Calls Trym.prog 8 #[.slice ao len cap] w fun e w' => e = .returned (.slice (some ⟨w.heap.size, 0, none⟩) len len) ∧ Made w w' len rk mb sc sr ∧ Below w.heap.size w w' := by
  have hmk := run_make30 len hm
  go_enter Trym.func8, Trym.ntmps8
  go_wp2
  clear hmk
  go_loopw [4] (fun s4 wr => ∃ (k : Nat) (c : Array Value), k ≤ len ∧ s4 = .int .i64 k ∧ Hid (Blk wr w.heap.size c) ∧ Hid (Ent c len k rk mb sc sr) ∧ Hid (Below w.heap.size w wr)) (fun s4 _ => len - (intOf s4).toNat)
  case atStart => exact ⟨0, _, by omega, rfl, heap_alloc_new _ _, ⟨zero30_size _, fun i hi => absurd hi (by omega)⟩, (Below.refl _ _).alloc (Nat.le_refl _) _⟩
  case round =>
    obtain ⟨k, c, hk, rfl, HB, HE, HW⟩ := hrel
    by_cases hlt : k < len
    · obtain ⟨b, off, rfl, hcc⟩ := hc (by omega)
      obtain ⟨r1, r2, r3, r4⟩ := hcc k hlt
      have hb := World.block_lt_of_cell? _ _ r1
      have hcs := HE.out.1
      have q1 := cell_later HW.out r1
      have q2 := cell_later HW.out r2
      have q3 := cell_later HW.out r3
      have q4 := cell_later HW.out r4
      have u0 := blk_cell HB.out (Array.getElem?_eq_getElem (show k * 4 < c.size by omega))
      have u1 := blk_cell HB.out (Array.getElem?_eq_getElem (show k * 4 + 1 < c.size by omega))
      have u2 := blk_cell HB.out (Array.getElem?_eq_getElem (show k * 4 + 2 < c.size by omega))
      have u3 := blk_cell HB.out (Array.getElem?_eq_getElem (show k * 4 + 3 < c.size by omega))
      generalize c[k * 4] = x0 at u0
      generalize c[k * 4 + 1] = x1 at u1
      generalize c[k * 4 + 2] = x2 at u2
      generalize c[k * 4 + 3] = x3 at u3
      have f0 := blk_free HB.out (k * 4)
      have f1 := blk_free HB.out (k * 4 + 1)
      have f2 := blk_free HB.out (k * 4 + 2)
      have f3 := blk_free HB.out (k * 4 + 3)
      clear hcc hc hcs r1 r2 r3 r4
      go_wp2
      go_region
      go_wp2
      go_roundw
      case rel =>
        refine ⟨k + 1, _, by omega, by go_num, blk_put (blk_put (blk_put (blk_put (c := c) ?_ _ _) _ _) _ _) _ _, ent_put HE.out hlt, ?_⟩
        · exact HB.out
        · exact (((HW.out.drew.setCell (Nat.le_refl _) _).setCell (Nat.le_refl _) _).setCell (Nat.le_refl _) _).setCell (Nat.le_refl _) _
      case measure => simp [intOf]; omega
    · obtain rfl : k = len := by omega
      go_wp2
      go_ret
      exact ⟨rfl, ⟨c, HB.out, HE.out⟩, HW.out⟩
end Go.Proofs.Qxb6605393aMods
