import Derived.Test.Qxb6000413aModsInv
namespace Go.Proofs.Qxb6000413aMods
open Go.ChangeShapes Go.WideShapes Go.ChangeAt Go.RowKit
open Pg

set_option maxRecDepth 100000 in
set_option maxHeartbeats 2000000 in
theorem new_none (a1 a2 : Option Addr) (n c2 : Nat) (w : World) :
    Calls Trym.prog 26 #[.slice a1 n n, .slice a2 0 c2] w fun e w' => e = .returned (.agg #[.slice a1 n n, .slice none 0 0]) ∧ Below w.heap.size w w' := by
  go_enter Trym.func26, Trym.ntmps26
  go_wp2
  exact bodyPost_ret (v := .agg #[.slice a1 n n, .slice none 0 0]) (by simp [results, Trym.results26, go_sem]) rfl ⟨rfl, (Below.refl _ _).alloc (Nat.le_refl _) _⟩

set_option maxRecDepth 100000 in
set_option maxHeartbeats 2000000 in
theorem new_empty (a1 a2 : Option Addr) (m c2 : Nat) (w : World) (hm : 0 < m) (hm2 : m ≤ 1048576) :
    Calls Trym.prog 26 #[.slice a1 0 0, .slice a2 m c2] w fun e w' => e = .returned (.agg #[.slice a1 0 0, .slice none 0 0]) ∧ Below w.heap.size w w' := by
  have hm0 : ((m : Int) == 0) = false := by simp; omega
  cases a1 with
  | none =>
    go_enter Trym.func26, Trym.ntmps26
    go_wp2
    refine wp_loop_rounds 1 ?_
    rw [rounds_succ]
    go_wp2
    exact bodyPost_ret (v := .agg #[.slice none 0 0, .slice none 0 0]) (by simp [results, Trym.results26, go_sem]) rfl ⟨rfl, ((Below.refl _ _).alloc (Nat.le_refl _) _).alloc (by simp) _⟩
  | some a =>
    go_enter Trym.func26, Trym.ntmps26
    go_wp2
    refine wp_loop_rounds 1 ?_
    rw [rounds_succ]
    go_wp2
    exact bodyPost_ret (v := .agg #[.slice (some a) 0 0, .slice none 0 0]) (by simp [results, Trym.results26, go_sem]) rfl ⟨rfl, ((Below.refl _ _).alloc (Nat.le_refl _) _).alloc (by simp) _⟩

def lenOf : Value → Nat | .slice _ n _ => n | _ => 0
theorem slice_eq {a : Option Addr} {n m : Nat} (h : n = m) : Value.slice a n n = .slice a m m := by rw [h]

/-- What 'newFreePages' leaves. -/
def NewDone (w : World) (n m T : Nat) (F G : Nat → Int) (e : Ending) (w' : World) : Prop :=
  ∃ vh, e = .returned (.agg #[.slice (some ⟨T, 0, none⟩) (idsL F G m n).length n, vh]) ∧ RowU w' (some ⟨T, 0, none⟩) (idsL F G m n).length (atL (idsL F G m n)) ∧
    w'.ownsRow (w.heap.size + 2) 46 1 vh (heldL F G m n).length ((heldL F G m n).map (.int .u64)) ∧ w.grownBy w' (some T)
theorem inv_done {w wr : World} {n m T H : Nat} {F G : Nat → Int} {vh : Value} {c : Array Value} (I : Inv w wr n m n T H F G vh c) (x y : Value) :
    NewDone w n m T F G (.returned (.agg #[.slice (some ⟨T, 0, none⟩) (idsL F G m n).length n, vh])) ((wr.setCell ⟨w.heap.size, 0, none⟩ x).setCell ⟨w.heap.size, 1, none⟩ y) := by
  have hTl := I.hTl
  have blk : ∀ b, b ≠ w.heap.size → ((wr.setCell ⟨w.heap.size, 0, none⟩ x).setCell ⟨w.heap.size, 1, none⟩ y).heap[b]? = wr.heap[b]? := fun b hb => by
    rw [heap_setCell_other _ _ _ _ hb, heap_setCell_other _ _ _ _ hb]
  refine ⟨vh, rfl, fun _ => ⟨T, 0, rfl, fun i hi => ?_⟩, ?_, ?_⟩
  · rw [World.cell?_of_block (w := wr) (blk T (by omega)), Nat.zero_add, cell_of_row _ _ _ c 46 (0, 0) I.hT]
    exact I.hids i hi
  · exact ownsRow_setCell_below (ownsRow_setCell_below I.hown (by show w.heap.size < _; omega) _) (by show w.heap.size < _; omega) _
  · refine ⟨I.hg.os, I.hg.tape, I.hg.output, ?_, fun b hb hne => ?_⟩
    · have := I.hsz; simp only [World.setCell, Array.size_modify]; omega
    · rw [blk b (by omega)]; exact I.hg.block b hb hne

theorem fb_yes {w wr w1 : World} {n m k T H : Nat} {F G : Nat → Int} {vh : Value} {c : Array Value} {o : Obj} (I : Inv w wr n m k T H F G vh c) (hgw : (wr.alloc o).grownBy w1 vh.ownBlock) :
    w1.heap[w.heap.size + 1]? = some (.cells #[.slice (some ⟨T, 0, none⟩) (idsL F G m k).length n, vh] 42 (0, 0)) := by
  have hs := I.hsz
  rw [hgw.block _ (by simp; omega) (own_far I.hown (by omega)), Below.heap_alloc _ _ _ (by omega)]
  exact I.hF
theorem fb_no {w wr w1 : World} {n m k T H : Nat} {F G : Nat → Int} {vh : Value} {c : Array Value} {o : Obj} (I : Inv w wr n m k T H F G vh c) (hgw : (wr.alloc o).grownBy w1 (some T)) :
    w1.heap[w.heap.size + 1]? = some (.cells #[.slice (some ⟨T, 0, none⟩) (idsL F G m k).length n, vh] 42 (0, 0)) := by
  have hs := I.hsz
  have hT := I.hTl
  rw [hgw.block _ (by simp; omega) (by simp; omega), Below.heap_alloc _ _ _ (by omega)]
  exact I.hF

theorem own_slice {w : World} {B : Nat} {v : Value} {n : Nat} {xs : List Value} (h : w.ownsRow B 46 1 v n xs) : ∃ ao cap, v = .slice ao n cap := by
  rcases h.2 with ⟨rfl, rfl⟩ | ⟨g, cap, cur, rfl, _⟩
  · exact ⟨none, 0, rfl⟩
  · exact ⟨_, cap, rfl⟩

/-- The held pages that are left: the last d of the row. -/
def Left (H m d : Nat) (hao : Option Addr) : Prop := 0 < d → hao = some ⟨H, m - d, none⟩

set_option maxRecDepth 100000 in
set_option maxHeartbeats 4000000 in
theorem new_some (T H n m : Nat) (c0 : Array Value) (F G : Nat → Int) (w : World) (hn : 0 < n) (hm : 0 < m) (hn2 : n ≤ 1048576) (hm2 : m ≤ 1048576)
    (hT : w.heap[T]? = some (.cells c0 46 (0, 0))) (hcs : c0.size = n) (hc : ∀ i, i < n → c0[i]? = some (.int .u64 (F i)))
    (hH : ∀ j, j < m → w.cell? ⟨H, j, none⟩ = some (.int .u64 (G j))) (hTH : T ≠ H) (hA : Asc F n) (hN : Nond G m) :
    Calls Trym.prog 26 #[.slice (some ⟨T, 0, none⟩) n n, .slice (some ⟨H, 0, none⟩) m m] w fun e w' => NewDone w n m T F G e w' := by
  have hTl : T < w.heap.size := (Array.getElem?_eq_some_iff.1 hT).1
  have hHl : H < w.heap.size := World.block_lt_of_cell? _ _ (hH 0 hm)
  have hm0 : ((m : Int) == 0) = false := by simp; omega
  have I0 : Hid (Inv w ((w.alloc (.cells #[.slice none 0 0, .slice none 0 0] 42)).alloc (.cells #[.slice (some ⟨T, 0, none⟩) 0 n, .slice none 0 0] 42)) n m 0 T H F G (.slice none 0 0) c0) := by
    refine ⟨?_, hcs, fun i hi => absurd hi (by simp [idsL]), fun i _ hi => hc i hi, ?_, ?_, World.ownsRow_nil _ _ _ _, fun j hj => ?_, ?_, hTl, hHl, hTH, by simp⟩
    · rw [Below.heap_alloc _ _ _ (by simp; omega), Below.heap_alloc _ _ _ hTl]; exact hT
    · exact heap_alloc2_new _ _ _
    · exact heap_alloc2_old _ _ _
    · rw [World.cell?_alloc_past _ _ _ (by simp; omega), World.cell?_alloc_past _ _ _ hHl]; exact hH j hj
    · exact (World.grownBy_alloc _ _ _).trans (World.grownBy_alloc _ _ _)
  have HA : Hid (Asc F n) := hA
  have HN : Hid (Nond G m) := hN
  obtain ⟨i0, hi, hz0, hz1, hz2⟩ := info_parts info46
  clear hT hcs hc hH hTH hA hN
  go_enter Trym.func26, Trym.ntmps26
  go_wp2
  go_loopg [1, 18] n (fun g s1 s18 wr => ∃ (k d : Nat) (hao : Option Addr) (vh : Value) (c : Array Value), k ≤ n ∧ g = n - k ∧ s18 = .int .i64 k ∧ s1 = .slice hao d d ∧ d ≤ m ∧ Hid (Left H m d hao) ∧ Hid (∀ j, j < m - d → ∀ i, k ≤ i → i < n → G j < F i) ∧ Hid (Inv w wr n m k T H F G vh c))
  case atStart => exact ⟨0, m, _, _, _, by omega, rfl, rfl, rfl, by omega, fun _ => by rw [Nat.sub_self], fun j hj => absurd hj (by omega), I0⟩
  case round =>
    obtain ⟨k, d, hao, vh, c, hk, rfl, rfl, rfl, hd, HL, HD, I⟩ := hrel
    clear I0
    by_cases hlt : k < n
    · have hck : wr.cell? ⟨T, k, none⟩ = some (.int .u64 (F k)) := by rw [cell_of_row _ _ _ c 46 (0, 0) I.out.hT]; exact I.out.hrest k (Nat.le_refl _) hlt
      go_upto_block 2 with fail
      go_cut [1] from 19 to 56 (fun s1 wx => ∃ (d : Nat) (hao : Option Addr), s1 = .slice hao d d ∧ d ≤ m ∧ Hid (Left H m d hao) ∧ Hid (∀ j, j < m - d → ∀ i, k ≤ i → i < n → G j < F i) ∧ Hid (0 < d → F k ≤ G (m - d)) ∧ wr = wx)
      case first =>
        go_wp2
        go_loop [1] (fun s1 => ∃ (d : Nat) (hao : Option Addr), s1 = .slice hao d d ∧ d ≤ m ∧ Hid (Left H m d hao) ∧ Hid (∀ j, j < m - d → ∀ i, k ≤ i → i < n → G j < F i)) (fun s1 => lenOf s1)
        case atStart => exact ⟨d, hao, rfl, hd, HL, HD⟩
        case round =>
          obtain ⟨d, hao, rfl, hd, HL, HD⟩ := hrel
          rcases Nat.eq_zero_or_pos d with h0 | h0
          · subst h0
            go_wp2
            go_meet
            case rel => exact ⟨0, hao, rfl, by omega, HL, HD, fun h => absurd h (by omega), rfl⟩
          · obtain rfl := HL.out h0
            have hcg := I.out.hH (m - d) (by omega)
            by_cases hx : G (m - d) < F k
            · have HD2 : Hid (∀ j, j < m - (d - 1) → ∀ i, k ≤ i → i < n → G j < F i) := fun j hj i h1 h2 => by
                by_cases e : j = m - d
                · rw [e]
                  by_cases e2 : i = k
                  · rw [e2]; exact hx
                  · exact Int.lt_trans hx (asc_lt HA.out k i (by omega) h2)
                · exact HD.out j (by omega) i h1 h2
              by_cases h1 : d = 1
              · subst h1
                go_wp2
                go_round
                case rel => exact ⟨0, _, rfl, by omega, fun h => absurd h (by omega), HD2⟩
                case measure => simp [lenOf]
              · have h2 : ¬ d = 1 := h1
                go_wp2
                go_round
                case rel =>
                  go_light
                  refine ⟨d - 1, _, rfl, by omega, fun _ => ?_, HD2⟩
                  rw [show m - (d - 1) = m - d + 1 by omega]
                case measure => go_light; simp [lenOf]; omega
            · go_wp2
              go_meet
              case rel => exact ⟨d, _, rfl, hd, fun _ => rfl, HD, fun _ => by omega, rfl⟩
      case rest =>
        obtain ⟨d, hao, rfl, hd, HL, HD, HX, rfl⟩ := hcut
        go_upto_region 9 with fail
        go_cut [43] from 19 to 56 (fun s43 wx => s43 = .bool (memB G (F k) m) ∧ wr = wx)
        case first =>
          have HM : Hid (memB G (F k) m = (decide (m - d < m) && (G (m - d) == F k))) := memB_at HN.out (fun j hj => HD.out j hj k (Nat.le_refl _) hlt) (fun hp => HX.out (by omega))
          rcases Nat.eq_zero_or_pos d with h0 | h0
          · subst h0
            go_wp2
            go_meet
            case rel => go_light; exact ⟨by rw [HM.out]; simp, rfl⟩
          · obtain rfl := HL.out h0
            have hcg := I.out.hH (m - d) (by omega)
            go_wp2
            go_meet
            case rel => go_light; exact ⟨by rw [HM.out]; simp [show m - d < m by omega], rfl⟩
        case rest =>
          obtain ⟨rfl, rfl⟩ := hcut
          clear hck
          have hF0 : wr.cell? ⟨w.heap.size + 1, 0, none⟩ = some (.slice (some ⟨T, 0, none⟩) (idsL F G m k).length n) := cell_of_row wr _ 0 _ 42 (0, 0) I.out.hF
          have hF1 : wr.cell? ⟨w.heap.size + 1, 1, none⟩ = some vh := cell_of_row wr _ 1 _ 42 (0, 0) I.out.hF
          have hFl := World.block_lt_of_cell? _ _ hF0
          have HDn : Hid (∀ j, j < m - d → ∀ i, k + 1 ≤ i → i < n → G j < F i) := fun j hj i h1 h2 => HD.out j hj i (by omega) h2
          have hhl := held_len F G m k
          have hil := ids_len F G m k
          clear HD HX
          cases hmem : memB G (F k) m
          · have hTa : (wr.alloc (.cells #[.int .u64 (F k)] 46)).heap[T]? = some (.cells c 46 (0, 0)) := by
              have := I.out.hsz
              rw [Below.heap_alloc _ _ _ (by omega)]; exact I.out.hT
            go_wp2_with (at_builtin; refine wpList_room _ rfl (.tmp 51) (.tmp 53) rfl T (idsL F G m k).length n c hTa I.out.hcs (by omega) rfl ⟨wr.heap.size, 0, none⟩ (.int .u64 (F k)) rfl (cell_one_new _ _ _) rfl ?_)
            intro w1 hT1 hgw
            have IN : Hid (Inv w (w1.setCell ⟨w.heap.size + 1, 0, none⟩ (.slice (some ⟨T, 0, none⟩) ((idsL F G m k).length + 1) n)) n m (k + 1) T H F G vh (c.setIfInBounds (idsL F G m k).length (.int .u64 (F k)))) := inv_no I.out hlt hmem hT1 hgw
            have hb1 := fb_no I.out hgw
            have hx1 : w1.cell? ⟨w.heap.size + 1, 0, none⟩ = some (.slice (some ⟨T, 0, none⟩) (idsL F G m k).length n) := cell_of_row w1 _ 0 _ 42 (0, 0) hb1
            have hx2 := frozen_of_row w1 _ 0 _ 42 hb1
            clear hT1 hgw hb1 hF0 hF1 hFl I hmem hTa
            go_wp2
            go_roundg (n - (k + 1))
            case measure => go_light; omega
            case rel => go_light; exact ⟨k + 1, d, hao, _, _, by omega, rfl, by go_num, rfl, hd, HL, HDn, IN⟩
          · go_wp2_with (at_builtin; refine wpList_append_own _ rfl (.tmp 45) (.tmp 47) 40 rfl (w.heap.size + 2) 46 i0 (.int .u64 0) 1 8 Trym.underlying40 hi hz0 hz1 hz2 rfl (by decide) _ _ _ rfl (I.out.hown.alloc _) ⟨wr.heap.size, 0, none⟩ 1 1 [.int .u64 (F k)] rfl rfl ?c1 ?c2 ?c3 ?c4 ?c5 ?_)
            case c2 => first | rfl | (intro u hu; simp at hu; subst hu; rfl)
            case c3 => unfold maxLen; omega
            case c4 => omega
            case c5 => have := I.out.hsz; omega
            intro v' w1 ho hgw _
            obtain ⟨vo, vc, rfl⟩ := own_slice ho
            have IN : Hid (Inv w (w1.setCell ⟨w.heap.size + 1, 1, none⟩ (.slice vo ((heldL F G m k).length + 1) vc)) n m (k + 1) T H F G (.slice vo ((heldL F G m k).length + 1) vc) c) := inv_yes I.out hmem ho hgw
            have hb1 := fb_yes I.out hgw
            have hx1 : w1.cell? ⟨w.heap.size + 1, 1, none⟩ = some vh := cell_of_row w1 _ 1 _ 42 (0, 0) hb1
            have hx2 := frozen_of_row w1 _ 1 _ 42 hb1
            clear ho hgw hb1 hF0 hF1 hFl I hmem
            go_wp2
            go_roundg (n - (k + 1))
            case measure => go_light; omega
            case rel => go_light; exact ⟨k + 1, d, hao, _, c, by omega, rfl, by go_num, rfl, hd, HL, HDn, IN⟩
    · obtain rfl : k = n := by omega
      obtain ⟨vo, vc, rfl⟩ := own_slice I.out.hown
      have hF0 : wr.cell? ⟨w.heap.size + 1, 0, none⟩ = some (.slice (some ⟨T, 0, none⟩) (idsL F G m k).length k) := cell_of_row wr _ 0 _ 42 (0, 0) I.out.hF
      have hF1 : wr.cell? ⟨w.heap.size + 1, 1, none⟩ = some (.slice vo (heldL F G m k).length vc) := cell_of_row wr _ 1 _ 42 (0, 0) I.out.hF
      have hR0 : wr.cell? ⟨w.heap.size, 0, none⟩ = some (.slice none 0 0) := cell_of_row wr _ 0 _ 42 (0, 0) I.out.hR
      have hR1 : wr.cell? ⟨w.heap.size, 1, none⟩ = some (.slice none 0 0) := cell_of_row wr _ 1 _ 42 (0, 0) I.out.hR
      have hf0 := frozen_of_row wr _ 0 _ 42 I.out.hR
      have hf1 := frozen_of_row wr _ 1 _ 42 I.out.hR
      have hFl := World.block_lt_of_cell? _ _ hF0
      have IF : Hid (NewDone w k m T F G (.returned (.agg #[.slice (some ⟨T, 0, none⟩) (idsL F G m k).length k, .slice vo (heldL F G m k).length vc])) ((wr.setCell ⟨w.heap.size, 0, none⟩ (.slice (some ⟨T, 0, none⟩) (idsL F G m k).length k)).setCell ⟨w.heap.size, 1, none⟩ (.slice vo (heldL F G m k).length vc))) := inv_done I.out _ _
      have B1 := heap_setCell_same wr w.heap.size 0 _ 42 (.slice (some ⟨T, 0, none⟩) (idsL F G m k).length k) I.out.hR
      have B2 := heap_setCell_same _ w.heap.size 1 _ 42 (.slice vo (heldL F G m k).length vc) B1
      have G0 : Hid ((wr.setCell ⟨w.heap.size, 0, none⟩ (.slice (some ⟨T, 0, none⟩) (idsL F G m k).length k)).cell? ⟨w.heap.size, 0, none⟩ = some (.slice (some ⟨T, 0, none⟩) (idsL F G m k).length k)) := cell_of_row _ _ 0 _ 42 (0, 0) B1
      have G1 : Hid (((wr.setCell ⟨w.heap.size, 0, none⟩ (.slice (some ⟨T, 0, none⟩) (idsL F G m k).length k)).setCell ⟨w.heap.size, 1, none⟩ (.slice vo (heldL F G m k).length vc)).cell? ⟨w.heap.size, 1, none⟩ = some (.slice vo (heldL F G m k).length vc)) := cell_of_row _ _ 1 _ 42 (0, 0) B2
      clear I B1 B2
      go_wp2
      have g0 := G0.out
      have g1 := G1.out
      exact bodyPost_ret (v := .agg #[.slice (some ⟨T, 0, none⟩) (idsL F G m k).length k, .slice vo (heldL F G m k).length vc]) (by simp [results, Trym.results26, go_sem, g0, g1]) rfl IF.out
end Go.Proofs.Qxb6000413aMods
