import Derived.Test.Qxb6000413aModsNew
import Derived.Deep.RegionWith
namespace Go.Proofs.Qxb6000413aMods
open Go.ChangeShapes Go.WideShapes Go.ChangeAt Go.RowKit
open Pg

/-- The two lists as 'newFreePages' hands them back. -/
def PairU (w : World) (n m : Nat) (F G : Nat → Int) (e : Ending) (w' : World) : Prop :=
  ∃ ai ci ah ch, e = .returned (.agg #[.slice ai (idsL F G m n).length ci, .slice ah (heldL F G m n).length ch]) ∧ (ai = none → (idsL F G m n).length = 0) ∧ (ah = none → (heldL F G m n).length = 0) ∧
    RowU w' ai (idsL F G m n).length (atL (idsL F G m n)) ∧ RowU w' ah (heldL F G m n).length (atL (heldL F G m n)) ∧ Below w.heap.size w w'

theorem own_row {w : World} {B : Nat} {v : Value} {l : List Int} (h : w.ownsRow B 46 1 v l.length (l.map (.int .u64))) : ∃ ah ch, v = .slice ah l.length ch ∧ (ah = none → l.length = 0) ∧ RowU w ah l.length (atL l) := by
  rcases h.2 with ⟨rfl, h0⟩ | ⟨g, cap, cur, rfl, _⟩
  · exact ⟨none, 0, by rw [h0], fun _ => h0, fun hp => absurd hp (by omega)⟩
  · refine ⟨_, cap, rfl, fun h => (by cases h), fun _ => ⟨g, 0, rfl, fun i hi => ?_⟩⟩
    rw [Nat.zero_add, h.cellAt i (by omega)]
    simp [atL, List.getD, hi]

theorem new_any (w w1 w2 : World) (ao1 ao2 : Option Addr) (n m : Nat) (F G : Nat → Int) (hn2 : n ≤ 1048576) (hm2 : m ≤ 1048576) (M1 : MadeU w w1 46 ao1 n F) (M2 : MadeU w1 w2 46 ao2 m G)
    (hb1 : Below w.heap.size w w1) (hb2 : Below w1.heap.size w1 w2) (hA : Asc F n) (hN : Nond G m) :
    Calls Trym.prog 26 #[.slice ao1 n n, .slice ao2 m m] w2 fun e w' => PairU w n m F G e w' := by
  have hb12 : Below w.heap.size w w2 := hb1.trans (hb2.mono hb1.size)
  rcases Nat.eq_zero_or_pos m with h0 | hm
  · subst h0
    refine (new_none ao1 ao2 n 0 w2).mono ?_
    rintro e w' ⟨rfl, hb⟩
    have hl : (idsL F G 0 n).length = n := by rw [ids_none]; simp
    have hh : heldL F G 0 n = [] := held_none F G n
    refine ⟨ao1, n, none, 0, by rw [hl, hh]; rfl, by rw [hl]; exact made_nil M1, fun _ => by rw [hh]; rfl, ?_, fun hp => absurd hp (by rw [hh]; simp), hb12.trans (hb.mono hb12.size)⟩
    rw [hl]
    have hr : RowU w' ao1 n F := rowU_below (rowU_below (made_row M1) hb2) hb
    intro hp
    obtain ⟨b, off, e, hc⟩ := hr hp
    refine ⟨b, off, e, fun i hi => ?_⟩
    rw [ids_none, atL_range F n i hi]
    exact hc i hi
  · rcases Nat.eq_zero_or_pos n with h0 | hn
    · subst h0
      refine (new_empty ao1 ao2 m m w2 hm hm2).mono ?_
      rintro e w' ⟨rfl, hb⟩
      exact ⟨ao1, 0, none, 0, rfl, fun _ => rfl, fun _ => rfl, fun hp => absurd hp (by simp [idsL]), fun hp => absurd hp (by simp [heldL]), hb12.trans (hb.mono hb12.size)⟩
    · rcases M1 with ⟨_, h⟩ | ⟨c1, rfl, hc1, hs1, hf1⟩
      · omega
      rcases M2 with ⟨_, h⟩ | ⟨c2, rfl, hc2, hs2, hf2⟩
      · omega
      have hT2 : w2.heap[w.heap.size]? = some (.cells c1 46 (0, 0)) := by
        have : w.heap.size < w1.heap.size := (Array.getElem?_eq_some_iff.1 hc1).1
        rw [hb2.block _ this]; exact hc1
      have hlt : w.heap.size < w1.heap.size := (Array.getElem?_eq_some_iff.1 hc1).1
      refine (new_some w.heap.size w1.heap.size n m c1 F G w2 hn hm hn2 hm2 hT2 hs1 hf1 (fun j hj => by rw [cell_of_row _ _ _ c2 46 (0, 0) hc2]; exact hf2 j hj) (by omega) hA hN).mono ?_
      rintro e w' ⟨vh, rfl, hr, ho, hg⟩
      obtain ⟨ah, ch, rfl, hz, hrh⟩ := own_row ho
      exact ⟨_, n, ah, ch, rfl, fun h => (by cases h), hz, hr, hrh, hb12.grown hg hb12.size (fun k hk => by injection hk with hk; omega)⟩

/-- The two lists, copied. -/
def TwoU (w : World) (n m : Nat) (F G : Nat → Int) (e : Ending) (w' : World) : Prop :=
  ∃ ai ah, e = .returned (.tuple #[.slice ai (idsL F G m n).length (idsL F G m n).length, .slice ah (heldL F G m n).length (heldL F G m n).length]) ∧
    RowU w' ai (idsL F G m n).length (atL (idsL F G m n)) ∧ RowU w' ah (heldL F G m n).length (atL (heldL F G m n)) ∧ Below w.heap.size w w'

theorem two_ab {w W wa wb : World} {n m li lh : Nat} {F G : Nat → Int} {xa xb : Option Addr} (IL : Hid ((idsL F G m n).length = li)) (HL : Hid ((heldL F G m n).length = lh)) (HW : Below w.heap.size w W)
    (Ma : MadeU W wa 32 xa li (atL (idsL F G m n))) (ba : Below W.heap.size W wa) (Mb : MadeU wa wb 32 xb lh (atL (heldL F G m n))) (bb : Below wa.heap.size wa wb) :
    TwoU w n m F G (.returned (.tuple #[.slice xa li li, .slice xb lh lh])) wb := by
  obtain rfl := IL.out
  obtain rfl := HL.out
  have h1 : Below w.heap.size w wa := HW.trans (ba.mono HW.size)
  exact ⟨xa, xb, rfl, rowU_below (made_row Ma) bb, made_row Mb, h1.trans (bb.mono h1.size)⟩
theorem two_ba {w W wa wb : World} {n m li lh : Nat} {F G : Nat → Int} {xa xb : Option Addr} (IL : Hid ((idsL F G m n).length = li)) (HL : Hid ((heldL F G m n).length = lh)) (HW : Below w.heap.size w W)
    (Mb : MadeU W wb 32 xb lh (atL (heldL F G m n))) (bb : Below W.heap.size W wb) (Ma : MadeU wb wa 32 xa li (atL (idsL F G m n))) (ba : Below wb.heap.size wb wa) :
    TwoU w n m F G (.returned (.tuple #[.slice xa li li, .slice xb lh lh])) wa := by
  obtain rfl := IL.out
  obtain rfl := HL.out
  have h1 : Below w.heap.size w wb := HW.trans (bb.mono HW.size)
  exact ⟨xa, xb, rfl, made_row Ma, rowU_below (made_row Mb) ba, h1.trans (ba.mono h1.size)⟩

set_option maxRecDepth 100000 in
set_option maxHeartbeats 4000000 in
theorem zznew_any (a0 a1 : Option Addr) (n c0 m c1 : Nat) (F G : Nat → Int) (w : World) (hn2 : n ≤ 1048576) (hm2 : m ≤ 1048576) (h0 : a0 = none → n = 0) (h1 : a1 = none → m = 0) (r0 : RowU w a0 n F) (r1 : RowU w a1 m G) (hA : Asc F n) (hN : Nond G m) :
    Calls Trym.prog 16 #[.slice a0 n c0, .slice a1 m c1] w fun e w' => TwoU w n m F G e w' := by
  have hli := ids_len F G m n
  have hlh := held_len F G m n
  go_enter Trym.func16, Trym.ntmps16
  go_wp2_with fail
  refine (toPg a0 n c0 F _ hn2 h0 r0).mono ?_
  rintro e w1 ⟨x1, rfl, M1, hb1⟩
  have HM1 : Hid (MadeU w w1 46 x1 n F) := M1
  have HB1 : Hid (Below w.heap.size w w1) := hb1
  have r1' := rowU_below r1 hb1
  clear M1 hb1
  go_wp2_with fail
  refine (toPg a1 m c1 G _ hm2 h1 r1').mono ?_
  rintro e w2 ⟨x2, rfl, M2, hb2⟩
  have HM2 : Hid (MadeU w1 w2 46 x2 m G) := M2
  have HB2 : Hid (Below w1.heap.size w1 w2) := hb2
  clear M2 hb2
  go_wp2_with fail
  refine (new_any w w1 w2 x1 x2 n m F G hn2 hm2 HM1.out HM2.out HB1.out HB2.out hA hN).mono ?_
  rintro e w3 ⟨ai, ci, ah, ch, rfl, hzi, hzh, hri, hrh, hb3⟩
  have HRI : Hid (RowU w3 ai (idsL F G m n).length (atL (idsL F G m n))) := hri
  have HRH : Hid (RowU w3 ah (heldL F G m n).length (atL (heldL F G m n))) := hrh
  have HB3 : Hid (Below w.heap.size w w3) := hb3
  clear hri hrh hb3 HM1 HM2 HB1 HB2 r1' r0 r1 h0 h1
  go_upto_region 2 with fail
  have HBW : Hid (Below w3.heap.size w3 (w3.alloc (Obj.cells #[Value.slice ai (idsL F G m n).length ci, Value.slice ah (heldL F G m n).length ch] 42))) := (Below.refl _ _).alloc (Nat.le_refl _) _
  have z0 : (w3.alloc (Obj.cells #[Value.slice ai (idsL F G m n).length ci, Value.slice ah (heldL F G m n).length ch] 42)).cell? ⟨w3.heap.size, 0, none⟩ = some (.slice ai (idsL F G m n).length ci) := World.cell?_alloc_at _ _ _ _ rfl
  have z1 : (w3.alloc (Obj.cells #[Value.slice ai (idsL F G m n).length ci, Value.slice ah (heldL F G m n).length ch] 42)).cell? ⟨w3.heap.size, 1, none⟩ = some (.slice ah (heldL F G m n).length ch) := World.cell?_alloc_at _ _ _ _ rfl
  generalize w3.alloc (Obj.cells #[Value.slice ai (idsL F G m n).length ci, Value.slice ah (heldL F G m n).length ch] 42) = W at HBW z0 z1 ⊢
  have HI : Hid (RowU W ai (idsL F G m n).length (atL (idsL F G m n))) := rowU_below HRI.out HBW.out
  have HH : Hid (RowU W ah (heldL F G m n).length (atL (heldL F G m n))) := rowU_below HRH.out HBW.out
  have HW : Hid (Below w.heap.size w W) := HB3.out.trans (HBW.out.mono HB3.out.size)
  clear HRI HRH HB3 HBW hA hN
  generalize hIL : (idsL F G m n).length = li at *
  generalize hHL : (heldL F G m n).length = lh at *
  have HIL : Hid ((idsL F G m n).length = li) := hIL
  have HHL : Hid ((heldL F G m n).length = lh) := hHL
  clear hIL hHL
  generalize w3.heap.size = B at *
  go_region_with (first | (go_at_call_of 28 ai; refine (fromPg ai li ci (atL (idsL F G m n)) _ (by omega) hzi ?_).mono ?_; (first | exact HI.out | assumption); rintro e wa ⟨xa, rfl, Ma, ba⟩; have hra := made_row Ma; have hha := fun h : RowU _ ah lh (atL (heldL F G m n)) => rowU_below h ba; (try have hhb := hha HH.out); (try have z1a := cell_later ba z1)) | (go_at_call_of 28 ah; refine (fromPg ah lh ch (atL (heldL F G m n)) _ (by omega) hzh ?_).mono ?_; (first | exact HH.out | assumption); rintro e wb ⟨xb, rfl, Mb, bb⟩; have hrb := made_row Mb; have hia := fun h : RowU _ ai li (atL (idsL F G m n)) => rowU_below h bb; (try have hib := hia HI.out); (try have z0b := cell_later bb z0)))
  all_goals
    have HP := HIL.out
    have HQ := HHL.out
    have IL : Hid ((idsL F G m n).length = li) := HP
    have HL : Hid ((heldL F G m n).length = lh) := HQ
    clear HP HQ HIL HHL hha hia hra hrb
    go_wp2
    go_ret2
    first
    | exact two_ab IL HL (HW.out.drew) Ma ba Mb bb
    | exact two_ba IL HL (HW.out.drew) Mb bb Ma ba
end Go.Proofs.Qxb6000413aMods
