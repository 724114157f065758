import Derived.Test.Qxb6000413aModsZZNew
namespace Go.Proofs.Qxb6000413aMods
open Go.ChangeShapes Go.WideShapes Go.ChangeAt Go.RowKit
open Pg

/-- No two of them lie in one row. -/
def Dj (u v : Value) : Prop := u.ownBlock = none ∨ u.ownBlock ≠ v.ownBlock
theorem Dj.symm {u v : Value} (h : Dj u v) : Dj v u := by
  unfold Dj at *
  cases hu : u.ownBlock <;> cases hv : v.ownBlock <;> simp_all
  exact fun e => h e.symm

/-- The two lists that the law gathers, behind k rounds. -/
structure InvL (W wr : World) (m k : Nat) (F G : Nat → Int) (vi vh : Value) : Prop where
  hi : wr.ownsRow W.heap.size 32 1 vi (idsL F G m k).length ((idsL F G m k).map (.int .u64))
  hh : wr.ownsRow W.heap.size 32 1 vh (heldL F G m k).length ((heldL F G m k).map (.int .u64))
  dj : Dj vi vh
  bel : Below W.heap.size W wr

theorem dj_new {wr : World} {B : Nat} {u v v' : Value} {n : Nat} {xs : List Value} {s : Nat} (hu : wr.ownsRow B 32 1 u n xs) (h : Dj u v) (hs : wr.heap.size ≤ s) (hat : v'.ownBlock = v.ownBlock ∨ v'.ownBlock = some s) : Dj u v' := by
  rcases h with h | h
  · exact .inl h
  · rcases hat with hat | hat
    · exact .inr (by rw [hat]; exact h)
    · refine .inr fun e => ?_
      rw [hat] at e
      have := (hu.lt s e).2
      omega

theorem invL_yes {W wr w1 : World} {m k : Nat} {F G : Nat → Int} {vi vh v' : Value} (I : InvL W wr m k F G vi vh) (hm : memB G (F k) m = true)
    (ho : w1.ownsRow W.heap.size 32 1 v' ((heldL F G m k).length + 1) ((heldL F G m k).map (.int .u64) ++ [.int .u64 (F k)]))
    (hgw : (wr.alloc (.cells #[.int .u64 (F k)] 32)).grownBy w1 vh.ownBlock) (hat : v'.ownBlock = vh.ownBlock ∨ v'.ownBlock = some (wr.heap.size + 1)) : InvL W w1 m (k + 1) F G vi v' := by
  refine ⟨?_, ?_, dj_new I.hi I.dj (by omega) hat, ?_⟩
  · rw [ids_yes hm]; exact (I.hi.alloc _).kept hgw I.dj
  · rw [held_yes hm, List.length_append, List.map_append]; exact ho
  · exact (I.bel.alloc I.bel.size _).grown hgw (by have := I.bel.size; simp; omega) (fun b hb => (I.hh.lt b hb).1)
theorem invL_no {W wr w1 : World} {m k : Nat} {F G : Nat → Int} {vi vh v' : Value} (I : InvL W wr m k F G vi vh) (hm : memB G (F k) m = false)
    (ho : w1.ownsRow W.heap.size 32 1 v' ((idsL F G m k).length + 1) ((idsL F G m k).map (.int .u64) ++ [.int .u64 (F k)]))
    (hgw : (wr.alloc (.cells #[.int .u64 (F k)] 32)).grownBy w1 vi.ownBlock) (hat : v'.ownBlock = vi.ownBlock ∨ v'.ownBlock = some (wr.heap.size + 1)) : InvL W w1 m (k + 1) F G v' vh := by
  refine ⟨?_, ?_, (dj_new I.hh I.dj.symm (by omega) hat).symm, ?_⟩
  · rw [ids_no hm, List.length_append, List.map_append]; exact ho
  · rw [held_no hm]; exact (I.hh.alloc _).kept hgw I.dj.symm
  · exact (I.bel.alloc I.bel.size _).grown hgw (by have := I.bel.size; simp; omega) (fun b hb => (I.hi.lt b hb).1)

theorem own_row32 {w : World} {B : Nat} {v : Value} {l : List Int} (h : w.ownsRow B 32 1 v l.length (l.map (.int .u64))) : ∃ ah ch, v = .slice ah l.length ch ∧ RowU w ah l.length (atL l) := by
  rcases h.2 with ⟨rfl, h0⟩ | ⟨g, cap, cur, rfl, _⟩
  · exact ⟨none, 0, by rw [h0], fun hp => absurd hp (by omega)⟩
  · refine ⟨_, cap, rfl, fun _ => ⟨g, 0, rfl, fun i hi => ?_⟩⟩
    rw [Nat.zero_add, h.cellAt i (by omega)]
    simp [atL, List.getD, hi]

set_option maxRecDepth 100000 in
set_option maxHeartbeats 4000000 in
theorem splits (a0 a1 : Option Addr) (n c0 m c1 : Nat) (F G : Nat → Int) (w : World) (h : n + m ≤ 131072) (z0 : a0 = none → n = 0) (z1 : a1 = none → m = 0) (r0 : RowU w a0 n F) (r1 : RowU w a1 m G) :
    Calls Trym.prog 6 #[.slice a0 n c0, .slice a1 m c1] w fun e w' => e = .returned (.bool true) ∧ Below w.heap.size w w' := by
  obtain ⟨i0, hi, hz0, hz1, hz2⟩ := info_parts info32
  have hd0 : decide ((131072 : Int) < (n : Int)) = false := by simp; omega
  have hd1 : decide ((131072 : Int) < (m : Int)) = false := by simp; omega
  have hd2 : decide ((131072 : Int) < (n : Int) + (m : Int)) = false := by simp; omega
  go_enter Trym.func6, Trym.ntmps6
  go_upto_region 7 with (go_at_call 12; refine (bytesP_yes a0 a1 n c0 m c1 _ (by omega)).mono ?_; rintro e w' ⟨rfl, rfl⟩)
  clear hd0 hd1 hd2
  go_wp2_with fail
  refine (ascending a0 n c0 F _ (by omega) r0).mono ?_
  rintro e w' ⟨q, m1, rfl, hq, rfl⟩
  cases q
  · go_wp2_with fail
    go_ret
    exact ⟨rfl, below_drewN (Below.refl _ _) _⟩
  have hA := hq (by trivial)
  have HA : Hid (Asc F n) := hA
  clear hq hA
  go_wp2_with fail
  refine (nondecr a1 m c1 G (w.drewN m1) (by omega) r1).mono ?_
  rintro e w' ⟨q, m2, rfl, hq, rfl⟩
  cases q
  · go_wp2_with fail
    go_ret
    exact ⟨rfl, below_drewN (Below.refl _ _) _⟩
  have hN := hq (by trivial)
  have HN : Hid (Nond G m) := hN
  clear hq hN
  rw [World.drewN_drewN]
  generalize m1 + m2 = m3
  have HB0 : Hid (Below w.heap.size w (w.drewN m3)) := below_drewN (Below.refl _ _) _
  have r0' : RowU (w.drewN m3) a0 n F := r0
  have r1' : RowU (w.drewN m3) a1 m G := r1
  clear r0 r1
  generalize w.drewN m3 = W0 at *
  go_upto_region 10 with (go_at_call 15; refine (cloneU a0 n c0 F _ (by omega) z0 r0').mono ?_; rintro e w1 ⟨x0, rfl, M0, b0⟩)
  have r1'' := rowU_below r1' b0
  have HM0 : Hid (MadeU W0 w1 32 x0 n F) := M0
  have Hb0 : Hid (Below W0.heap.size W0 w1) := b0
  clear M0 b0 r0' r1'
  go_upto_region 11 with (go_at_call 15; refine (cloneU a1 m c1 G _ (by omega) z1 r1'').mono ?_; rintro e w2 ⟨x1, rfl, M1, b1⟩)
  have y0 := made_nil HM0.out
  have y1 := made_nil M1
  have q0 := rowU_below (made_row HM0.out) b1
  have q1 := made_row M1
  have HB1 : Hid (Below w.heap.size w w2) := by
    have e1 := HB0.out.trans (Hb0.out.mono HB0.out.size)
    exact e1.trans (b1.mono e1.size)
  clear M1 b1 HM0 Hb0 r1'' HB0
  go_upto_region 12 with (go_at_call 16; refine (zznew_any x0 x1 n n m m F G _ (by omega) (by omega) y0 y1 q0 q1 HA.out HN.out).mono ?_; rintro e w3 ⟨ai, ah, rfl, ri, rh, b3⟩)
  have HRI : Hid (RowU w3 ai (idsL F G m n).length (atL (idsL F G m n))) := ri
  have HRH : Hid (RowU w3 ah (heldL F G m n).length (atL (heldL F G m n))) := rh
  have HR0 : Hid (RowU w3 x0 n F) := rowU_below q0 b3
  have HR1 : Hid (RowU w3 x1 m G) := rowU_below q1 b3
  have HB3 : Hid (Below w.heap.size w w3) := HB1.out.trans (b3.mono HB1.out.size)
  clear ri rh q0 q1 b3 HB1 y0 y1 z0 z1
  go_wp2
  go_loopw [7, 8, 9] (fun s7 s8 s9 wr => ∃ (k : Nat) (vi vh : Value), k ≤ n ∧ s9 = .int .i64 k ∧ s7 = vi ∧ s8 = vh ∧ Hid (InvL w3 wr m k F G vi vh)) (fun _ _ s9 _ => n - (intOf s9).toNat)
  case atStart => exact ⟨0, _, _, by omega, rfl, rfl, rfl, ⟨World.ownsRow_nil _ _ _ _, World.ownsRow_nil _ _ _ _, .inl rfl, Below.refl _ _⟩⟩
  case round =>
    obtain ⟨k, vi, vh, hk, rfl, rfl, rfl, I⟩ := hrel
    by_cases hlt : k < n
    · have HRh : Hid (RowU wr x1 m G) := rowU_below HR1.out I.out.bel
      obtain ⟨b, off, rfl, hcc⟩ := rowU_below HR0.out I.out.bel (by omega)
      have hck := hcc k hlt
      have hbl := World.block_lt_of_cell? _ _ hck
      have hil := ids_len F G m k
      have hhl := held_len F G m k
      clear hcc
      go_upto_if 57 with (go_at_call 17; refine (has_any x1 m m G (F k) _ (by omega) HN.out HRh.out).mono ?_; rintro e w' ⟨rfl, rfl⟩)
      cases hmem : memB G (F k) m
      · go_wp2_with (at_builtin; refine wpList_append_own_at _ rfl (.tmp 65) (.tmp 70) 25 rfl w3.heap.size 32 i0 (.int .u64 0) 1 8 Trym.underlying25 hi hz0 hz1 hz2 rfl (by decide) _ _ _ rfl (I.out.hi.alloc _) ⟨wr.heap.size, 0, none⟩ 1 1 [.int .u64 (F k)] rfl rfl ?d1 ?d2 ?d3 ?d4 ?d5 ?_)
        case d1 => exact cell_one_new _ _ _
        case d2 => intro u hu; simp at hu; subst hu; rfl
        case d3 => unfold maxLen; omega
        case d4 => omega
        case d5 => have := I.out.bel.size; simp; omega
        intro v' w1 ho hgw _ hat
        have IN : Hid (InvL w3 w1 m (k + 1) F G v' u8) := invL_no I.out hmem ho hgw hat
        clear ho hgw hat I hmem hck
        go_wp2
        go_roundw
        case rel => go_light; exact ⟨k + 1, v', u8, by omega, by go_num, rfl, rfl, IN⟩
        case measure => simp [intOf]; omega
      · go_wp2_with (at_builtin; refine wpList_append_own_at _ rfl (.tmp 58) (.tmp 63) 25 rfl w3.heap.size 32 i0 (.int .u64 0) 1 8 Trym.underlying25 hi hz0 hz1 hz2 rfl (by decide) _ _ _ rfl (I.out.hh.alloc _) ⟨wr.heap.size, 0, none⟩ 1 1 [.int .u64 (F k)] rfl rfl ?e1 ?e2 ?e3 ?e4 ?e5 ?_)
        case e1 => exact cell_one_new _ _ _
        case e2 => intro u hu; simp at hu; subst hu; rfl
        case e3 => unfold maxLen; omega
        case e4 => omega
        case e5 => have := I.out.bel.size; simp; omega
        intro v' w1 ho hgw _ hat
        have IN : Hid (InvL w3 w1 m (k + 1) F G u7 v') := invL_yes I.out hmem ho hgw hat
        clear ho hgw hat I hmem hck
        go_wp2
        go_roundw
        case rel => go_light; exact ⟨k + 1, u7, v', by omega, by go_num, rfl, rfl, IN⟩
        case measure => simp [intOf]; omega
    · obtain rfl : k = n := by omega
      obtain ⟨wi, ci, rfl, hwi⟩ := own_row32 I.out.hi
      obtain ⟨wh, ch, rfl, hwh⟩ := own_row32 I.out.hh
      have hil := ids_len F G m k
      have hhl := held_len F G m k
      have HRi2 : Hid (RowU wr ai (idsL F G m k).length (atL (idsL F G m k))) := rowU_below HRI.out I.out.bel
      have HRh2 : Hid (RowU wr ah (heldL F G m k).length (atL (heldL F G m k))) := rowU_below HRH.out I.out.bel
      have Hwi : Hid (RowU wr wi (idsL F G m k).length (atL (idsL F G m k))) := hwi
      have Hwh : Hid (RowU wr wh (heldL F G m k).length (atL (heldL F G m k))) := hwh
      have HBf : Hid (Below w.heap.size w wr) := HB3.out.trans (I.out.bel.mono HB3.out.size)
      clear hwi hwh I HRI HRH HR0 HR1 HB3
      go_wp2_with fail
      refine (equal_any ai wi _ (idsL F G m k).length ci (atL (idsL F G m k)) (atL (idsL F G m k)) wr (by omega) (fun _ _ => rfl) HRi2.out Hwi.out).mono ?_
      rintro e w5 ⟨rfl, m5, rfl⟩
      go_wp2_with fail
      refine (equal_any ah wh _ (heldL F G m k).length ch (atL (heldL F G m k)) (atL (heldL F G m k)) (wr.drewN m5) (by omega) (fun _ _ => rfl) HRh2.out Hwh.out).mono ?_
      rintro e w6 ⟨rfl, m6, rfl⟩
      go_wp2
      go_ret
      exact ⟨rfl, below_drewN HBf.out _⟩

set_option maxRecDepth 100000 in
set_option maxHeartbeats 1000000 in
theorem splits_no (a0 a1 : Option Addr) (n c0 m c1 : Nat) (w : World) (h : 131072 < n + m) (h0 : n ≤ 9223372036854775807) (h1 : m ≤ 9223372036854775807) :
    Calls Trym.prog 6 #[.slice a0 n c0, .slice a1 m c1] w fun e w' => e = .returned (.bool true) ∧ Below w.heap.size w w' := by
  by_cases hb : n + m ≤ 1048576
  · go_enter Trym.func6, Trym.ntmps6
    go_wp2_with (go_at_call 12; refine (bytesP_yes a0 a1 n c0 m c1 _ hb).mono ?_; rintro e w' ⟨rfl, rfl⟩)
    all_goals
      go_ret
      exact ⟨rfl, Below.refl _ _⟩
  · go_enter Trym.func6, Trym.ntmps6
    go_wp2_with (go_at_call 12; refine (bytesP_no a0 a1 n c0 m c1 _ (by omega) h0 h1).mono ?_; rintro e w' ⟨rfl, rfl⟩)
    go_ret
    exact ⟨rfl, Below.refl _ _⟩
end Go.Proofs.Qxb6000413aMods
