import Derived.Test.Qxb6605393aModsTells
namespace Go.Proofs.Qxb6605393aMods
open Go.ChangeShapes Go.WideShapes Go.ChangeAt Go.RowKit
open Ct

theorem row4_below {w w' : World} {ao : Option Addr} {n : Nat} {rk : Nat → Int} {mb : Nat → ByteArray} {sc sr : Nat → Int} (h : Row4 w ao n rk mb sc sr) (hb : Below w.heap.size w w') : Row4 w' ao n rk mb sc sr := by
  intro hn
  obtain ⟨b, off, e, hc⟩ := h hn
  refine ⟨b, off, e, fun i hi => ?_⟩
  obtain ⟨h0, h1, h2, h3⟩ := hc i hi
  exact ⟨cell_later hb h0, cell_later hb h1, cell_later hb h2, cell_later hb h3⟩

theorem shZ_eq (av : Int) (rk sc : Nat → Int) (k : Nat) : shZ av rk sc k = shC av rk sc k := by
  induction k with
  | zero => rfl
  | succ k ih => unfold shZ shC; rw [ih]

set_option maxRecDepth 100000 in
set_option maxHeartbeats 4000000 in
theorem counts (ao : Option Addr) (len cap : Nat) (rk : Nat → Int) (mb : Nat → ByteArray) (sc sr : Nat → Int) (av : Int) (w : World) (hm : len ≤ 9223372036854775807) (hms : ∀ i, (mb i).size ≤ 9223372036854775807) (hc : Row4 w ao len rk mb sc sr) :
    Calls Trym.prog 4 #[.slice ao len cap, .int .i64 av] w fun e w' => e = .returned (.bool true) ∧ Below w.heap.size w w' := by
  go_enter Trym.func4, Trym.ntmps4
  go_upto_if 12 with (go_at_call 10; refine (bytesB ao len cap rk mb sc sr av _ hm hms hc).mono ?_; rintro e w' ⟨q, rfl, hq, rfl⟩)
  cases q
  · go_wp2
    go_ret
    exact ⟨rfl, Below.refl _ _⟩
  have hl := hq rfl
  clear hq
  by_cases h4 : len ≤ 4096
  rotate_left
  · go_wp2_with fail
    go_ret
    exact ⟨rfl, Below.refl _ _⟩
  have hd : decide ((4096 : Int) < (len : Int)) = false := by simp; omega
  go_upto_if 19 with (go_at_call 7; refine (tooBig ao len cap rk mb sc sr _ hl hms hc).mono ?_; rintro e w' ⟨q, rfl, hq, rfl⟩)
  cases q
  rotate_left
  · go_wp2
    go_ret
    exact ⟨rfl, Below.refl _ _⟩
  clear hq hl hm hms hd
  go_upto_if 28 with (go_at_call 11; refine (adjacent ao len cap rk mb sc sr av _ (by omega) hc).mono ?_; rintro e w' ⟨q, m, rfl, hq, rfl⟩; cases q)
  · go_wp2
    go_ret
    exact ⟨rfl, below_drewN (Below.refl _ _) _⟩
  have hadj := hq (by trivial)
  have HA : Hid (∀ i, i < len → rk i = wrap64 (wrap64 (av + 1) + (i : Int))) := hadj
  clear hq hadj
  refine (sorted ao len cap rk mb sc sr (w.drewN m) (by omega) hc).mono ?_
  rintro e w' ⟨q, m2, rfl, hq, rfl⟩
  cases q
  · go_wp2
    go_ret
    exact ⟨rfl, below_drewN (Below.refl _ _) _⟩
  have hsort := hq (by trivial)
  have HS : Hid (Down sc len ∨ Up sc len) := hsort
  clear hq hsort
  rw [World.drewN_drewN]
  generalize m + m2 = m3
  have hc3 : Row4 (w.drewN m3) ao len rk mb sc sr := hc
  go_upto_region 8 with (go_at_call 8; refine (toEnt ao len cap rk mb sc sr _ (by omega) hc3).mono ?_; rintro e w1 ⟨rfl, ⟨c1, hb1, he1⟩, hbel1⟩)
  have HB1 : Hid (Blk w1 w.heap.size c1) := hb1
  have HE1 : Hid (Ent c1 len len rk mb sc sr) := he1
  have HW1 : Hid (Below w.heap.size w w1) := (below_drewN (Below.refl _ _) _ : Below w.heap.size w (w.drewN m3)).trans hbel1
  clear hb1 he1 hbel1 hc3
  go_upto_region 9 with (go_at_call 9; refine (zzshare_any w.heap.size len c1 rk mb sc sr av _ (by omega) HB1.out HE1.out).mono ?_; rintro e w2 ⟨rfl, ⟨c2, hb2, he2⟩, hg2⟩)
  have HB2 : Hid (Blk w2 w.heap.size c2) := hb2
  have HE2 : Hid (Ent c2 len len rk mb sc (shZ av rk sc)) := he2
  have HW2 : Hid (Below w.heap.size w w2) := HW1.out.grown hg2 HW1.out.size (fun k hk => by injection hk with hk; omega)
  have HR2 : Hid (Row4 w2 ao len rk mb sc sr) := row4_below hc HW2.out
  clear hb2 he2 hg2 HB1 HE1 HW1 hc
  go_wp2
  have HC : Hid (∀ i, i < len → shZ av rk sc i = wrap64 (wrap64 (av + 1) + ((cntC sc (sc i) i : Nat) : Int))) := fun i hi => by
    rw [shZ_eq, sh_count HA.out i hi, cnt_st HS.out i hi]
  go_loopg [6] len (fun g s6 wr => ∃ i : Nat, i ≤ len ∧ g = len - i ∧ s6 = .int .i64 i ∧ Hid (Below w2.heap.size w2 wr))
  case atStart => exact ⟨0, by omega, rfl, rfl, Below.refl _ _⟩
  case round =>
    obtain ⟨i, hi, rfl, rfl, HW⟩ := hrel
    by_cases hlt : i < len
    · have HR3 : Hid (Row4 wr ao len rk mb sc sr) := row4_below HR2.out HW.out
      obtain ⟨b, off, rfl, hcc⟩ := HR3.out (by omega)
      obtain ⟨q0, q1, q2, q3⟩ := hcc i hlt
      obtain ⟨e0, e1, e2, e3⟩ := HE2.out.2 i hlt
      have x0 := cell_later HW.out (blk_cell HB2.out e0)
      have x1 := cell_later HW.out (blk_cell HB2.out e1)
      have x2 := cell_later HW.out (blk_cell HB2.out e2)
      have x3 := cell_later HW.out (blk_cell HB2.out e3)
      have hb := World.block_lt_of_cell? _ _ q0
      have hT := World.block_lt_of_cell? _ _ x0
      have HCi := HC.out i hlt
      have HX : Hid (shZ av rk sc i = wrap64 (wrap64 (av + 1) + ((cntC sc (sc i) i : Nat) : Int))) := HCi
      clear q3 e0 e1 e2 e3 hcc HCi HA HS HC
      go_upto_region 15 with fail
      go_cut [76] from 39 to 85 (fun s76 wx => s76 = .bool false ∧ Hid (wx.cell? ⟨wr.heap.size, 3, none⟩ = some (.int .i64 (shZ av rk sc i))) ∧ Hid (Below w2.heap.size w2 wx))
      case first =>
        go_quiet (fail)
        go_wp2
        go_meet
        case rel => exact ⟨rfl, by simp [Hid], below_drewN (HW.out.alloc HW.out.size _) _⟩
      case rest =>
        obtain ⟨rfl, HX3, HW3⟩ := hcut
        clear x0 x1 x2 x3 q0 q1 q2 hb hT HR3
        have HR4 : Hid (Row4 wc (some ⟨b, off, none⟩) len rk mb sc sr) := row4_below HR2.out HW3.out
        go_upto_region 17 with fail
        go_cut [85] from 39 to 85 (fun s85 wx => s85 = .bool false ∧ Hid (Below w2.heap.size w2 wx))
        case first =>
          have x3 := HX3.out
          go_quiet ((go_at_call 13; exact Calls.quiet_of (others (some ⟨b, off, none⟩) len cap i rk mb sc sr _ (by omega) hlt HR4.out)))
          go_wp2
          go_meet
          case rel =>
            refine ⟨?_, below_drewN HW3.out _⟩
            go_light
            rw [HX.out]
            simp
        case rest =>
          obtain ⟨rfl, HW4⟩ := hcut
          clear HX3 HW3 HR4
          go_wp2
          go_roundg (len - (i + 1))
          case measure => go_light; omega
          case rel => go_light; exact ⟨i + 1, by omega, rfl, by go_num, HW4⟩
    · clear HC HR2
      by_cases hav : 0 ≤ av ∧ av ≤ 1099511627776
      · obtain ⟨hav0, hav1⟩ := hav
        have e1 : wrap64 (av + 1) = av + 1 := IntWalk.wrap64_in _ (by omega)
        have HSh : Hid (∀ i, i < len → shZ av rk sc i = av + 1 + ((stC sc i : Nat) : Int)) := fun i hi => by
          have := stC_le sc i
          rw [shZ_eq, sh_count HA.out i hi, e1, IntWalk.wrap64_in _ (by omega)]
        have HRk : Hid (∀ i, i < len → rk i = av + 1 + (i : Int)) := fun i hi => by
          rw [HA.out i hi, e1, IntWalk.wrap64_in _ (by omega)]
        clear e1 HA HS
        go_wp2
        go_loopw [8] (fun s8 wx => ∃ j : Nat, j ≤ len ∧ s8 = .int .i64 j ∧ Hid (Below w2.heap.size w2 wx)) (fun s8 _ => len - (intOf s8).toNat)
        case atStart => exact ⟨0, by omega, rfl, HW⟩
        case round =>
          obtain ⟨j, hj, rfl, HWj⟩ := hrel
          by_cases hlj : j < len
          · obtain ⟨e0, e1, e2, e3⟩ := HE2.out.2 j hlj
            have x0 := cell_later HWj.out (blk_cell HB2.out e0)
            have x3 := cell_later HWj.out (blk_cell HB2.out e3)
            have hsj := HSh.out j hlj
            have hrj := HRk.out j hlj
            have hst := stC_le sc j
            have hle : ¬ rk j < shZ av rk sc j := by omega
            clear e0 e1 e2 e3 hrj
            rcases Nat.eq_zero_or_pos j with h0 | h0
            · subst h0
              clear hst hsj
              simp only [Nat.zero_mul, Nat.zero_add] at x0 x3
              go_wp2
              go_quiet (fail)
              go_wp2
              go_quiet (fail)
              go_wp2
              go_roundw
              case rel => exact ⟨1, by omega, rfl, below_drewN HWj.out _⟩
              case measure => simp [intOf]; omega
            · obtain ⟨p0, p1, p2, p3⟩ := HE2.out.2 (j - 1) (by omega)
              have y3 := cell_later HWj.out (blk_cell HB2.out p3)
              have hsp := HSh.out (j - 1) (by omega)
              have hmo := stC_mono sc (j - 1)
              rw [show j - 1 + 1 = j by omega] at hmo
              have hge : ¬ shZ av rk sc j < shZ av rk sc (j - 1) := by omega
              clear p0 p1 p2 p3 hsp hsj hmo hst
              go_wp2
              go_quiet (fail)
              go_wp2
              go_quiet (fail)
              go_wp2
              go_roundw
              case rel => exact ⟨j + 1, by omega, by go_num, below_drewN HWj.out _⟩
              case measure => simp [intOf]; omega
          · go_wp2
            go_ret
            exact ⟨rfl, HW2.out.trans (HWj.out.mono HW2.out.size)⟩
      · go_wp2
        all_goals
          go_ret
          exact ⟨rfl, HW2.out.trans (HW.out.mono HW2.out.size)⟩
end Go.Proofs.Qxb6605393aMods
