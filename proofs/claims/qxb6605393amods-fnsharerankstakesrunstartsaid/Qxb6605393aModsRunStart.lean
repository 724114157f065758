import Derived.Test.Qxb6605393aModsShare
import Derived.Deep.Light
namespace Go.Proofs.Qxb6605393aMods
open Go.ChangeShapes Go.WideShapes Go.ChangeAt Go.RowKit

/-- Where entry i's run of equal scores starts. -/
def stZ (sc : Nat → Int) : Nat → Nat
  | 0 => 0
  | k + 1 => if sc (k + 1) = sc k then stZ sc k else k + 1
theorem stZ_le (sc : Nat → Int) (k : Nat) : stZ sc k ≤ k := by
  induction k with
  | zero => exact Nat.le_refl _
  | succ k ih => unfold stZ; split <;> omega
theorem sh_st (av : Int) (rk sc : Nat → Int) (k : Nat) : shZ av rk sc k = if 0 < stZ sc k then rk (stZ sc k) else wrap64 (av + 1) := by
  induction k with
  | zero => rfl
  | succ k ih =>
    unfold shZ stZ
    split
    · exact ih
    · rw [if_pos (by omega)]
theorem stZ_same {sc : Nat → Int} {k : Nat} (hk : 0 < k) (h : (sc k == sc (k - 1)) = true) : stZ sc k = stZ sc (k - 1) := by
  obtain ⟨j, rfl⟩ : ∃ j, k = j + 1 := ⟨k - 1, by omega⟩
  have : sc (j + 1) = sc j := by simpa using h
  show (if _ then _ else _) = _
  rw [if_pos this]; rfl
theorem stZ_new {sc : Nat → Int} {k : Nat} (hk : 0 < k) (h : (sc k == sc (k - 1)) = false) : stZ sc k = k := by
  obtain ⟨j, rfl⟩ : ∃ j, k = j + 1 := ⟨k - 1, by omega⟩
  have : ¬ sc (j + 1) = sc j := by simpa using h
  show (if _ then _ else _) = _
  rw [if_neg this]

theorem row4_below {w w' : World} {ao : Option Addr} {n : Nat} {rk : Nat → Int} {mb : Nat → ByteArray} {sc sr : Nat → Int} (h : Row4 w ao n rk mb sc sr) (hb : Below w.heap.size w w') : Row4 w' ao n rk mb sc sr := by
  intro hn
  obtain ⟨b, off, e, hc⟩ := h hn
  refine ⟨b, off, e, fun i hi => ?_⟩
  obtain ⟨h0, h1, h2, h3⟩ := hc i hi
  exact ⟨cell_later hb h0, cell_later hb h1, cell_later hb h2, cell_later hb h3⟩

set_option maxRecDepth 100000 in
set_option maxHeartbeats 2000000 in
theorem runStart (ao : Option Addr) (len cap : Nat) (rk : Nat → Int) (mb : Nat → ByteArray) (sc sr : Nat → Int) (av : Int) (w : World) (hm : len ≤ 9223372036854775807) (hms : ∀ i, (mb i).size ≤ 9223372036854775807) (hc : Row4 w ao len rk mb sc sr) :
    Calls Trym.prog 3 #[.slice ao len cap, .int .i64 av] w fun e w' => e = .returned (.bool true) ∧ Below w.heap.size w w' := by
  go_enter Trym.func3, Trym.ntmps3
  go_upto_if 13 with (go_at_call 6; refine (bytesR ao len cap rk mb sc sr av _ hm hms hc).mono ?_; rintro e w' ⟨q, rfl, hq, rfl⟩)
  cases q
  · go_wp2
    go_ret
    exact ⟨rfl, Below.refl _ _⟩
  have hl := hq rfl
  clear hq
  go_upto_if 15 with (go_at_call 7; refine (tooBig ao len cap rk mb sc sr _ hl hms hc).mono ?_; rintro e w' ⟨q, rfl, hq, rfl⟩)
  cases q
  rotate_left
  · go_wp2
    go_ret
    exact ⟨rfl, Below.refl _ _⟩
  have hl2 := hq rfl
  clear hq hl hm hms
  go_upto_region 6 with (go_at_call 8; refine (toEnt ao len cap rk mb sc sr _ hl2 hc).mono ?_; rintro e w1 ⟨rfl, ⟨c1, hb1, he1⟩, hbel1⟩)
  have HB1 : Hid (Blk w1 w.heap.size c1) := hb1
  have HE1 : Hid (Ent c1 len len rk mb sc sr) := he1
  have HW1 : Hid (Below w.heap.size w w1) := hbel1
  clear hb1 he1 hbel1
  go_upto_region 7 with (go_at_call 9; refine (zzshare_any w.heap.size len c1 rk mb sc sr av _ hl2 HB1.out HE1.out).mono ?_; rintro e w2 ⟨rfl, ⟨c2, hb2, he2⟩, hg2⟩)
  have HB2 : Hid (Blk w2 w.heap.size c2) := hb2
  have HE2 : Hid (Ent c2 len len rk mb sc (shZ av rk sc)) := he2
  have HW2 : Hid (Below w.heap.size w w2) := HW1.out.grown hg2 HW1.out.size (fun k hk => by injection hk with hk; omega)
  have HR2 : Hid (Row4 w2 ao len rk mb sc sr) := row4_below hc HW2.out
  clear hb2 he2 hg2 HB1 HE1 HW1 hc
  go_wp2
  go_loopg [6, 7] len (fun g s6 s7 wr => ∃ i : Nat, i ≤ len ∧ g = len - i ∧ s7 = .int .i64 i ∧ s6 = .int .i64 ((stZ sc (i - 1) : Nat) : Int) ∧ Hid (Below w2.heap.size w2 wr))
  case atStart => exact ⟨0, by omega, rfl, rfl, rfl, Below.refl _ _⟩
  case round =>
    obtain ⟨i, hi, rfl, rfl, rfl, HW⟩ := hrel
    by_cases hlt : i < len
    · obtain ⟨b, off, rfl, hcc⟩ := HR2.out (by omega)
      have hsl := stZ_le sc i
      have hsl' := stZ_le sc (i - 1)
      go_upto_region 13 with fail
      go_cut [47] from 26 to 93 (fun s47 wx => ∃ q : Bool, s47 = .bool q ∧ ((q = true ∧ Hid (stZ sc i = i)) ∨ (q = false ∧ Hid (stZ sc i = stZ sc (i - 1)))) ∧ Hid (Below w2.heap.size w2 wx))
      case first =>
        obtain ⟨r0, r1, r2, r3⟩ := hcc i hlt
        have q2 := cell_later HW.out r2
        rcases Nat.eq_zero_or_pos i with h0 | h0
        · subst h0
          clear r0 r1 r2 r3 hcc
          go_quiet (fail)
          go_wp2
          go_meet
          case rel => exact ⟨false, rfl, .inr ⟨rfl, by simp [Hid]⟩, below_drewN HW.out _⟩
        · obtain ⟨p0, p1, p2, p3⟩ := hcc (i - 1) (by omega)
          have d2 := cell_later HW.out p2
          clear r0 r1 r2 r3 p0 p1 p2 p3 hcc
          cases hq : (sc i == sc (i - 1))
          · go_quiet (fail)
            go_wp2
            go_meet
            case rel => exact ⟨true, by simp [bne, hq], .inl ⟨rfl, stZ_new h0 hq⟩, below_drewN HW.out _⟩
          · go_quiet (fail)
            go_wp2
            go_meet
            case rel => exact ⟨false, by simp [bne, hq], .inr ⟨rfl, stZ_same h0 hq⟩, below_drewN HW.out _⟩
      case rest =>
        obtain ⟨q, rfl, hqs, HW3⟩ := hcut
        go_upto_if 47 with fail
        go_cut [6] from 26 to 93 (fun s6 wx => s6 = .int .i64 ((stZ sc i : Nat) : Int) ∧ Hid (Below w2.heap.size w2 wx))
        case first =>
          rcases hqs with ⟨rfl, H1⟩ | ⟨rfl, H1⟩
          · go_wp2
            go_meet
            case rel => exact ⟨by rw [H1.out], HW3⟩
          · go_wp2
            go_meet
            case rel => exact ⟨by rw [H1.out], HW3⟩
        case rest =>
          obtain ⟨rfl, HW4⟩ := hcut
          clear hqs HW3 HW
          go_upto_if 52 with fail
          go_cut [8] from 26 to 93 (fun s8 wx => s8 = .int .i64 (shZ av rk sc i) ∧ Hid (Below w2.heap.size w2 wx))
          case first =>
            obtain ⟨p0, p1, p2, p3⟩ := hcc (stZ sc i) (by omega)
            have d0 := cell_later HW4.out p0
            have HS : Hid (shZ av rk sc i = if 0 < stZ sc i then rk (stZ sc i) else wrap64 (av + 1)) := sh_st av rk sc i
            clear p0 p1 p2 p3 hcc hsl'
            by_cases hz : 0 < stZ sc i
            · go_wp2
              go_meet
              case rel => exact ⟨by rw [HS.out, if_pos hz], HW4⟩
            · go_wp2
              go_meet
              case rel => exact ⟨by rw [HS.out, if_neg hz], HW4⟩
          case rest =>
            obtain ⟨rfl, HW5⟩ := hcut
            clear HW4 hsl hsl'
            obtain ⟨r0, r1, r2, r3⟩ := hcc i hlt
            have q0 := cell_later HW5.out r0
            have q1 := cell_later HW5.out r1
            have q2 := cell_later HW5.out r2
            obtain ⟨e0, e1, e2, e3⟩ := HE2.out.2 i hlt
            have x0 := cell_later HW5.out (blk_cell HB2.out e0)
            have x1 := cell_later HW5.out (blk_cell HB2.out e1)
            have x2 := cell_later HW5.out (blk_cell HB2.out e2)
            have x3 := cell_later HW5.out (blk_cell HB2.out e3)
            have hb := World.block_lt_of_cell? _ _ q0
            have hT := World.block_lt_of_cell? _ _ x0
            clear r0 r1 r2 r3 e0 e1 e2 e3 hcc
            go_wp2
            go_quiet (fail)
            go_wp2
            go_roundg (len - (i + 1))
            case measure => go_light; omega
            case rel => go_light; exact ⟨i + 1, by omega, rfl, by go_num, by rw [Nat.add_sub_cancel], below_drewN (HW5.out.alloc HW5.out.size _) _⟩
    · go_wp2
      go_ret
      exact ⟨rfl, HW2.out.trans (HW.out.mono HW2.out.size)⟩
end Go.Proofs.Qxb6605393aMods
