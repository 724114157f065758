import Derived.Test.Qxb6605393aModsEnt
namespace Go.Proofs.Qxb6605393aMods
open Go.ChangeShapes Go.WideShapes Go.ChangeAt Go.RowKit

/-- The shared rank of entry i. -/
def shZ (av : Int) (rk sc : Nat → Int) : Nat → Int
  | 0 => wrap64 (av + 1)
  | k + 1 => if sc (k + 1) = sc k then shZ av rk sc k else rk (k + 1)

/-- The shared ranks behind k rounds. -/
def mixZ (k : Nat) (f g : Nat → Int) (i : Nat) : Int := if i < k then f i else g i

theorem ent_share {c : Array Value} {n k : Nat} {rk : Nat → Int} {mb : Nat → ByteArray} {sc f g : Nat → Int} {v : Int} (h : Ent c n n rk mb sc (mixZ k f g)) (hk : k < n) (hv : f k = v) :
    Ent (c.setIfInBounds (k * 4 + 3) (.int .i64 v)) n n rk mb sc (mixZ (k + 1) f g) := by
  subst hv
  obtain ⟨hs, h⟩ := h
  refine ⟨by simp [hs], fun i hi => ?_⟩
  obtain ⟨h0, h1, h2, h3⟩ := h i hi
  refine ⟨?_, ?_, ?_, ?_⟩
  · rw [Array.getElem?_setIfInBounds, if_neg (by omega)]; exact h0
  · rw [Array.getElem?_setIfInBounds, if_neg (by omega)]; exact h1
  · rw [Array.getElem?_setIfInBounds, if_neg (by omega)]; exact h2
  · rw [Array.getElem?_setIfInBounds]
    by_cases e : i = k
    · subst e; rw [if_pos rfl, if_pos (by omega)]; simp [mixZ]
    · rw [if_neg (by omega), h3]
      unfold mixZ
      by_cases hik : i < k
      · rw [if_pos hik, if_pos (by omega)]
      · rw [if_neg hik, if_neg (by omega)]

theorem ent_done {c : Array Value} {n : Nat} {rk : Nat → Int} {mb : Nat → ByteArray} {sc f g : Nat → Int} (h : Ent c n n rk mb sc (mixZ n f g)) : Ent c n n rk mb sc f := by
  refine ⟨h.1, fun i hi => ?_⟩
  have := h.2 i hi
  unfold mixZ at this
  rw [if_pos hi] at this
  exact this

def Shared (w w' : World) (T n : Nat) (rk : Nat → Int) (mb : Nat → ByteArray) (sc sr : Nat → Int) : Prop := (∃ c, Blk w' T c ∧ Ent c n n rk mb sc sr) ∧ w.grownBy w' (some T)

theorem grown_set {w w' : World} {T : Nat} (h : w.grownBy w' (some T)) (j : Nat) (v : Value) : w.grownBy (w'.setCell ⟨T, j, none⟩ v) (some T) :=
  h.trans ⟨rfl, rfl, rfl, by simp [World.setCell], fun k _ hne => heap_setCell_other _ _ _ _ (fun e => hne (by rw [e]))⟩
theorem grown_drewN {w w' : World} {r : Option Nat} (h : w.grownBy w' r) (q : Nat) : w.grownBy (w'.drewN q) r := ⟨h.os, h.tape, h.output, h.size, h.block⟩

set_option maxRecDepth 100000 in
set_option maxHeartbeats 1000000 in
theorem share_any (T n : Nat) (c0 : Array Value) (rk : Nat → Int) (mb : Nat → ByteArray) (sc sr : Nat → Int) (av : Int) (w : World) (hm : n ≤ 26214) (hb : Blk w T c0) (he : Ent c0 n n rk mb sc sr) :
    Calls Trym.prog 16 #[.slice (some ⟨T, 0, none⟩) n n, .int .i64 av] w fun e w' => e = .returned (.tuple #[]) ∧ Shared w w' T n rk mb sc (shZ av rk sc) := by
  have HB0 : Hid (Blk w T c0) := hb
  have HE0 : Hid (Ent c0 n n rk mb sc sr) := he
  clear hb he
  go_enter Trym.func16, Trym.ntmps16
  go_wp2
  go_loopw [7] (fun s7 wr => ∃ (k : Nat) (c : Array Value), k ≤ n ∧ s7 = .int .i64 k ∧ Hid (Blk wr T c) ∧ Hid (Ent c n n rk mb sc (mixZ k (shZ av rk sc) sr)) ∧ Hid (w.grownBy wr (some T))) (fun s7 _ => n - (intOf s7).toNat)
  case atStart => exact ⟨0, _, by omega, rfl, HB0, HE0, World.grownBy.refl _ _⟩
  case round =>
    obtain ⟨k, c, hk, rfl, HB, HE, HG⟩ := hrel
    clear HB0 HE0
    by_cases hlt : k < n
    · obtain ⟨hs, hent⟩ := HE.out
      obtain ⟨e0, e1, e2, e3⟩ := hent k hlt
      have f3 := blk_free HB.out (k * 4 + 3)
      have c0 := blk_cell HB.out e0
      have c2 := blk_cell HB.out e2
      have c3 := blk_cell HB.out e3
      clear e0 e1 e2 e3 hs
      rcases Nat.eq_zero_or_pos k with h0 | h0
      · subst h0
        clear hent
        simp only [Nat.zero_mul, Nat.zero_add] at f3 c0 c2 c3
        go_wp2
        go_roundw
        case rel => exact ⟨1, _, by omega, rfl, blk_put HB.out _ _, ent_share HE.out hlt rfl, grown_set HG.out _ _⟩
        case measure => simp [intOf]; omega
      · obtain ⟨p0, p1, p2, p3⟩ := hent (k - 1) (by omega)
        have d2 := blk_cell HB.out p2
        have d3 := blk_cell HB.out p3
        have hmix : mixZ k (shZ av rk sc) sr (k - 1) = shZ av rk sc (k - 1) := by unfold mixZ; rw [if_pos (by omega)]
        rw [hmix] at d3
        clear hent p0 p1 p2 p3 hmix
        have hsh : shZ av rk sc k = if sc k = sc (k - 1) then shZ av rk sc (k - 1) else rk k := by
          obtain ⟨j, rfl⟩ : ∃ j, k = j + 1 := ⟨k - 1, by omega⟩
          rfl
        cases hq : (sc k == sc (k - 1))
        · have HV : Hid (shZ av rk sc k = rk k) := by unfold Hid; rw [hsh, if_neg (by simpa using hq)]
          clear hsh
          go_wp2
          go_quiet (fail)
          go_wp2
          go_roundw
          case rel => exact ⟨k + 1, _, by omega, by go_num, blk_put (w := World.drewN _ _) HB.out _ _, ent_share HE.out hlt HV.out, grown_set (grown_drewN HG.out _) _ _⟩
          case measure => simp [intOf]; omega
        · have HV : Hid (shZ av rk sc k = shZ av rk sc (k - 1)) := by unfold Hid; rw [hsh, if_pos (by simpa using hq)]
          clear hsh
          go_wp2
          go_quiet (fail)
          go_wp2
          go_roundw
          case rel => exact ⟨k + 1, _, by omega, by go_num, blk_put (w := World.drewN _ _) HB.out _ _, ent_share HE.out hlt HV.out, grown_set (grown_drewN HG.out _) _ _⟩
          case measure => simp [intOf]; omega
    · obtain rfl : k = n := by omega
      go_wp2
      go_end0
      exact ⟨rfl, ⟨c, HB.out, ent_done HE.out⟩, HG.out⟩

set_option maxRecDepth 100000 in
theorem zzshare_any (T n : Nat) (c0 : Array Value) (rk : Nat → Int) (mb : Nat → ByteArray) (sc sr : Nat → Int) (av : Int) (w : World) (hm : n ≤ 26214) (hb : Blk w T c0) (he : Ent c0 n n rk mb sc sr) :
    Calls Trym.prog 9 #[.slice (some ⟨T, 0, none⟩) n n, .int .i64 av] w fun e w' => e = .returned (.tuple #[]) ∧ Shared w w' T n rk mb sc (shZ av rk sc) := by
  go_enter Trym.func9, Trym.ntmps9
  go_wp2_with fail
  refine (share_any T n c0 rk mb sc sr av _ hm hb he).mono ?_
  rintro e w' ⟨rfl, hs⟩
  go_wp2
  go_end0
  exact ⟨rfl, hs⟩
end Go.Proofs.Qxb6605393aMods
