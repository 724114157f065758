import Derived.Test.Qxb6602081aModsRows
import Derived.WalkKit
import Derived.ProofKit
import Derived.WalkSpells
import Derived.WalkLawsBesides
import Derived.Deep.QuietTactic
import Derived.BigQuiet
import Derived.Deep.DeepCutAuto
import Derived.Deep.CutBlock
import Derived.Deep.Light
import Derived.Deep.OwnRows
import Derived.WalkSmall
namespace Go.Proofs.Qxb6602081aMods
open Go.ChangeShapes Go.WideShapes Go.ChangeAt Go.RowKit

def Row8 (w : World) (ao : Option Addr) (n : Nat) (f : Nat → Int) : Prop :=
  0 < n → ∃ b off, ao = some ⟨b, off, none⟩ ∧ ∀ i, i < n → w.cell? ⟨b, off + i, none⟩ = some (.int .u8 (f i))
theorem row_below {w w' : World} {ao : Option Addr} {n : Nat} {f : Nat → Int} (h : Row8 w ao n f) (hb : Below w.heap.size w w') : Row8 w' ao n f := by
  intro hn
  obtain ⟨b, off, e, hc⟩ := h hn
  exact ⟨b, off, e, fun i hi => cell_later hb (hc i hi)⟩
theorem info5' : (Trym.prog.info? 5).map (fun i => (i.zero, i.size, i.bytes)) = some (some (.int .u8 0), 1, 1) := by kernel_rfl
theorem copy_next {α : Type} {c : Array α} {k : Nat} {F : Nat → α} (hk : k < c.size) (h : ∀ i, i < k → c[i]? = some (F i)) : ∀ i, i < k + 1 → (c.setIfInBounds k (F k))[i]? = some (F i) := by
  intro i hi
  rw [Array.getElem?_setIfInBounds]
  by_cases e : k = i
  · subst e; rw [if_pos rfl, if_pos hk]
  · rw [if_neg e, h i (by omega)]

set_option maxRecDepth 100000 in
set_option maxHeartbeats 1000000 in
theorem clone_any (ao : Option Addr) (len cap : Nat) (f : Nat → Int) (w : World) (hm : len ≤ 1048576) (hn : ao = none → len = 0) (hc : Row8 w ao len f) :
    Calls Trym.prog 8 #[.slice ao len cap] w fun e w' => ∃ ao', e = .returned (.slice ao' len len) ∧ Row8 w' ao' len f ∧ Below w.heap.size w w' := by
  have hq := fun wx => Lib.run_eql_slice_nil (P := Trym.prog) wx 22 5 ao len cap 0 0 Trym.underlying22
  cases ao with
  | none =>
    obtain rfl := hn rfl
    go_enter Trym.func8, Trym.ntmps8
    go_wp2
    go_ret
    exact ⟨none, rfl, fun h => absurd h (by omega), Below.refl _ _⟩
  | some a =>
    have hmk := run_make_row' (P := Trym.prog) 22 5 (.int .u8 0) 1 Trym.underlying22 info5' rfl .i64 .i64 len (by omega) (by omega)
    simp only [Option.isNone_some] at hq
    clear hn
    go_enter Trym.func8, Trym.ntmps8
    go_wp2
    go_loopw [4] (fun s4 wr => ∃ (k : Nat) (c : Array Value), k ≤ len ∧ s4 = .int .i64 k ∧ c.size = len ∧ Hid (∀ i, i < k → c[i]? = some (.int .u8 (f i))) ∧ wr = w.alloc (.cells c 5)) (fun s4 _ => len - (intOf s4).toNat)
    case atStart => exact ⟨0, _, by omega, rfl, size_madeCells _ _, fun i hi => absurd hi (by omega), rfl⟩
    case round =>
      obtain ⟨k, c, hk, rfl, hcs, HC, rfl⟩ := hrel
      by_cases hlt : k < len
      · obtain ⟨b, off, e, hcc⟩ := hc (by omega)
        injection e with e
        subst e
        have hck := hcc k hlt
        have hb := World.block_lt_of_cell? _ _ hck
        obtain ⟨u0, hu0⟩ : ∃ u, c[k]? = some u := ⟨_, Array.getElem?_eq_getElem (by omega)⟩
        have HN : Hid (∀ i, i < k + 1 → (c.setIfInBounds k (.int .u8 (f k)))[i]? = some (Value.int .u8 (f i))) := copy_next (F := fun i => Value.int .u8 (f i)) (by omega) HC.out
        clear hcc hc hmk hq
        go_wp2
        go_roundw
        case rel => exact ⟨k + 1, _, by omega, by go_num, by simp [hcs], HN, rfl⟩
        case measure => simp [intOf]; omega
      · obtain rfl : k = len := by omega
        go_wp2
        go_ret
        refine ⟨some ⟨w.heap.size, 0, none⟩, rfl, fun _ => ⟨_, _, rfl, fun i hi => ?_⟩, (Below.refl _ _).alloc (Nat.le_refl _) _⟩
        rw [Nat.zero_add, World.cell?_alloc_at _ _ _ _ rfl]
        exact HC.out i hi

/-- JSON white space. -/
def spB (c : Int) : Bool := decide (c = 32 ∨ c = 9 ∨ c = 10 ∨ c = 13)
theorem spB_yes {c : Int} (h : c = 32 ∨ c = 9 ∨ c = 10 ∨ c = 13) : spB c = true := by simp [spB, h]
theorem spB_no {c : Int} (h : ¬ (c = 32 ∨ c = 9 ∨ c = 10 ∨ c = 13)) : spB c = false := by simpa [spB] using h

theorem ret_bool {a b : Bool} (h : a = b) : Ending.returned (.bool a) = .returned (.bool b) := by rw [h]

set_option maxRecDepth 100000 in
set_option maxHeartbeats 1000000 in
theorem isSpace (c : Int) (w : World) (h0 : 0 ≤ c) (h1 : c ≤ 255) : Calls Trym.prog 10 #[.int .u8 c] w fun e w' => e = .returned (.bool (spB c)) ∧ w = w' := by
  by_cases a1 : c = 32
  · subst a1
    go_enter Trym.func10, Trym.ntmps10
    go_wp2
    go_ret
    exact ⟨rfl, rfl⟩
  by_cases a2 : c = 9
  · subst a2
    go_enter Trym.func10, Trym.ntmps10
    go_wp2
    go_ret
    exact ⟨rfl, rfl⟩
  by_cases a3 : c = 10
  · subst a3
    go_enter Trym.func10, Trym.ntmps10
    go_wp2
    go_ret
    exact ⟨rfl, rfl⟩
  by_cases a4 : c = 13
  · subst a4
    go_enter Trym.func10, Trym.ntmps10
    go_wp2
    go_ret
    exact ⟨rfl, rfl⟩
  have b1 : (c == 32) = false := by simpa using a1
  have b2 : (c == 9) = false := by simpa using a2
  have b3 : (c == 10) = false := by simpa using a3
  have b4 : (c == 13) = false := by simpa using a4
  have hs : spB c = false := spB_no (by omega)
  have HS : Hid (spB c = false) := hs
  clear a1 a2 a3 a4 hs
  go_enter Trym.func10, Trym.ntmps10
  go_wp2
  go_ret
  exact ⟨ret_bool HS.out.symm, rfl⟩

/-- Where 'skipSpace' stops. -/
def Stops (i n : Nat) (f : Nat → Int) (r : Nat) : Prop := i ≤ r ∧ (n ≤ i → r = i) ∧ (i ≤ n → r ≤ n) ∧ (∀ j, i ≤ j → j < r → spB (f j) = true) ∧ (i < n → r < n → spB (f r) = false)
def SkipTo (i n : Nat) (f : Nat → Int) (w : World) (e : Ending) (w' : World) : Prop := ∃ r : Nat, e = .returned (.int .i64 r) ∧ Stops i n f r ∧ w = w'

set_option maxRecDepth 100000 in
set_option maxHeartbeats 2000000 in
theorem skip_any (ao : Option Addr) (len cap i : Nat) (f : Nat → Int) (w : World) (hm : len ≤ 1048576) (hf : ∀ i, 0 ≤ f i ∧ f i ≤ 255) (hc : Row8 w ao len f) :
    Calls Trym.prog 17 #[.slice ao len cap, .int .i64 i] w fun e w' => SkipTo i len f w e w' := by
  go_enter Trym.func17, Trym.ntmps17
  go_wp2
  go_loop [1] (fun s1 => ∃ k : Nat, i ≤ k ∧ (k = i ∨ k ≤ len) ∧ s1 = .int .i64 k ∧ Hid (∀ j, i ≤ j → j < k → spB (f j) = true)) (fun s1 => len - (intOf s1).toNat)
  case atStart => exact ⟨i, by omega, .inl rfl, rfl, fun j h1 h2 => absurd h2 (by omega)⟩
  case round =>
    obtain ⟨k, hik, hkl, rfl, HS⟩ := hrel
    have HK : Hid (k = i ∨ k ≤ len) := hkl
    clear hkl
    by_cases hlt : k < len
    · obtain ⟨b, off, rfl, hcc⟩ := hc (by omega)
      have hck := hcc k hlt
      have hfk := hf k
      clear hcc hc hf
      cases hs : spB (f k)
      · have hno : ¬ (f k = 32 ∨ f k = 9 ∨ f k = 10 ∨ f k = 13) := by simpa [spB] using hs
        have b1 : (f k == 32) = false := by simp; omega
        have b2 : (f k == 9) = false := by simp; omega
        have b3 : (f k == 10) = false := by simp; omega
        have b4 : (f k == 13) = false := by simp; omega
        have HF : Hid (spB (f k) = false) := hs
        clear hno hs
        go_wp2
        go_ret
        exact ⟨k, rfl, ⟨hik, fun h => (by have := HK.out; omega), fun h => by omega, HS.out, fun _ _ => HF.out⟩, rfl⟩
      · have hyes : f k = 32 ∨ f k = 9 ∨ f k = 10 ∨ f k = 13 := by simpa [spB] using hs
        have HN : Hid (∀ j, i ≤ j → j < k + 1 → spB (f j) = true) := fun j h1 h2 => if e : j = k then by subst e; exact hs else HS.out j h1 (by omega)
        clear hs
        rcases hyes with h | h | h | h
        · have b1 : (f k == 32) = true := by simpa using h
          clear h
          go_wp2
          go_round
          case rel => exact ⟨k + 1, by omega, .inr (by omega), by go_num, HN⟩
          case measure => simp [intOf]; omega
        · have b1 : (f k == 32) = false := by rw [h]; rfl
          have b2 : (f k == 9) = true := by simpa using h
          clear h
          go_wp2
          go_round
          case rel => exact ⟨k + 1, by omega, .inr (by omega), by go_num, HN⟩
          case measure => simp [intOf]; omega
        · have b1 : (f k == 32) = false := by rw [h]; rfl
          have b2 : (f k == 9) = false := by rw [h]; rfl
          have b3 : (f k == 10) = true := by simpa using h
          clear h
          go_wp2
          go_round
          case rel => exact ⟨k + 1, by omega, .inr (by omega), by go_num, HN⟩
          case measure => simp [intOf]; omega
        · have b1 : (f k == 32) = false := by rw [h]; rfl
          have b2 : (f k == 9) = false := by rw [h]; rfl
          have b3 : (f k == 10) = false := by rw [h]; rfl
          have b4 : (f k == 13) = true := by simpa using h
          clear h
          go_wp2
          go_round
          case rel => exact ⟨k + 1, by omega, .inr (by omega), by go_num, HN⟩
          case measure => simp [intOf]; omega
    · have hd : decide ((k : Int) < (len : Int)) = false := by simp; omega
      go_wp2
      go_ret
      exact ⟨k, rfl, ⟨hik, fun h => (by have := HK.out; omega), fun h => (by have := HK.out; omega), HS.out, fun _ h => absurd h hlt⟩, rfl⟩

set_option maxRecDepth 100000 in
theorem zzskip_any (ao : Option Addr) (len cap i : Nat) (f : Nat → Int) (w : World) (hm : len ≤ 1048576) (hf : ∀ i, 0 ≤ f i ∧ f i ≤ 255) (hc : Row8 w ao len f) :
    Calls Trym.prog 9 #[.slice ao len cap, .int .i64 i] w fun e w' => SkipTo i len f w e w' := by
  go_enter Trym.func9, Trym.ntmps9
  go_wp2_with fail
  refine (skip_any ao len cap i f _ hm hf hc).mono ?_
  rintro e w' ⟨r, rfl, hs, rfl⟩
  have HS : Hid (Stops i len f r) := hs
  clear hs
  go_wp2
  go_ret
  exact ⟨r, rfl, HS.out, rfl⟩

set_option maxRecDepth 100000 in
theorem bytes_no (ao : Option Addr) (len cap : Nat) (i : Int) (w : World) (h : 1048576 < len) (hm : len ≤ 9223372036854775807) :
    Calls Trym.prog 7 #[.slice ao len cap, .int .i64 i] w fun e w' => e = .returned (.bool false) ∧ w = w' := by
  go_enter Trym.func7, Trym.ntmps7
  go_wp2
  go_ret
  exact ⟨rfl, rfl⟩
set_option maxRecDepth 100000 in
theorem bytes_yes (ao : Option Addr) (len cap : Nat) (i : Int) (w : World) (h : len ≤ 1048576) :
    Calls Trym.prog 7 #[.slice ao len cap, .int .i64 i] w fun e w' => e = .returned (.bool true) ∧ w = w' := by
  go_enter Trym.func7, Trym.ntmps7
  go_wp2
  go_ret
  exact ⟨rfl, rfl⟩

/-- A counter between i and r. -/
def Mid (i r : Nat) (v : Value) : Prop := ∃ k : Nat, i ≤ k ∧ k ≤ r ∧ v = .int .i64 k

set_option maxRecDepth 100000 in
set_option maxHeartbeats 2000000 in
theorem spec_in (ao : Option Addr) (len cap i : Nat) (f : Nat → Int) (w : World) (hm : len ≤ 1048576) (hn : ao = none → len = 0) (hf : ∀ i, 0 ≤ f i ∧ f i ≤ 255) (hc : Row8 w ao len f) :
    Calls Trym.prog 3 #[.slice ao len cap, .int .i64 i] w fun e w' => e = .returned (.bool true) ∧ Below w.heap.size w w' := by
  have HF : Hid (∀ i, 0 ≤ f i ∧ f i ≤ 255) := hf
  clear hf
  go_enter Trym.func3, Trym.ntmps3
  go_upto_region 8 with (first | (go_at_call 7; refine (bytes_yes ao len cap i _ hm).mono ?_; rintro e w' ⟨rfl, rfl⟩) | (go_at_call 8; refine (clone_any ao len cap f _ hm hn hc).mono ?_; rintro e w1 ⟨x, rfl, hr, hb⟩))
  have HR : Hid (Row8 w1 x len f) := hr
  have HB : Hid (Below w.heap.size w w1) := hb
  clear hr hb hc hn
  go_upto_region 9 with (go_at_call 9; refine (zzskip_any x len len i f _ hm HF.out HR.out).mono ?_; rintro e w' ⟨r, rfl, ⟨hs1, hs2, hs3, hs4, hs5⟩, rfl⟩)
  have H4 : Hid (∀ j, i ≤ j → j < r → spB (f j) = true) := hs4
  have H5 : Hid (i < len → r < len → spB (f r) = false) := hs5
  have H2 : Hid (len ≤ i → r = i) := hs2
  have H3 : Hid (i ≤ len → r ≤ len) := hs3
  clear hs2 hs3 hs4 hs5
  by_cases hil : i < len
  · have hrl : r ≤ len := H3.out (by omega)
    go_upto_region 13 with fail
    go_cut [6] from 7 to 37 (fun s6 wx => s6 = .int .i64 i ∧ w1 = wx)
    case first =>
      go_wp2
      go_meet
      case rel => exact ⟨rfl, rfl⟩
    case rest =>
    obtain ⟨rfl, rfl⟩ := hcut
    go_wp2
    go_loop [6] (fun s6 => Mid i r s6) (fun s6 => r - (intOf s6).toNat)
    case atStart => exact ⟨i, by omega, hs1, rfl⟩
    case round =>
      obtain ⟨k, hk1, hk2, rfl⟩ := hrel
      by_cases hlt : k < r
      · obtain ⟨b, off, rfl, hcc⟩ := HR.out (by omega)
        have hck := hcc k (by omega)
        have hsp := H4.out k hk1 hlt
        have hfk := HF.out k
        clear hcc
        go_wp2_with (go_at_call 10; refine (isSpace (f k) _ hfk.1 hfk.2).mono ?_; rintro e w' ⟨rfl, rfl⟩)
        go_round
        case rel => exact ⟨k + 1, by omega, by omega, by go_num⟩
        case measure => simp [intOf]; omega
      · by_cases hre : r = len
        · have hq : ((r : Int) == (len : Int)) = true := by simp [hre]
          have hq2 : (r == len) = true := by simp [hre]
          clear hre
          go_wp2_with fail
          go_ret
          exact ⟨rfl, HB.out⟩
        · have hq : ((r : Int) == (len : Int)) = false := by simp; omega
          have hq2 : (r == len) = false := by simpa using hre
          have hr2 : r < len := by omega
          obtain ⟨b, off, rfl, hcc⟩ := HR.out (by omega)
          have hck := hcc r (by omega)
          have hsp := H5.out hil (by omega)
          have hfk := HF.out r
          clear hcc hre
          go_wp2_with (go_at_call 10; refine (isSpace (f r) _ hfk.1 hfk.2).mono ?_; rintro e w' ⟨rfl, rfl⟩)
          go_ret
          exact ⟨rfl, HB.out⟩
  · have e := H2.out (by omega)
    subst e
    go_wp2
    go_ret
    exact ⟨by simp, HB.out⟩

set_option maxRecDepth 100000 in
theorem spec_out (ao : Option Addr) (len cap : Nat) (i : Int) (w : World) (hm : len ≤ 9223372036854775807) (h : 1048576 < len ∨ (len ≤ 1048576 ∧ i < 0)) :
    Calls Trym.prog 3 #[.slice ao len cap, .int .i64 i] w fun e w' => e = .returned (.bool true) ∧ Below w.heap.size w w' := by
  rcases h with h | ⟨h, h2⟩
  · go_enter Trym.func3, Trym.ntmps3
    go_wp2_with (go_at_call 7; refine (bytes_no ao len cap i _ h hm).mono ?_; rintro e w' ⟨rfl, rfl⟩)
    go_ret
    exact ⟨rfl, Below.refl _ _⟩
  · go_enter Trym.func3, Trym.ntmps3
    go_wp2_with (go_at_call 7; refine (bytes_yes ao len cap i _ h).mono ?_; rintro e w' ⟨rfl, rfl⟩)
    go_ret
    exact ⟨rfl, Below.refl _ _⟩
end Go.Proofs.Qxb6602081aMods
