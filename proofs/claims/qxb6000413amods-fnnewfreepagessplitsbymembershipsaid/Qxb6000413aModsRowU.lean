import Derived.Test.Qxb6000413aModsRows
import Derived.Test.Qxb6000413aModsPages
import Derived.WalkKit
import Derived.ProofKit
import Derived.WalkSpells
import Derived.WalkLawsBesides
import Derived.Deep.QuietTactic
import Derived.BigQuiet
import Derived.Deep.DeepCutAuto
import Derived.Deep.CutBlock
import Derived.Deep.Light
import Derived.Deep.OwnRows
import Derived.WalkSmall
namespace Go.Proofs.Qxb6000413aMods
open Go.ChangeShapes Go.WideShapes Go.ChangeAt Go.RowKit
open Pg

theorem info32 : (Trym.prog.info? 32).map (fun i => (i.zero, i.size, i.bytes)) = some (some (.int .u64 0), 1, 8) := by kernel_rfl
theorem info46 : (Trym.prog.info? 46).map (fun i => (i.zero, i.size, i.bytes)) = some (some (.int .u64 0), 1, 8) := by kernel_rfl

/-- A row of uint64: its numbers by an index function. -/
def RowU (w : World) (ao : Option Addr) (n : Nat) (f : Nat → Int) : Prop :=
  0 < n → ∃ b off, ao = some ⟨b, off, none⟩ ∧ ∀ i, i < n → w.cell? ⟨b, off + i, none⟩ = some (.int .u64 (f i))
theorem rowU_below {w w' : World} {ao : Option Addr} {n : Nat} {f : Nat → Int} (h : RowU w ao n f) (hb : Below w.heap.size w w') : RowU w' ao n f := by
  intro hn
  obtain ⟨b, off, e, hc⟩ := h hn
  exact ⟨b, off, e, fun i hi => cell_later hb (hc i hi)⟩

/-- A fresh row: nil, or all of the first new block. -/
def MadeU (w w' : World) (t : TypeId) (ao : Option Addr) (n : Nat) (f : Nat → Int) : Prop :=
  (ao = none ∧ n = 0) ∨ ∃ c, ao = some ⟨w.heap.size, 0, none⟩ ∧ w'.heap[w.heap.size]? = some (.cells c t (0, 0)) ∧ c.size = n ∧ ∀ i, i < n → c[i]? = some (.int .u64 (f i))
theorem made_row {w w' : World} {t : TypeId} {ao : Option Addr} {n : Nat} {f : Nat → Int} (h : MadeU w w' t ao n f) : RowU w' ao n f := by
  intro hn
  rcases h with ⟨_, h⟩ | ⟨c, e, hb, hs, hc⟩
  · omega
  · exact ⟨_, _, e, fun i hi => by rw [Nat.zero_add, cell_of_row _ _ _ c t (0, 0) hb]; exact hc i hi⟩
theorem made_nil {w w' : World} {t : TypeId} {ao : Option Addr} {n : Nat} {f : Nat → Int} (h : MadeU w w' t ao n f) : ao = none → n = 0 := by
  rcases h with ⟨_, h⟩ | ⟨c, e, _⟩
  · exact fun _ => h
  · intro h; rw [e] at h; cases h

theorem copy_next {α : Type} {c : Array α} {k : Nat} {F : Nat → α} (hk : k < c.size) (h : ∀ i, i < k → c[i]? = some (F i)) : ∀ i, i < k + 1 → (c.setIfInBounds k (F k))[i]? = some (F i) := by
  intro i hi
  rw [Array.getElem?_setIfInBounds]
  by_cases e : k = i
  · subst e; rw [if_pos rfl, if_pos hk]
  · rw [if_neg e, h i (by omega)]

/-- What a copying call leaves. -/
def Copied (w : World) (t : TypeId) (n : Nat) (f : Nat → Int) (e : Ending) (w' : World) : Prop := ∃ ao, e = .returned (.slice ao n n) ∧ MadeU w w' t ao n f ∧ Below w.heap.size w w'

set_option maxRecDepth 100000 in
set_option maxHeartbeats 1000000 in
theorem cloneU (ao : Option Addr) (len cap : Nat) (f : Nat → Int) (w : World) (hm : len ≤ 1048576) (hn : ao = none → len = 0) (hc : RowU w ao len f) :
    Calls Trym.prog 15 #[.slice ao len cap] w fun e w' => Copied w 32 len f e w' := by
  have hq := fun wx => Lib.run_eql_slice_nil (P := Trym.prog) wx 25 32 ao len cap 0 0 Trym.underlying25
  cases ao with
  | none =>
    obtain rfl := hn rfl
    go_enter Trym.func15, Trym.ntmps15
    go_wp2
    go_ret
    exact ⟨none, rfl, .inl ⟨rfl, rfl⟩, Below.refl _ _⟩
  | some a =>
    have hmk := run_make_row' (P := Trym.prog) 25 32 (.int .u64 0) 8 Trym.underlying25 info32 rfl .i64 .i64 len (by omega) (by omega)
    simp only [Option.isNone_some] at hq
    clear hn
    go_enter Trym.func15, Trym.ntmps15
    go_wp2
    go_loopw [4] (fun s4 wr => ∃ (k : Nat) (c : Array Value), k ≤ len ∧ s4 = .int .i64 k ∧ c.size = len ∧ Hid (∀ i, i < k → c[i]? = some (.int .u64 (f i))) ∧ wr = w.alloc (.cells c 32)) (fun s4 _ => len - (intOf s4).toNat)
    case atStart => exact ⟨0, _, by omega, rfl, size_madeCells _ _, fun i hi => absurd hi (by omega), rfl⟩
    case round =>
      obtain ⟨k, c, hk, rfl, hcs, HC, rfl⟩ := hrel
      by_cases hlt : k < len
      · obtain ⟨b, off, e, hcc⟩ := hc (by omega)
        injection e with e
        subst e
        have hck := hcc k hlt
        have hb := World.block_lt_of_cell? _ _ hck
        obtain ⟨u0, hu0⟩ : ∃ u, c[k]? = some u := ⟨_, Array.getElem?_eq_getElem (by omega)⟩
        have HN : Hid (∀ i, i < k + 1 → (c.setIfInBounds k (.int .u64 (f k)))[i]? = some (Value.int .u64 (f i))) := copy_next (F := fun i => Value.int .u64 (f i)) (by omega) HC.out
        clear hcc hc hmk hq
        go_wp2
        go_roundw
        case rel => exact ⟨k + 1, _, by omega, by go_num, by simp [hcs], HN, rfl⟩
        case measure => simp [intOf]; omega
      · obtain rfl : k = len := by omega
        go_wp2
        go_ret
        exact ⟨some ⟨w.heap.size, 0, none⟩, rfl, .inr ⟨c, rfl, heap_alloc_new _ _, hcs, HC.out⟩, (Below.refl _ _).alloc (Nat.le_refl _) _⟩

set_option maxRecDepth 100000 in
set_option maxHeartbeats 1000000 in
theorem toPg (ao : Option Addr) (len cap : Nat) (f : Nat → Int) (w : World) (hm : len ≤ 1048576) (hn : ao = none → len = 0) (hc : RowU w ao len f) :
    Calls Trym.prog 27 #[.slice ao len cap] w fun e w' => Copied w 46 len f e w' := by
  have hq := fun wx => Lib.run_eql_slice_nil (P := Trym.prog) wx 25 32 ao len cap 0 0 Trym.underlying25
  cases ao with
  | none =>
    obtain rfl := hn rfl
    go_enter Trym.func27, Trym.ntmps27
    go_wp2
    go_ret
    exact ⟨none, rfl, .inl ⟨rfl, rfl⟩, Below.refl _ _⟩
  | some a =>
    have hmk := run_make_row' (P := Trym.prog) 40 46 (.int .u64 0) 8 Trym.underlying40 info46 rfl .i64 .i64 len (by omega) (by omega)
    simp only [Option.isNone_some] at hq
    clear hn
    go_enter Trym.func27, Trym.ntmps27
    go_wp2
    go_loopw [4] (fun s4 wr => ∃ (k : Nat) (c : Array Value), k ≤ len ∧ s4 = .int .i64 k ∧ c.size = len ∧ Hid (∀ i, i < k → c[i]? = some (.int .u64 (f i))) ∧ wr = w.alloc (.cells c 46)) (fun s4 _ => len - (intOf s4).toNat)
    case atStart => exact ⟨0, _, by omega, rfl, size_madeCells _ _, fun i hi => absurd hi (by omega), rfl⟩
    case round =>
      obtain ⟨k, c, hk, rfl, hcs, HC, rfl⟩ := hrel
      by_cases hlt : k < len
      · obtain ⟨b, off, e, hcc⟩ := hc (by omega)
        injection e with e
        subst e
        have hck := hcc k hlt
        have hb := World.block_lt_of_cell? _ _ hck
        obtain ⟨u0, hu0⟩ : ∃ u, c[k]? = some u := ⟨_, Array.getElem?_eq_getElem (by omega)⟩
        have HN : Hid (∀ i, i < k + 1 → (c.setIfInBounds k (.int .u64 (f k)))[i]? = some (Value.int .u64 (f i))) := copy_next (F := fun i => Value.int .u64 (f i)) (by omega) HC.out
        clear hcc hc hmk hq
        go_wp2
        go_roundw
        case rel => exact ⟨k + 1, _, by omega, by go_num, by simp [hcs], HN, rfl⟩
        case measure => simp [intOf]; omega
      · obtain rfl : k = len := by omega
        go_wp2
        go_ret
        exact ⟨some ⟨w.heap.size, 0, none⟩, rfl, .inr ⟨c, rfl, heap_alloc_new _ _, hcs, HC.out⟩, (Below.refl _ _).alloc (Nat.le_refl _) _⟩

set_option maxRecDepth 100000 in
set_option maxHeartbeats 1000000 in
theorem fromPg (ao : Option Addr) (len cap : Nat) (f : Nat → Int) (w : World) (hm : len ≤ 1048576) (hn : ao = none → len = 0) (hc : RowU w ao len f) :
    Calls Trym.prog 28 #[.slice ao len cap] w fun e w' => Copied w 32 len f e w' := by
  have hq := fun wx => Lib.run_eql_slice_nil (P := Trym.prog) wx 40 46 ao len cap 0 0 Trym.underlying40
  cases ao with
  | none =>
    obtain rfl := hn rfl
    go_enter Trym.func28, Trym.ntmps28
    go_wp2
    go_ret
    exact ⟨none, rfl, .inl ⟨rfl, rfl⟩, Below.refl _ _⟩
  | some a =>
    have hmk := run_make_row' (P := Trym.prog) 25 32 (.int .u64 0) 8 Trym.underlying25 info32 rfl .i64 .i64 len (by omega) (by omega)
    simp only [Option.isNone_some] at hq
    clear hn
    go_enter Trym.func28, Trym.ntmps28
    go_wp2
    go_loopw [4] (fun s4 wr => ∃ (k : Nat) (c : Array Value), k ≤ len ∧ s4 = .int .i64 k ∧ c.size = len ∧ Hid (∀ i, i < k → c[i]? = some (.int .u64 (f i))) ∧ wr = w.alloc (.cells c 32)) (fun s4 _ => len - (intOf s4).toNat)
    case atStart => exact ⟨0, _, by omega, rfl, size_madeCells _ _, fun i hi => absurd hi (by omega), rfl⟩
    case round =>
      obtain ⟨k, c, hk, rfl, hcs, HC, rfl⟩ := hrel
      by_cases hlt : k < len
      · obtain ⟨b, off, e, hcc⟩ := hc (by omega)
        injection e with e
        subst e
        have hck := hcc k hlt
        have hb := World.block_lt_of_cell? _ _ hck
        obtain ⟨u0, hu0⟩ : ∃ u, c[k]? = some u := ⟨_, Array.getElem?_eq_getElem (by omega)⟩
        have HN : Hid (∀ i, i < k + 1 → (c.setIfInBounds k (.int .u64 (f k)))[i]? = some (Value.int .u64 (f i))) := copy_next (F := fun i => Value.int .u64 (f i)) (by omega) HC.out
        clear hcc hc hmk hq
        go_wp2
        go_roundw
        case rel => exact ⟨k + 1, _, by omega, by go_num, by simp [hcs], HN, rfl⟩
        case measure => simp [intOf]; omega
      · obtain rfl : k = len := by omega
        go_wp2
        go_ret
        exact ⟨some ⟨w.heap.size, 0, none⟩, rfl, .inr ⟨c, rfl, heap_alloc_new _ _, hcs, HC.out⟩, (Below.refl _ _).alloc (Nat.le_refl _) _⟩

set_option maxRecDepth 100000 in
set_option maxHeartbeats 1000000 in
theorem bytesP_no (a0 a1 : Option Addr) (n c0 m c1 : Nat) (w : World) (h : 1048576 < n + m) (h0 : n ≤ 9223372036854775807) (h1 : m ≤ 9223372036854775807) :
    Calls Trym.prog 12 #[.slice a0 n c0, .slice a1 m c1] w fun e w' => e = .returned (.bool false) ∧ w = w' := by
  go_enter Trym.func12, Trym.ntmps12
  go_wp2
  all_goals
    go_ret
    exact ⟨rfl, rfl⟩
set_option maxRecDepth 100000 in
set_option maxHeartbeats 1000000 in
theorem bytesP_yes (a0 a1 : Option Addr) (n c0 m c1 : Nat) (w : World) (h : n + m ≤ 1048576) :
    Calls Trym.prog 12 #[.slice a0 n c0, .slice a1 m c1] w fun e w' => e = .returned (.bool true) ∧ w = w' := by
  go_enter Trym.func12, Trym.ntmps12
  go_wp2
  go_ret
  exact ⟨rfl, rfl⟩

/-- An answer that, if it is true, says P; the world has at most been drawn from. -/
def Tells (P : Prop) (w : World) (e : Ending) (w' : World) : Prop := ∃ (q : Bool) (m : Nat), e = .returned (.bool q) ∧ (q = true → P) ∧ w' = w.drewN m

set_option maxRecDepth 100000 in
set_option maxHeartbeats 1000000 in
theorem ascending (ao : Option Addr) (len cap : Nat) (f : Nat → Int) (w : World) (hm : len ≤ 1048576) (hc : RowU w ao len f) :
    Calls Trym.prog 13 #[.slice ao len cap] w fun e w' => Tells (Asc f len) w e w' := by
  go_enter Trym.func13, Trym.ntmps13
  go_wp2
  go_loopw [3] (fun s3 wr => ∃ (k m : Nat), 1 ≤ k ∧ k ≤ len + 1 ∧ s3 = .int .i64 k ∧ Hid (∀ i, 1 ≤ i → i < k → f (i - 1) < f i) ∧ wr = w.drewN m) (fun s3 _ => len + 1 - (intOf s3).toNat)
  case atStart => exact ⟨1, 0, by omega, by omega, rfl, fun i h1 h2 => absurd h2 (by omega), rfl⟩
  case round =>
    obtain ⟨k, m, hk1, hk, rfl, HA, rfl⟩ := hrel
    by_cases hlt : k < len
    · obtain ⟨b, off, rfl, hcc⟩ := hc (by omega)
      have h1 := hcc k hlt
      have h2 := hcc (k - 1) (by omega)
      clear hcc hc
      by_cases hx : f (k - 1) < f k
      · have hx2 : ¬ f k ≤ f (k - 1) := by omega
        go_wp2
        go_quiet (fail)
        go_wp2
        go_roundw
        case rel => exact ⟨k + 1, _, by omega, by omega, by go_num, fun i h1 h2 => if e : i = k then by subst e; exact hx else HA.out i h1 (by omega), rfl⟩
        case measure => simp [intOf]; omega
      · have hx2 : f k ≤ f (k - 1) := by omega
        go_wp2
        go_quiet (fail)
        go_wp2
        go_ret
        exact ⟨false, _, rfl, fun h => (by cases h), World.drewN_drewN _ _ _⟩
    · go_wp2
      go_ret
      exact ⟨true, m, rfl, fun _ i h1 h2 => HA.out i h1 (by omega), rfl⟩

set_option maxRecDepth 100000 in
set_option maxHeartbeats 1000000 in
theorem nondecr (ao : Option Addr) (len cap : Nat) (f : Nat → Int) (w : World) (hm : len ≤ 1048576) (hc : RowU w ao len f) :
    Calls Trym.prog 14 #[.slice ao len cap] w fun e w' => Tells (Nond f len) w e w' := by
  go_enter Trym.func14, Trym.ntmps14
  go_wp2
  go_loopw [3] (fun s3 wr => ∃ (k m : Nat), 1 ≤ k ∧ k ≤ len + 1 ∧ s3 = .int .i64 k ∧ Hid (∀ i, 1 ≤ i → i < k → f (i - 1) ≤ f i) ∧ wr = w.drewN m) (fun s3 _ => len + 1 - (intOf s3).toNat)
  case atStart => exact ⟨1, 0, by omega, by omega, rfl, fun i h1 h2 => absurd h2 (by omega), rfl⟩
  case round =>
    obtain ⟨k, m, hk1, hk, rfl, HA, rfl⟩ := hrel
    by_cases hlt : k < len
    · obtain ⟨b, off, rfl, hcc⟩ := hc (by omega)
      have h1 := hcc k hlt
      have h2 := hcc (k - 1) (by omega)
      clear hcc hc
      by_cases hx : f (k - 1) ≤ f k
      · have hx2 : ¬ f k < f (k - 1) := by omega
        go_wp2
        go_quiet (fail)
        go_wp2
        go_roundw
        case rel => exact ⟨k + 1, _, by omega, by omega, by go_num, fun i h1 h2 => if e : i = k then by subst e; exact hx else HA.out i h1 (by omega), rfl⟩
        case measure => simp [intOf]; omega
      · have hx2 : f k < f (k - 1) := by omega
        go_wp2
        go_quiet (fail)
        go_wp2
        go_ret
        exact ⟨false, _, rfl, fun h => (by cases h), World.drewN_drewN _ _ _⟩
    · go_wp2
      go_ret
      exact ⟨true, m, rfl, fun _ i h1 h2 => HA.out i h1 (by omega), rfl⟩

set_option maxRecDepth 100000 in
set_option maxHeartbeats 1000000 in
theorem has_any (ao : Option Addr) (len cap : Nat) (f : Nat → Int) (x : Int) (w : World) (hm : len ≤ 1048576) (hs : Nond f len) (hc : RowU w ao len f) :
    Calls Trym.prog 17 #[.slice ao len cap, .int .u64 x] w fun e w' => e = .returned (.bool (memB f x len)) ∧ w = w' := by
  have HS : Hid (Nond f len) := hs
  clear hs
  go_enter Trym.func17, Trym.ntmps17
  go_wp2
  go_loop [5, 6] (fun s5 s6 => ∃ (l h : Nat), l ≤ h ∧ h ≤ len ∧ s5 = .int .i64 l ∧ s6 = .int .i64 h ∧ Hid (∀ j, j < l → f j < x) ∧ Hid (∀ j, h ≤ j → j < len → x ≤ f j)) (fun s5 s6 => (intOf s6).toNat - (intOf s5).toNat)
  case atStart => exact ⟨0, len, by omega, by omega, rfl, rfl, fun j hj => absurd hj (by omega), fun j h1 h2 => absurd h2 (by omega)⟩
  case round =>
    obtain ⟨l, h, hlh, hh, rfl, rfl, HL, HH⟩ := hrel
    by_cases hlt : l < h
    · obtain ⟨b, off, rfl, hcc⟩ := hc (by omega)
      have hck := hcc (l + (h - l) / 2) (by omega)
      clear hcc hc
      by_cases hx : f (l + (h - l) / 2) < x
      · go_wp2
        go_round
        case rel =>
          go_light
          refine ⟨l + (h - l) / 2 + 1, h, by omega, hh, by go_num, rfl, fun j hj => ?_, HH⟩
          exact Int.lt_of_le_of_lt (nond_le HS.out j (l + (h - l) / 2) (by omega) (by omega)) hx
        case measure => go_light; simp [intOf]; omega
      · go_wp2
        go_round
        case rel =>
          go_light
          refine ⟨l, l + (h - l) / 2, by omega, by omega, rfl, by go_num, HL, fun j h1 h2 => ?_⟩
          exact Int.le_trans (by omega) (nond_le HS.out (l + (h - l) / 2) j h1 h2)
        case measure => go_light; simp [intOf]; omega
    · obtain rfl : l = h := by omega
      have HM : Hid (memB f x len = (decide (l < len) && (f l == x))) := memB_at HS.out HL.out (fun hp => HH.out l (by omega) hp)
      by_cases hl : l < len
      · obtain ⟨b, off, rfl, hcc⟩ := hc (by omega)
        have hck := hcc l hl
        clear hcc hc
        go_wp2
        go_ret
        exact ⟨by rw [HM.out]; simp [hl], rfl⟩
      · have hd : decide (l < len) = false := by simpa using hl
        go_wp2
        go_ret
        exact ⟨by rw [HM.out]; simp [hl], rfl⟩

set_option maxRecDepth 100000 in
set_option maxHeartbeats 1000000 in
theorem equal_any (a0 a1 : Option Addr) (n c0 c1 : Nat) (f g : Nat → Int) (w : World) (hm : n ≤ 1048576) (hfg : ∀ i, i < n → f i = g i) (h0 : RowU w a0 n f) (h1 : RowU w a1 n g) :
    Calls Trym.prog 18 #[.slice a0 n c0, .slice a1 n c1] w fun e w' => e = .returned (.bool true) ∧ ∃ m, w' = w.drewN m := by
  go_enter Trym.func18, Trym.ntmps18
  go_wp2
  go_loopw [5] (fun s5 wr => ∃ (k m : Nat), k ≤ n ∧ s5 = .int .i64 k ∧ wr = w.drewN m) (fun s5 _ => n - (intOf s5).toNat)
  case atStart => exact ⟨0, 0, by omega, rfl, rfl⟩
  case round =>
    obtain ⟨k, m, hk, rfl, rfl⟩ := hrel
    by_cases hlt : k < n
    · obtain ⟨b, off, rfl, hcc⟩ := h0 (by omega)
      obtain ⟨b2, off2, rfl, hcc2⟩ := h1 (by omega)
      have q1 := hcc k hlt
      have q2 := hcc2 k hlt
      rw [← hfg k hlt] at q2
      clear hcc hcc2 h0 h1 hfg
      go_wp2
      go_quiet (fail)
      go_wp2
      go_roundw
      case rel => exact ⟨k + 1, _, by omega, by go_num, rfl⟩
      case measure => simp [intOf]; omega
    · go_wp2
      go_ret
      exact ⟨rfl, m, rfl⟩
end Go.Proofs.Qxb6000413aMods
