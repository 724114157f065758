import Derived.Test.Qxb6605190aModsMicro
import Derived.Test.Qxb6605190aModsSplit
import Derived.Deep.OwnRows
namespace Go.Proofs.Qxb6605190aMods
open Go.ChangeShapes Go.WideShapes Go.ChangeAt Go.RowKit
open Mi

theorem info5' : (Trym.prog.info? 5).map (fun i => (i.zero, i.size, i.bytes)) = some (some (.int .u8 0), 1, 1) := by kernel_rfl

/-- One cell more of the copy. -/
theorem copy_next {α : Type} {c : Array α} {k : Nat} {F : Nat → α} (hk : k < c.size) (h : ∀ i, i < k → c[i]? = some (F i)) : ∀ i, i < k + 1 → (c.setIfInBounds k (F k))[i]? = some (F i) := by
  intro i hi
  rw [Array.getElem?_setIfInBounds]
  by_cases e : k = i
  · subst e; rw [if_pos rfl, if_pos hk]
  · rw [if_neg e, h i (by omega)]

set_option maxRecDepth 100000 in
set_option maxHeartbeats 1000000 in
theorem clone_any (ao : Option Addr) (len cap : Nat) (f : Nat → Int) (w : World) (hm : len ≤ 1048576) (hn : ao = none → len = 0) (hc : Row8 w ao len f) :
    Calls Trym.prog 8 #[.slice ao len cap] w fun e w' => ∃ ao', e = .returned (.slice ao' len len) ∧ Row8 w' ao' len f ∧ Below w.heap.size w w' := by
  have hq := fun wx => Lib.run_eql_slice_nil (P := Trym.prog) wx 22 5 ao len cap 0 0 Trym.underlying22
  cases ao with
  | none =>
    obtain rfl := hn rfl
    go_enter Trym.func8, Trym.ntmps8
    go_wp2
    go_ret
    exact ⟨none, rfl, fun h => absurd h (by omega), Below.refl _ _⟩
  | some a =>
    have hmk := run_make_row' (P := Trym.prog) 22 5 (.int .u8 0) 1 Trym.underlying22 info5' rfl .i64 .i64 len (by omega) (by omega)
    simp only [Option.isNone_some] at hq
    clear hn
    go_enter Trym.func8, Trym.ntmps8
    go_wp2
    go_loopw [4] (fun s4 wr => ∃ (k : Nat) (c : Array Value), k ≤ len ∧ s4 = .int .i64 k ∧ c.size = len ∧ Hid (∀ i, i < k → c[i]? = some (.int .u8 (f i))) ∧ wr = w.alloc (.cells c 5)) (fun s4 _ => len - (intOf s4).toNat)
    case atStart => exact ⟨0, _, by omega, rfl, size_madeCells _ _, fun i hi => absurd hi (by omega), rfl⟩
    case round =>
      obtain ⟨k, c, hk, rfl, hcs, HC, rfl⟩ := hrel
      by_cases hlt : k < len
      · obtain ⟨b, off, e, hcc⟩ := hc (by omega)
        injection e with e
        subst e
        have hck := hcc k hlt
        have hb := World.block_lt_of_cell? _ _ hck
        obtain ⟨u0, hu0⟩ : ∃ u, c[k]? = some u := ⟨_, Array.getElem?_eq_getElem (by omega)⟩
        have HN : Hid (∀ i, i < k + 1 → (c.setIfInBounds k (.int .u8 (f k)))[i]? = some (Value.int .u8 (f i))) := copy_next (F := fun i => Value.int .u8 (f i)) (by omega) HC.out
        clear hcc hc hmk hq
        go_wp2
        go_roundw
        case rel => exact ⟨k + 1, _, by omega, by go_num, by simp [hcs], HN, rfl⟩
        case measure => simp [intOf]; omega
      · obtain rfl : k = len := by omega
        go_wp2
        go_ret
        refine ⟨some ⟨w.heap.size, 0, none⟩, rfl, fun _ => ⟨_, _, rfl, fun i hi => ?_⟩, (Below.refl _ _).alloc (Nat.le_refl _) _⟩
        rw [Nat.zero_add, World.cell?_alloc_at _ _ _ _ rfl]
        exact HC.out i hi

set_option maxRecDepth 100000 in
set_option maxHeartbeats 1000000 in
theorem digit_any (ao : Option Addr) (len cap lo hi : Nat) (f : Nat → Int) (w : World) (hm : len ≤ 1048576) (hf : ∀ i, 0 ≤ f i ∧ f i ≤ 255) (hc : Row8 w ao len f) (h1 : lo ≤ hi) (h2 : hi ≤ len) :
    Calls Trym.prog 19 #[.slice ao len cap, .int .i64 lo, .int .i64 hi] w fun e w' => e = .returned (.int .i64 (wrap64 (dvk f lo (hi - lo)))) ∧ w' = w := by
  go_enter Trym.func19, Trym.ntmps19
  go_wp2
  go_loop [7, 8] (fun s7 s8 => ∃ (k : Nat) (v : Int), lo + k ≤ hi ∧ s8 = .int .i64 ((lo + k : Nat) : Int) ∧ s7 = .int .i64 (wrap64 v) ∧ Hid (dvk f lo k = v)) (fun _ s8 => hi - (intOf s8).toNat)
  case atStart => exact ⟨0, 0, by omega, rfl, by rw [wrap_zero], rfl⟩
  case round =>
    obtain ⟨k, v, hk, rfl, rfl, HV⟩ := hrel
    by_cases hlt : lo + k < hi
    · obtain ⟨b, off, rfl, hcc⟩ := hc (by omega)
      have hck := hcc (lo + k) (by omega)
      have hfk := hf (lo + k)
      clear hcc hc hf
      by_cases hx : 48 ≤ f (lo + k) ∧ f (lo + k) ≤ 57
      · obtain ⟨x1, x2⟩ := hx
        have HN : Hid (dvk f lo (k + 1) = v * 10 + (f (lo + k) - 48)) := by unfold Hid; rw [dvk_yes x1 x2, HV.out]
        go_wp2
        go_round
        case rel => exact ⟨k + 1, _, by omega, by go_num, by rw [wrap_step], HN⟩
        case measure => simp [intOf]; omega
      · have HN : Hid (dvk f lo (k + 1) = v) := by unfold Hid; rw [dvk_no hx, HV.out]
        go_wp2
        all_goals
          go_round
          case rel => exact ⟨k + 1, _, by omega, by go_num, rfl, HN⟩
          case measure => simp [intOf]; omega
    · have e : hi - lo = k := by omega
      go_wp2
      go_ret
      exact ⟨ret_int (by rw [HV.out]), rfl⟩
end Go.Proofs.Qxb6605190aMods
