/-
  SORTED SCORES: the start of an entry's run is the number of entries before it whose score is another. Plain, no Go.
-/
import Derived.RowKit
namespace Go.Proofs.Qxb6605393aMods.Ct
open Go.RowKit (wrap64)

/-- Where entry i's run of equal scores starts. -/
def stC (sc : Nat → Int) : Nat → Nat
  | 0 => 0
  | k + 1 => if sc (k + 1) = sc k then stC sc k else k + 1
/-- The shared rank of entry i. -/
def shC (av : Int) (rk sc : Nat → Int) : Nat → Int
  | 0 => wrap64 (av + 1)
  | k + 1 => if sc (k + 1) = sc k then shC av rk sc k else rk (k + 1)

def Down (sc : Nat → Int) (n : Nat) : Prop := ∀ i, 1 ≤ i → i < n → sc i ≤ sc (i - 1)
def Up (sc : Nat → Int) (n : Nat) : Prop := ∀ i, 1 ≤ i → i < n → sc (i - 1) ≤ sc i

variable {sc : Nat → Int} {n : Nat}

theorem stC_le (sc : Nat → Int) (k : Nat) : stC sc k ≤ k := by
  induction k with
  | zero => exact Nat.le_refl _
  | succ k ih => unfold stC; split <;> omega
theorem stC_mono (sc : Nat → Int) (k : Nat) : stC sc k ≤ stC sc (k + 1) := by
  have := stC_le sc k
  have e : stC sc (k + 1) = if sc (k + 1) = sc k then stC sc k else k + 1 := rfl
  rw [e]
  split <;> omega
theorem run_eq (k j : Nat) (h1 : stC sc k ≤ j) (h2 : j ≤ k) : sc j = sc k := by
  induction k with
  | zero => have : j = 0 := by omega
            rw [this]
  | succ k ih =>
    unfold stC at h1
    split at h1
    · rename_i e
      by_cases hj : j = k + 1
      · rw [hj]
      · rw [ih h1 (by omega), e]
    · have : j = k + 1 := by omega
      rw [this]
theorem st_break (k : Nat) (h : 0 < stC sc k) : sc (stC sc k) ≠ sc (stC sc k - 1) := by
  induction k with
  | zero => exact absurd h (by simp [stC])
  | succ k ih =>
    unfold stC at h ⊢
    split at h
    · rename_i e; rw [if_pos e]; exact ih h
    · rename_i e; rw [if_neg e]; simpa using e
theorem down_le (h : Down sc n) (a b : Nat) (h1 : a ≤ b) (h2 : b < n) : sc b ≤ sc a := by
  obtain ⟨d, rfl⟩ : ∃ d, b = a + d := ⟨b - a, by omega⟩
  clear h1
  induction d with
  | zero => exact Int.le_refl _
  | succ d ih =>
    have e := h (a + (d + 1)) (by omega) h2
    rw [show a + (d + 1) - 1 = a + d by omega] at e
    exact Int.le_trans e (ih (by omega))
theorem up_le (h : Up sc n) (a b : Nat) (h1 : a ≤ b) (h2 : b < n) : sc a ≤ sc b := by
  obtain ⟨d, rfl⟩ : ∃ d, b = a + d := ⟨b - a, by omega⟩
  clear h1
  induction d with
  | zero => exact Int.le_refl _
  | succ d ih =>
    have e := h (a + (d + 1)) (by omega) h2
    rw [show a + (d + 1) - 1 = a + d by omega] at e
    exact Int.le_trans (ih (by omega)) e
theorem before_ne (h : Down sc n ∨ Up sc n) (i j : Nat) (hi : i < n) (hj : j < stC sc i) : sc j ≠ sc i := by
  have hs := stC_le sc i
  have e1 := run_eq (sc := sc) i (stC sc i) (Nat.le_refl _) hs
  have e2 := st_break (sc := sc) i (by omega)
  rcases h with h | h
  · have a1 := down_le h j (stC sc i - 1) (by omega) (by omega)
    have a2 := down_le h (stC sc i - 1) (stC sc i) (by omega) (by omega)
    omega
  · have a1 := up_le h j (stC sc i - 1) (by omega) (by omega)
    have a2 := up_le h (stC sc i - 1) (stC sc i) (by omega) (by omega)
    omega

/-- How many of the first k have another score than x. -/
def cntC (sc : Nat → Int) (x : Int) : Nat → Nat
  | 0 => 0
  | k + 1 => if sc k = x then cntC sc x k else cntC sc x k + 1
theorem cntC_le (sc : Nat → Int) (x : Int) (k : Nat) : cntC sc x k ≤ k := by
  induction k with
  | zero => exact Nat.le_refl _
  | succ k ih => unfold cntC; split <;> omega
theorem cnt_min (h : Down sc n ∨ Up sc n) (i : Nat) (hi : i < n) (k : Nat) (hk : k ≤ i) : cntC sc (sc i) k = min k (stC sc i) := by
  induction k with
  | zero => simp [cntC]
  | succ k ih =>
    have e := ih (by omega)
    unfold cntC
    by_cases hj : k < stC sc i
    · rw [if_neg (before_ne h i k hi hj), e]; omega
    · rw [if_pos (run_eq i k (by omega) (by omega)), e]; omega
theorem cnt_st (h : Down sc n ∨ Up sc n) (i : Nat) (hi : i < n) : cntC sc (sc i) i = stC sc i := by
  rw [cnt_min h i hi i (Nat.le_refl _)]
  have := stC_le sc i
  omega

theorem shC_st (av : Int) (rk sc : Nat → Int) (k : Nat) : shC av rk sc k = if 0 < stC sc k then rk (stC sc k) else wrap64 (av + 1) := by
  induction k with
  | zero => rfl
  | succ k ih =>
    unfold shC stC
    split
    · exact ih
    · rw [if_pos (by omega)]

theorem wrap_twice (x : Int) : wrap64 (wrap64 x) = wrap64 x := by unfold wrap64; omega

/-- The shared rank, counted. -/
theorem sh_count {av : Int} {rk : Nat → Int} (hr : ∀ i, i < n → rk i = wrap64 (wrap64 (av + 1) + (i : Int))) (i : Nat) (hi : i < n) :
    shC av rk sc i = wrap64 (wrap64 (av + 1) + (stC sc i : Int)) := by
  have hs := stC_le sc i
  rw [shC_st]
  split
  · exact hr _ (by omega)
  · rename_i h
    have : stC sc i = 0 := by omega
    rw [this]
    simp [wrap_twice]
end Go.Proofs.Qxb6605393aMods.Ct
