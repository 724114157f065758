/-
  THE SPLIT MODEL OF 'microseconds': plain, no Go. The text's bytes are g : Nat -> Int, from 0 to n.
-/
import Derived.Test.Qxb6605190aModsPlain
namespace Go.Proofs.Qxb6605190aMods.Mi
open Go.RowKit (wrap64)

/-- The value of the digits among k bytes from lo on. -/
def dvk (g : Nat → Int) (lo : Nat) : Nat → Int
  | 0 => 0
  | k + 1 => if 48 ≤ g (lo + k) ∧ g (lo + k) ≤ 57 then dvk g lo k * 10 + (g (lo + k) - 48) else dvk g lo k

theorem dvk_yes {g : Nat → Int} {lo k : Nat} (h1 : 48 ≤ g (lo + k)) (h2 : g (lo + k) ≤ 57) : dvk g lo (k + 1) = dvk g lo k * 10 + (g (lo + k) - 48) := by
  show (if _ then _ else _) = _; rw [if_pos ⟨h1, h2⟩]
theorem dvk_no {g : Nat → Int} {lo k : Nat} (h : ¬ (48 ≤ g (lo + k) ∧ g (lo + k) ≤ 57)) : dvk g lo (k + 1) = dvk g lo k := by
  show (if _ then _ else _) = _; rw [if_neg h]
theorem dvk_shift (f : Nat → Int) (s lo k : Nat) : dvk (fun i => f (s + i)) lo k = dvk f (s + lo) k := by
  induction k with
  | zero => rfl
  | succ k ih => simp only [dvk, ih, Nat.add_assoc]

/-- The fraction: of k bytes from lo on the first six digits and their count. -/
def frS (g : Nat → Int) (lo : Nat) : Nat → Int × Nat
  | 0 => (0, 0)
  | k + 1 => if (48 ≤ g (lo + k) ∧ g (lo + k) ≤ 57) ∧ (frS g lo k).2 < 6 then ((frS g lo k).1 * 10 + (g (lo + k) - 48), (frS g lo k).2 + 1) else frS g lo k

theorem frS_yes {g : Nat → Int} {lo k d : Nat} {m : Int} (h : frS g lo k = (m, d)) (h1 : 48 ≤ g (lo + k)) (h2 : g (lo + k) ≤ 57) (hd : d < 6) : frS g lo (k + 1) = (m * 10 + (g (lo + k) - 48), d + 1) := by
  unfold frS; rw [h, if_pos ⟨⟨h1, h2⟩, hd⟩]
theorem frS_no {g : Nat → Int} {lo k d : Nat} {m : Int} (h : frS g lo k = (m, d)) (hn : ¬ ((48 ≤ g (lo + k) ∧ g (lo + k) ≤ 57) ∧ d < 6)) : frS g lo (k + 1) = (m, d) := by
  unfold frS; rw [h, if_neg hn]
theorem frS_full {g : Nat → Int} {lo k j : Nat} {m : Int} (h : frS g lo k = (m, 6)) (hj : k ≤ j) : frS g lo j = (m, 6) := by
  obtain ⟨e, rfl⟩ : ∃ e, j = k + e := ⟨j - k, by omega⟩
  clear hj
  induction e with
  | zero => exact h
  | succ e ih => exact frS_no (k := k + e) ih (by omega)
theorem frS_shift (f : Nat → Int) (s lo k : Nat) : frS (fun i => f (s + i)) lo k = frS f (s + lo) k := by
  induction k with
  | zero => rfl
  | succ k ih => simp only [frS, ih, Nat.add_assoc]
theorem frS_bd (g : Nat → Int) (lo k : Nat) : (frS g lo k).2 ≤ 6 ∧ 0 ≤ (frS g lo k).1 ∧ (frS g lo k).1 < 10 ^ (frS g lo k).2 := by
  induction k with
  | zero => simp [frS]
  | succ k ih =>
    unfold frS
    split
    · rename_i h
      obtain ⟨i1, i2, i3⟩ := ih
      obtain ⟨⟨h1, h2⟩, h3⟩ := h
      simp only [Int.pow_succ]
      generalize (10 : Int) ^ (frS g lo k).2 = q at *
      exact ⟨by omega, by omega, by omega⟩
    · exact ih

/-- What 'zzFractionMicros' answers. -/
def frZ (g : Nat → Int) (lo k : Nat) : Int := (frS g lo k).1 * 10 ^ (6 - (frS g lo k).2)

/-! ### the state of 'microseconds', phase by phase -/
variable {g : Nat → Int}

theorem ph_h (k : Nat) (hd : ∀ i, i < k → g i ≠ 46) (hc : ∀ i, i < k → g i ≠ 58) : stAt g k = ⟨0, dvk g 0 k, 0, 0, 0, 0, false⟩ := by
  induction k with
  | zero => rfl
  | succ k ih =>
    have h1 := hd k (by omega)
    have h2 := hc k (by omega)
    refine stAt_next (ih (fun i hi => hd i (by omega)) (fun i hi => hc i (by omega))) ?_
    by_cases hx : 48 ≤ g k ∧ g k ≤ 57
    · rw [step_h hx.1 hx.2, dvk_yes (by simpa using hx.1) (by simpa using hx.2), Nat.zero_add]
    · rw [step_other (by omega) h1 hx, dvk_no (by simpa using hx)]

theorem ph_m (c k : Nat) (hd : ∀ i, i < c + 1 + k → g i ≠ 46) (h0 : ∀ i, i < c → g i ≠ 58) (h1 : g c = 58) (h2 : ∀ i, c < i → i < c + 1 + k → g i ≠ 58) :
    stAt g (c + 1 + k) = ⟨1, dvk g 0 c, dvk g (c + 1) k, 0, 0, 0, false⟩ := by
  induction k with
  | zero => exact stAt_next (ph_h c (fun i hi => hd i (by omega)) h0) (step_colon h1 (by omega))
  | succ k ih =>
    have e1 := hd (c + 1 + k) (by omega)
    have e2 := h2 (c + 1 + k) (by omega) (by omega)
    refine stAt_next (k := c + 1 + k) (ih (fun i hi => hd i (by omega)) (fun i hi hi' => h2 i hi (by omega))) ?_
    by_cases hx : 48 ≤ g (c + 1 + k) ∧ g (c + 1 + k) ≤ 57
    · rw [step_m hx.1 hx.2, dvk_yes hx.1 hx.2]
    · rw [step_other (by omega) e1 hx, dvk_no hx]

theorem ph_s (c1 c2 k : Nat) (hd : ∀ i, i < c2 + 1 + k → g i ≠ 46) (h0 : ∀ i, i < c1 → g i ≠ 58) (h1 : g c1 = 58) (hlt : c1 < c2) (h2 : ∀ i, c1 < i → i < c2 → g i ≠ 58) (h3 : g c2 = 58) :
    stAt g (c2 + 1 + k) = ⟨2, dvk g 0 c1, dvk g (c1 + 1) (c2 - (c1 + 1)), dvk g (c2 + 1) k, 0, 0, false⟩ := by
  induction k with
  | zero =>
    have e := ph_m (g := g) c1 (c2 - (c1 + 1)) (fun i hi => hd i (by omega)) h0 h1 (fun i hi hi' => h2 i hi (by omega))
    rw [show c1 + 1 + (c2 - (c1 + 1)) = c2 by omega] at e
    exact stAt_next e (step_colon h3 (by omega))
  | succ k ih =>
    have e1 := hd (c2 + 1 + k) (by omega)
    refine stAt_next (k := c2 + 1 + k) (ih (fun i hi => hd i (by omega))) ?_
    by_cases hx : 48 ≤ g (c2 + 1 + k) ∧ g (c2 + 1 + k) ≤ 57
    · rw [step_s hx.1 hx.2, dvk_yes hx.1 hx.2]
    · rw [step_other (by omega) e1 hx, dvk_no hx]

theorem ph_f (d k : Nat) {p : Nat} {a b c : Int} (h : stAt g d = ⟨p, a, b, c, 0, 0, false⟩) (hd : g d = 46) :
    ∃ q, stAt g (d + 1 + k) = ⟨q, a, b, c, (frS g (d + 1) k).1, (frS g (d + 1) k).2, true⟩ := by
  induction k with
  | zero => exact ⟨p, stAt_next h (step_dot hd)⟩
  | succ k ih =>
    obtain ⟨q, ih⟩ := ih
    obtain ⟨m, e, hme⟩ : ∃ m e, frS g (d + 1) k = (m, e) := ⟨_, _, rfl⟩
    rw [hme] at ih
    by_cases hx : 48 ≤ g (d + 1 + k) ∧ g (d + 1 + k) ≤ 57
    · by_cases he : e < 6
      · rw [frS_yes hme hx.1 hx.2 he]
        exact ⟨q, stAt_next (k := d + 1 + k) ih (step_frac hx.1 hx.2 he)⟩
      · rw [frS_no hme (by omega)]
        exact ⟨q, stAt_next (k := d + 1 + k) ih (step_full hx.1 hx.2 he)⟩
    · rw [frS_no hme (by omega)]
      by_cases hc : g (d + 1 + k) = 58 ∧ q < 2
      · exact ⟨q + 1, stAt_next (k := d + 1 + k) ih (step_colon hc.1 hc.2)⟩
      · by_cases hdot : g (d + 1 + k) = 46
        · exact ⟨q, stAt_next (k := d + 1 + k) ih (step_dot hdot)⟩
        · exact ⟨q, stAt_next (k := d + 1 + k) ih (step_other hc hdot hx)⟩

/-! ### the same at absolute places: the text starts at s, its head ends at d -/
section Abs
variable {f : Nat → Int} {s d : Nat}
theorem abs_A (hd : ∀ j, s ≤ j → j < d → f j ≠ 46) (hc : ∀ j, s ≤ j → j < d → f j ≠ 58) :
    stAt (fun i => f (s + i)) (d - s) = ⟨0, dvk f s (d - s), 0, 0, 0, 0, false⟩ := by
  rw [ph_h (d - s) (fun i hi => hd (s + i) (by omega) (by omega)) (fun i hi => hc (s + i) (by omega) (by omega)), dvk_shift, Nat.add_zero]
theorem abs_B {c1 : Nat} (hd : ∀ j, s ≤ j → j < d → f j ≠ 46) (h1 : s ≤ c1) (h2 : c1 < d) (h3 : ∀ j, s ≤ j → j < c1 → f j ≠ 58) (h4 : f c1 = 58) (h5 : ∀ j, c1 < j → j < d → f j ≠ 58) :
    stAt (fun i => f (s + i)) (d - s) = ⟨1, dvk f s (c1 - s), dvk f (c1 + 1) (d - (c1 + 1)), 0, 0, 0, false⟩ := by
  have e := ph_m (g := fun i => f (s + i)) (c1 - s) (d - (c1 + 1)) (fun i hi => hd (s + i) (by omega) (by omega)) (fun i hi => h3 (s + i) (by omega) (by omega))
    (by show f (s + (c1 - s)) = 58; rw [show s + (c1 - s) = c1 by omega]; exact h4) (fun i hi hi' => h5 (s + i) (by omega) (by omega))
  rw [show c1 - s + 1 + (d - (c1 + 1)) = d - s by omega, dvk_shift, dvk_shift, Nat.add_zero, show s + (c1 - s + 1) = c1 + 1 by omega] at e
  exact e
theorem abs_C {c1 c2 : Nat} (hd : ∀ j, s ≤ j → j < d → f j ≠ 46) (h1 : s ≤ c1) (h2 : c1 < c2) (h2' : c2 < d) (h3 : ∀ j, s ≤ j → j < c1 → f j ≠ 58) (h4 : f c1 = 58) (h5 : ∀ j, c1 < j → j < c2 → f j ≠ 58) (h6 : f c2 = 58) :
    stAt (fun i => f (s + i)) (d - s) = ⟨2, dvk f s (c1 - s), dvk f (c1 + 1) (c2 - (c1 + 1)), dvk f (c2 + 1) (d - (c2 + 1)), 0, 0, false⟩ := by
  have e := ph_s (g := fun i => f (s + i)) (c1 - s) (c2 - s) (d - (c2 + 1)) (fun i hi => hd (s + i) (by omega) (by omega)) (fun i hi => h3 (s + i) (by omega) (by omega))
    (by show f (s + (c1 - s)) = 58; rw [show s + (c1 - s) = c1 by omega]; exact h4) (by omega) (fun i hi hi' => h5 (s + i) (by omega) (by omega))
    (by show f (s + (c2 - s)) = 58; rw [show s + (c2 - s) = c2 by omega]; exact h6)
  rw [show c2 - s + 1 + (d - (c2 + 1)) = d - s by omega, dvk_shift, dvk_shift, dvk_shift, Nat.add_zero, show s + (c1 - s + 1) = c1 + 1 by omega, show s + (c2 - s + 1) = c2 + 1 by omega,
    show c2 - s - (c1 - s + 1) = c2 - (c1 + 1) by omega] at e
  exact e
end Abs

/-- The whole, out of the head's three values. -/
theorem whole_dot {d n : Nat} {p : Nat} {a b c : Int} (h : stAt g d = ⟨p, a, b, c, 0, 0, false⟩) (hdn : d < n) (hd : g d = 46) :
    total (stAt g n) = (a * 3600 + b * 60 + c) * 1000000 + frZ g (d + 1) (n - (d + 1)) := by
  obtain ⟨q, e⟩ := ph_f d (n - (d + 1)) h hd
  rw [show d + 1 + (n - (d + 1)) = n by omega] at e
  rw [e]
  rfl
theorem whole_end {n : Nat} {p : Nat} {a b c : Int} (h : stAt g n = ⟨p, a, b, c, 0, 0, false⟩) :
    total (stAt g n) = (a * 3600 + b * 60 + c) * 1000000 + 0 := by
  rw [h]
  simp [total]

theorem abs_dot {f : Nat → Int} {s d n p : Nat} {a b c : Int} (h : stAt (fun i => f (s + i)) (d - s) = ⟨p, a, b, c, 0, 0, false⟩) (h1 : s ≤ d) (h2 : d < n) (hd : f d = 46) :
    total (stAt (fun i => f (s + i)) (n - s)) = (a * 3600 + b * 60 + c) * 1000000 + frZ f (d + 1) (n - (d + 1)) := by
  have e := whole_dot (n := n - s) h (by omega) (by show f (s + (d - s)) = 46; rw [show s + (d - s) = d by omega]; exact hd)
  rw [e]
  unfold frZ
  rw [frS_shift, show s + (d - s + 1) = d + 1 by omega, show n - s - (d - s + 1) = n - (d + 1) by omega]

theorem total_wrap' (a b c m : Int) : wrap64 (wrap64 (wrap64 (wrap64 (wrap64 (wrap64 a * 3600) + wrap64 (wrap64 b * 60)) + wrap64 c) * 1000000) + m) = wrap64 ((a * 3600 + b * 60 + c) * 1000000 + m) := by
  simp only [wrap_addl, wrap_addr, wrap_mull]
end Go.Proofs.Qxb6605190aMods.Mi
