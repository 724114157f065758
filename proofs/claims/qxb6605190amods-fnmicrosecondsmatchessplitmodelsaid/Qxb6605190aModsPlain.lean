/-
  THE PLAIN MATHEMATICS OF 'microseconds': no Go in sight. Bytes are an index function f : Nat -> Int.
-/
import Derived.RowKit
namespace Go.Proofs.Qxb6605190aMods.Mi
open Go.RowKit (wrap64)

/-! ### wrapping is a congruence -/
theorem wrap_ex (x : Int) : ∃ q : Int, wrap64 x = x + 18446744073709551616 * q := by
  refine ⟨-((x + 9223372036854775808) / 18446744073709551616), ?_⟩
  unfold wrap64
  have := Int.emod_add_mul_ediv (x + 9223372036854775808) 18446744073709551616
  generalize (x + 9223372036854775808) / 18446744073709551616 = q at *
  omega
theorem wrap_shift (x q : Int) : wrap64 (x + 18446744073709551616 * q) = wrap64 x := by
  unfold wrap64
  have e : x + 18446744073709551616 * q + 9223372036854775808 = x + 9223372036854775808 + 18446744073709551616 * q := by omega
  rw [e, Int.add_mul_emod_self_left]
theorem wrap_wrap (x : Int) : wrap64 (wrap64 x) = wrap64 x := by
  obtain ⟨q, h⟩ := wrap_ex x
  have e := wrap_shift x q
  rw [← h] at e
  exact e
theorem wrap_addl (x y : Int) : wrap64 (wrap64 x + y) = wrap64 (x + y) := by
  obtain ⟨q, h⟩ := wrap_ex x
  rw [h, show x + 18446744073709551616 * q + y = x + y + 18446744073709551616 * q by omega, wrap_shift]
theorem wrap_addr (x y : Int) : wrap64 (x + wrap64 y) = wrap64 (x + y) := by
  rw [Int.add_comm, wrap_addl, Int.add_comm]
theorem wrap_mull (x y : Int) : wrap64 (wrap64 x * y) = wrap64 (x * y) := by
  obtain ⟨q, h⟩ := wrap_ex x
  rw [h, Int.add_mul, Int.mul_assoc, wrap_shift]
theorem wrap_mulr (x y : Int) : wrap64 (x * wrap64 y) = wrap64 (x * y) := by
  rw [Int.mul_comm, wrap_mull, Int.mul_comm]
theorem wrap_neg (x : Int) : wrap64 (-(wrap64 x)) = wrap64 (-x) := by
  have := wrap_mulr (-1) x
  simpa using this

/-! ### the state of the loop -/
structure St where
  part : Nat
  a : Int
  b : Int
  c : Int
  mi : Int
  dg : Nat
  fr : Bool

def St.init : St := ⟨0, 0, 0, 0, 0, 0, false⟩

def step (s : St) (x : Int) : St :=
  if x = 58 ∧ s.part < 2 then ⟨s.part + 1, s.a, s.b, s.c, s.mi, s.dg, s.fr⟩
  else if x = 46 then ⟨s.part, s.a, s.b, s.c, s.mi, s.dg, true⟩
  else if 48 ≤ x ∧ x ≤ 57 then
    (if s.fr = true then (if s.dg < 6 then ⟨s.part, s.a, s.b, s.c, s.mi * 10 + (x - 48), s.dg + 1, s.fr⟩ else s)
     else if s.part = 0 then ⟨s.part, s.a * 10 + (x - 48), s.b, s.c, s.mi, s.dg, s.fr⟩
     else if s.part = 1 then ⟨s.part, s.a, s.b * 10 + (x - 48), s.c, s.mi, s.dg, s.fr⟩
     else ⟨s.part, s.a, s.b, s.c * 10 + (x - 48), s.mi, s.dg, s.fr⟩)
  else s

def stAt (f : Nat → Int) : Nat → St
  | 0 => St.init
  | k + 1 => step (stAt f k) (f k)

theorem step_ok (s : St) (x : Int) (h : s.part ≤ 2 ∧ s.dg ≤ 6) : (step s x).part ≤ 2 ∧ (step s x).dg ≤ 6 := by
  obtain ⟨h1, h2⟩ := h
  unfold step
  split
  · exact ⟨by show s.part + 1 ≤ 2; omega, h2⟩
  · split
    · exact ⟨h1, h2⟩
    · split
      · split
        · split
          · exact ⟨h1, by show s.dg + 1 ≤ 6; omega⟩
          · exact ⟨h1, h2⟩
        · split
          · exact ⟨h1, h2⟩
          · split <;> exact ⟨h1, h2⟩
      · exact ⟨h1, h2⟩

theorem stAt_ok (f : Nat → Int) (k : Nat) : (stAt f k).part ≤ 2 ∧ (stAt f k).dg ≤ 6 := by
  induction k with
  | zero => exact ⟨by show 0 ≤ 2; omega, by show 0 ≤ 6; omega⟩
  | succ k ih => exact step_ok _ _ ih

def total (s : St) : Int := (s.a * 3600 + s.b * 60 + s.c) * 1000000 + s.mi * 10 ^ (6 - s.dg)

/-- What 'microseconds' answers, before int64 wraps it. -/
def microZ (f : Nat → Int) (n : Nat) : Int :=
  if 0 < n ∧ f 0 = 45 then -1 * total (stAt (fun i => f (i + 1)) (n - 1)) else 1 * total (stAt f n)

theorem total_wrap (sg a b c m : Int) : wrap64 (sg * wrap64 (wrap64 (wrap64 (wrap64 (wrap64 (wrap64 a * 3600) + wrap64 (wrap64 b * 60)) + wrap64 c) * 1000000) + wrap64 m)) = wrap64 (sg * ((a * 3600 + b * 60 + c) * 1000000 + m)) := by
  simp only [wrap_addl, wrap_addr, wrap_mull, wrap_mulr]

/-! ### one step, way by way -/
section Ways
variable {p d : Nat} {a b c m x : Int} {f : Bool}
theorem step_colon (h : x = 58) (hp : p < 2) : step ⟨p, a, b, c, m, d, f⟩ x = ⟨p + 1, a, b, c, m, d, f⟩ := by
  unfold step; rw [if_pos ⟨h, hp⟩]
theorem step_dot (h : x = 46) : step ⟨p, a, b, c, m, d, f⟩ x = ⟨p, a, b, c, m, d, true⟩ := by
  unfold step; rw [if_neg (by omega), if_pos h]
theorem step_frac (h1 : 48 ≤ x) (h2 : x ≤ 57) (hd : d < 6) : step ⟨p, a, b, c, m, d, true⟩ x = ⟨p, a, b, c, m * 10 + (x - 48), d + 1, true⟩ := by
  unfold step; rw [if_neg (by omega), if_neg (by omega), if_pos ⟨h1, h2⟩, if_pos rfl, if_pos hd]
theorem step_full (h1 : 48 ≤ x) (h2 : x ≤ 57) (hd : ¬ d < 6) : step ⟨p, a, b, c, m, d, true⟩ x = ⟨p, a, b, c, m, d, true⟩ := by
  unfold step; rw [if_neg (by omega), if_neg (by omega), if_pos ⟨h1, h2⟩, if_pos rfl, if_neg hd]
theorem step_h (h1 : 48 ≤ x) (h2 : x ≤ 57) : step ⟨0, a, b, c, m, d, false⟩ x = ⟨0, a * 10 + (x - 48), b, c, m, d, false⟩ := by
  unfold step; rw [if_neg (by omega), if_neg (by omega), if_pos ⟨h1, h2⟩, if_neg (by simp), if_pos rfl]
theorem step_m (h1 : 48 ≤ x) (h2 : x ≤ 57) : step ⟨1, a, b, c, m, d, false⟩ x = ⟨1, a, b * 10 + (x - 48), c, m, d, false⟩ := by
  unfold step; rw [if_neg (by omega), if_neg (by omega), if_pos ⟨h1, h2⟩, if_neg (by simp), if_neg (by simp), if_pos rfl]
theorem step_s (h1 : 48 ≤ x) (h2 : x ≤ 57) : step ⟨2, a, b, c, m, d, false⟩ x = ⟨2, a, b, c * 10 + (x - 48), m, d, false⟩ := by
  unfold step; rw [if_neg (by omega), if_neg (by omega), if_pos ⟨h1, h2⟩, if_neg (by simp), if_neg (by simp), if_neg (by simp)]
theorem step_other (h1 : ¬ (x = 58 ∧ p < 2)) (h2 : ¬ x = 46) (h3 : ¬ (48 ≤ x ∧ x ≤ 57)) : step ⟨p, a, b, c, m, d, f⟩ x = ⟨p, a, b, c, m, d, f⟩ := by
  unfold step; rw [if_neg h1, if_neg h2, if_neg h3]
end Ways

theorem stAt_next {g : Nat → Int} {k : Nat} {S S' : St} (h : stAt g k = S) (h2 : step S (g k) = S') : stAt g (k + 1) = S' := by
  subst h; exact h2

theorem wrap_zero : wrap64 0 = 0 := by unfold wrap64; omega
theorem wrap_step (m d : Int) : wrap64 (wrap64 (wrap64 m * 10) + d) = wrap64 (m * 10 + d) := by
  simp only [wrap_addl, wrap_mull]
theorem wrap_pow (m : Int) (j d : Nat) (h : d ≤ j) : wrap64 (wrap64 (m * 10 ^ (j - d)) * 10) = wrap64 (m * 10 ^ (j + 1 - d)) := by
  rw [wrap_mull, Int.mul_assoc, ← Int.pow_succ, show j + 1 - d = j - d + 1 by omega]

end Go.Proofs.Qxb6605190aMods.Mi
