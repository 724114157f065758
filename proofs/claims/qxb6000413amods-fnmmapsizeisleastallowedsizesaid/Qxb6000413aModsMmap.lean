import Derived.Test.Qxb6000413aModsRows
import Derived.WalkKit
import Derived.ProofKit
import Derived.WalkSpells
import Derived.WalkLawsBesides
import Derived.Deep.QuietTactic
import Derived.BigQuiet
import Derived.Deep.DeepCutAuto
import Derived.Deep.CutBlock
import Derived.WalkSmall
namespace Go.Proofs.Qxb6000413aMods
open Go.ChangeShapes Go.WideShapes Go.ChangeAt Go.RowKit

theorem ret_int {k : IntKind} {a b : Int} (h : a = b) : Ending.returned (.int k a) = .returned (.int k b) := by rw [h]
theorem ret_true {b : Bool} (h : b = true) : Ending.returned (.bool b) = .returned (.bool true) := by rw [h]

/-- The least power of two, from 2^15 to 2^30, that is at least s. -/
def Fits (s : Int) (w : World) (e : Ending) (w' : World) : Prop := ∃ (j : Nat) (r : Int), e = .returned (.int .i64 r) ∧ j ≤ 15 ∧ r = 32768 * 2 ^ j ∧ s ≤ r ∧ (r = 32768 ∨ r / 2 < s) ∧ w = w'

theorem pow_bd (j : Nat) (h : j ≤ 15) : (32768 : Int) * 2 ^ j ≤ 1073741824 ∧ (32768 : Int) ≤ 32768 * 2 ^ j ∧ (32768 * 2 ^ j = (1073741824 : Int) ∨ j < 15) := by
  rcases (by omega : j = 0 ∨ j = 1 ∨ j = 2 ∨ j = 3 ∨ j = 4 ∨ j = 5 ∨ j = 6 ∨ j = 7 ∨ j = 8 ∨ j = 9 ∨ j = 10 ∨ j = 11 ∨ j = 12 ∨ j = 13 ∨ j = 14 ∨ j = 15) with rfl | rfl | rfl | rfl | rfl | rfl | rfl | rfl | rfl | rfl | rfl | rfl | rfl | rfl | rfl | rfl <;> simp
theorem pow_cases {j : Nat} {r : Int} (h : j ≤ 15) (hr : r = 32768 * 2 ^ j) : r = 32768 ∨ r = 65536 ∨ r = 131072 ∨ r = 262144 ∨ r = 524288 ∨ r = 1048576 ∨ r = 2097152 ∨ r = 4194304 ∨ r = 8388608 ∨ r = 16777216 ∨ r = 33554432 ∨ r = 67108864 ∨ r = 134217728 ∨ r = 268435456 ∨ r = 536870912 ∨ r = 1073741824 := by
  subst hr
  rcases (by omega : j = 0 ∨ j = 1 ∨ j = 2 ∨ j = 3 ∨ j = 4 ∨ j = 5 ∨ j = 6 ∨ j = 7 ∨ j = 8 ∨ j = 9 ∨ j = 10 ∨ j = 11 ∨ j = 12 ∨ j = 13 ∨ j = 14 ∨ j = 15) with rfl | rfl | rfl | rfl | rfl | rfl | rfl | rfl | rfl | rfl | rfl | rfl | rfl | rfl | rfl | rfl <;> simp

set_option maxRecDepth 100000 in
set_option maxHeartbeats 1000000 in
theorem mmap_small (s : Int) (w : World) (h : s ≤ 1073741824) :
    Calls Trym.prog 25 #[.int .i64 s] w fun e w' => Fits s w e w' := by
  go_enter Trym.func25, Trym.ntmps25
  go_wp2
  go_loop [3] (fun s3 => ∃ (j : Nat) (n : Int), s3 = .int .i64 n ∧ j ≤ 15 ∧ 32768 ≤ n ∧ n ≤ 1073741824 ∧ Hid (n = 32768 * 2 ^ j) ∧ Hid (n = 32768 ∨ n / 2 < s)) (fun s3 => (1073741824 - intOf s3).toNat)
  case atStart => exact ⟨0, 32768, rfl, by omega, by omega, by omega, by simp [Hid], .inl rfl⟩
  case round =>
    obtain ⟨j, n, rfl, hj, h2, h3, HN, HS⟩ := hrel
    by_cases hlt : n < s
    · have hp := pow_bd j hj
      rw [← HN.out] at hp
      have hj2 : j < 15 := by omega
      have hq := pow_bd (j + 1) (by omega)
      have e : (32768 : Int) * 2 ^ (j + 1) = n * 2 := by rw [HN.out, Int.pow_succ, Int.mul_assoc]
      rw [e] at hq
      have HE : Hid (n * 2 = 32768 * 2 ^ (j + 1)) := e.symm
      have hq1 := hq.1
      clear hp hq e
      go_wp2
      go_round
      case rel => exact ⟨j + 1, n * 2, rfl, by omega, by omega, hq1, HE, .inr (by omega)⟩
      case measure => simp [intOf]; omega
    · go_wp2
      go_ret
      exact ⟨j, n, rfl, hj, HN.out, by omega, HS.out, rfl⟩

set_option maxRecDepth 100000 in
set_option maxHeartbeats 1000000 in
theorem mmap_big (s : Int) (w : World) (h : s ≤ 1125899906842624) (h1 : 1073741824 < s) :
    Calls Trym.prog 25 #[.int .i64 s] w fun e w' => e = .returned (.int .i64 ((s + 1073741824 - 1) / 1073741824 * 1073741824)) ∧ w = w' := by
  go_enter Trym.func25, Trym.ntmps25
  go_wp2
  go_ret
  exact ⟨rfl, rfl⟩

set_option maxRecDepth 100000 in
theorem zz_small (s : Int) (w : World) (h : s ≤ 1073741824) :
    Calls Trym.prog 11 #[.int .i64 s] w fun e w' => Fits s w e w' := by
  go_enter Trym.func11, Trym.ntmps11
  go_wp2_with fail
  refine (mmap_small s _ h).mono ?_
  rintro e w' ⟨j, r, rfl, hj, hr, hsr, hlo, rfl⟩
  have H3 : Hid (r = 32768 ∨ r / 2 < s) := hlo
  have H4 : Hid (r = 32768 * 2 ^ j) := hr
  clear hlo hr
  go_wp2
  go_ret
  exact ⟨j, r, rfl, hj, H4.out, hsr, H3.out, rfl⟩
set_option maxRecDepth 100000 in
theorem zz_big (s : Int) (w : World) (h : s ≤ 1125899906842624) (h1 : 1073741824 < s) :
    Calls Trym.prog 11 #[.int .i64 s] w fun e w' => e = .returned (.int .i64 ((s + 1073741824 - 1) / 1073741824 * 1073741824)) ∧ w = w' := by
  go_enter Trym.func11, Trym.ntmps11
  go_wp2_with fail
  refine (mmap_big s _ h h1).mono ?_
  rintro e w' ⟨rfl, rfl⟩
  go_wp2
  go_ret
  exact ⟨rfl, rfl⟩

set_option maxRecDepth 100000 in
set_option maxHeartbeats 2000000 in
theorem least_small (s : Int) (w : World) (h : s ≤ 1073741824) :
    Calls Trym.prog 3 #[.int .i64 s] w fun e w' => e = .returned (.bool true) ∧ Below w.heap.size w w' := by
  go_enter Trym.func3, Trym.ntmps3
  go_upto_region 6 with (go_at_call 11; refine (zz_small s _ h).mono ?_; rintro e w' ⟨j, r, rfl, hj, hr, hsr, hlo, rfl⟩; have H3 : Hid (r = 32768 ∨ r / 2 < s) := hlo; have H4 : Hid (r = 32768 * 2 ^ j) := hr; clear hlo hr)
  rcases pow_cases hj H4.out with rfl | rfl | rfl | rfl | rfl | rfl | rfl | rfl | rfl | rfl | rfl | rfl | rfl | rfl | rfl | rfl
  all_goals
    clear H4
    go_wp2
    go_ret
    refine ⟨ret_true ?_, Below.refl _ _⟩
    have := H3.out
    simp at this ⊢
    try omega

set_option maxRecDepth 100000 in
set_option maxHeartbeats 1000000 in
theorem least_big (s : Int) (w : World) (h : s ≤ 1125899906842624) (h1 : 1073741824 < s) :
    Calls Trym.prog 3 #[.int .i64 s] w fun e w' => e = .returned (.bool true) ∧ Below w.heap.size w w' := by
  obtain ⟨r, hr⟩ : ∃ r, r = (s + 1073741824 - 1) / 1073741824 * 1073741824 := ⟨_, rfl⟩
  have h2 : s ≤ r := by omega
  have h3 : r % 1073741824 = 0 := by omega
  have h4 : r - 1073741824 < s := by omega
  have h5 : r ≤ 1125899906842624 + 1073741824 := by omega
  have HR : Hid (r = (s + 1073741824 - 1) / 1073741824 * 1073741824) := hr
  clear hr
  go_enter Trym.func3, Trym.ntmps3
  go_upto_region 6 with (go_at_call 11; refine (zz_big s _ h h1).mono ?_; rintro e w' ⟨rfl, rfl⟩; rw [← HR.out])
  go_wp2
  go_ret
  exact ⟨rfl, Below.refl _ _⟩

theorem least_huge (s : Int) (w : World) (h : 1125899906842624 < s) :
    Calls Trym.prog 3 #[.int .i64 s] w fun e w' => e = .returned (.bool true) ∧ Below w.heap.size w w' := by
  go_enter Trym.func3, Trym.ntmps3
  go_wp2
  go_ret
  exact ⟨rfl, Below.refl _ _⟩

end Go.Proofs.Qxb6000413aMods
