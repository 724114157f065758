import Derived.Test.Qxb6605393aModsShare
import Derived.Test.Qxb6605393aModsCount
import Derived.Deep.Light
namespace Go.Proofs.Qxb6605393aMods
open Go.ChangeShapes Go.WideShapes Go.ChangeAt Go.RowKit
open Ct

set_option maxRecDepth 100000 in
set_option maxHeartbeats 1000000 in
theorem bytesB (ao : Option Addr) (len cap : Nat) (rk : Nat → Int) (mb : Nat → ByteArray) (sc sr : Nat → Int) (av : Int) (w : World) (hm : len ≤ 9223372036854775807) (hms : ∀ i, (mb i).size ≤ 9223372036854775807) (hc : Row4 w ao len rk mb sc sr) :
    Calls Trym.prog 10 #[.slice ao len cap, .int .i64 av] w fun e w' => Says len 1048576 true w e w' := by
  by_cases hl : len ≤ 1048576
  · go_enter Trym.func10, Trym.ntmps10
    go_wp2
    go_loop [5, 6] (fun s5 s6 => ∃ (i : Nat) (z : Int), i ≤ len ∧ s6 = .int .i64 i ∧ s5 = .int .i64 z ∧ 0 ≤ z ∧ z ≤ 1048576) (fun _ s6 => len - (intOf s6).toNat)
    case atStart => exact ⟨0, _, by omega, rfl, rfl, by omega, by omega⟩
    case round =>
      obtain ⟨i, z, hi, rfl, rfl, hz0, hz1⟩ := hrel
      by_cases hlt : i < len
      · obtain ⟨b, off, rfl, hcc⟩ := hc (by omega)
        have h1 := (hcc i hlt).2.1
        have h2 := hms i
        clear hcc hc hms
        go_wp2
        · go_ret
          exact ⟨false, rfl, fun h => (by cases h), rfl⟩
        · go_ret
          exact ⟨false, rfl, fun h => (by cases h), rfl⟩
        · go_round
          case rel => exact ⟨i + 1, _, by omega, by go_num, rfl, by omega, by omega⟩
          case measure => simp [intOf]; omega
      · go_wp2
        go_ret
        exact ⟨true, rfl, fun _ => hl, rfl⟩
  · go_enter Trym.func10, Trym.ntmps10
    go_wp2
    go_ret
    exact ⟨false, rfl, fun h => (by cases h), rfl⟩

/-- An answer that, if it is true, says P; the world has at most been drawn from. -/
def Tells (P : Prop) (w : World) (e : Ending) (w' : World) : Prop := ∃ (q : Bool) (m : Nat), e = .returned (.bool q) ∧ (q = true → P) ∧ w' = w.drewN m

set_option maxRecDepth 100000 in
set_option maxHeartbeats 1000000 in
theorem adjacent (ao : Option Addr) (len cap : Nat) (rk : Nat → Int) (mb : Nat → ByteArray) (sc sr : Nat → Int) (av : Int) (w : World) (hm : len ≤ 26214) (hc : Row4 w ao len rk mb sc sr) :
    Calls Trym.prog 11 #[.slice ao len cap, .int .i64 av] w fun e w' => Tells (∀ i, i < len → rk i = wrap64 (wrap64 (av + 1) + (i : Int))) w e w' := by
  go_enter Trym.func11, Trym.ntmps11
  go_wp2
  go_loop [5] (fun s5 => ∃ (k : Nat), k ≤ len ∧ s5 = .int .i64 k ∧ Hid (∀ i, i < k → rk i = wrap64 (wrap64 (av + 1) + (i : Int)))) (fun s5 => len - (intOf s5).toNat)
  case atStart => exact ⟨0, by omega, rfl, fun i hi => absurd hi (by omega)⟩
  case round =>
    obtain ⟨k, hk, rfl, HA⟩ := hrel
    by_cases hlt : k < len
    · obtain ⟨b, off, rfl, hcc⟩ := hc (by omega)
      have h1 := (hcc k hlt).1
      clear hcc hc
      cases hq : (rk k == wrap64 (wrap64 (av + 1) + (k : Int)))
      · go_wp2
        go_ret
        exact ⟨false, 0, rfl, fun h => (by cases h), rfl⟩
      · go_wp2
        go_round
        case rel => exact ⟨k + 1, by omega, by go_num, fun i hi => if e : i = k then by subst e; simpa using hq else HA.out i (by omega)⟩
        case measure => simp [intOf]; omega
    · go_wp2
      go_ret
      exact ⟨true, 0, rfl, fun _ i hi => HA.out i (by omega), rfl⟩

set_option maxRecDepth 100000 in
set_option maxHeartbeats 1000000 in
theorem sorted (ao : Option Addr) (len cap : Nat) (rk : Nat → Int) (mb : Nat → ByteArray) (sc sr : Nat → Int) (w : World) (hm : len ≤ 26214) (hc : Row4 w ao len rk mb sc sr) :
    Calls Trym.prog 12 #[.slice ao len cap] w fun e w' => Tells (Down sc len ∨ Up sc len) w e w' := by
  go_enter Trym.func12, Trym.ntmps12
  go_wp2
  go_loopw [3, 4, 5] (fun s3 s4 s5 wr => ∃ (k m : Nat) (d u : Bool), 1 ≤ k ∧ k ≤ len + 1 ∧ s5 = .int .i64 k ∧ s3 = .bool d ∧ s4 = .bool u ∧ Hid (d = true → ∀ i, 1 ≤ i → i < k → sc i ≤ sc (i - 1)) ∧ Hid (u = true → ∀ i, 1 ≤ i → i < k → sc (i - 1) ≤ sc i) ∧ wr = w.drewN m) (fun _ _ s5 _ => len + 1 - (intOf s5).toNat)
  case atStart => exact ⟨1, 0, true, true, by omega, by omega, rfl, rfl, rfl, fun _ i h1 h2 => absurd h2 (by omega), fun _ i h1 h2 => absurd h2 (by omega), rfl⟩
  case round =>
    obtain ⟨k, m, d, u, hk1, hk, rfl, rfl, rfl, HD, HU, rfl⟩ := hrel
    by_cases hlt : k < len
    · obtain ⟨b, off, rfl, hcc⟩ := hc (by omega)
      have h1 := (hcc k hlt).2.2.1
      have h2 := (hcc (k - 1) (by omega)).2.2.1
      clear hcc hc
      rcases Int.lt_trichotomy (sc (k - 1)) (sc k) with hx | hx | hx
      · have hx2 : ¬ sc k < sc (k - 1) := by omega
        go_wp2
        go_quiet (fail)
        go_wp2
        go_quiet (fail)
        go_wp2
        go_roundw
        case rel => exact ⟨k + 1, _, false, u, by omega, by omega, by go_num, rfl, rfl, fun h => (by cases h), fun h i h1 h2 => if e : i = k then by subst e; omega else HU.out h i h1 (by omega), rfl⟩
        case measure => simp [intOf]; omega
      · have hx1 : ¬ sc k < sc (k - 1) := by omega
        have hx2 : ¬ sc (k - 1) < sc k := by omega
        have HX : Hid (sc (k - 1) = sc k) := hx
        clear hx
        go_wp2
        go_quiet (fail)
        go_wp2
        go_quiet (fail)
        go_wp2
        go_roundw
        case rel => exact ⟨k + 1, _, d, u, by omega, by omega, by go_num, rfl, rfl, fun h i h1 h2 => if e : i = k then by subst e; have := HX.out; omega else HD.out h i h1 (by omega), fun h i h1 h2 => if e : i = k then by subst e; have := HX.out; omega else HU.out h i h1 (by omega), rfl⟩
        case measure => simp [intOf]; omega
      · have hx2 : ¬ sc (k - 1) < sc k := by omega
        go_wp2
        go_quiet (fail)
        go_wp2
        go_quiet (fail)
        go_wp2
        go_roundw
        case rel => exact ⟨k + 1, _, d, false, by omega, by omega, by go_num, rfl, rfl, fun h i h1 h2 => if e : i = k then by subst e; omega else HD.out h i h1 (by omega), fun h => (by cases h), rfl⟩
        case measure => simp [intOf]; omega
    · cases d
      · go_wp2
        go_ret
        exact ⟨u, m, rfl, fun h => .inr fun i h1 h2 => HU.out h i h1 (by omega), rfl⟩
      · go_wp2
        go_ret
        exact ⟨true, m, rfl, fun h => .inl fun i h1 h2 => HD.out (by trivial) i h1 (by omega), rfl⟩

set_option maxRecDepth 100000 in
set_option maxHeartbeats 1000000 in
theorem others (ao : Option Addr) (len cap i : Nat) (rk : Nat → Int) (mb : Nat → ByteArray) (sc sr : Nat → Int) (w : World) (hm : len ≤ 26214) (hi : i < len) (hc : Row4 w ao len rk mb sc sr) :
    Calls Trym.prog 13 #[.slice ao len cap, .int .i64 i] w fun e w' => e = .returned (.int .i64 ((cntC sc (sc i) i : Nat) : Int)) ∧ ∃ m, w' = w.drewN m := by
  obtain ⟨b, off, rfl, hcc⟩ := hc (by omega)
  have hi2 := (hcc i hi).2.2.1
  go_enter Trym.func13, Trym.ntmps13
  go_wp2
  go_loopw [5, 6] (fun s5 s6 wr => ∃ (k m z : Nat), k ≤ i ∧ z ≤ k ∧ s6 = .int .i64 k ∧ s5 = .int .i64 z ∧ Hid (cntC sc (sc i) k = z) ∧ wr = w.drewN m) (fun _ s6 _ => i - (intOf s6).toNat)
  case atStart => exact ⟨0, 0, 0, by omega, by omega, rfl, rfl, rfl, rfl⟩
  case round =>
    obtain ⟨k, m, z, hk, hz, rfl, rfl, HZ, rfl⟩ := hrel
    by_cases hlt : k < i
    · have h1 := (hcc k (by omega)).2.2.1
      clear hcc hc
      have hstep : cntC sc (sc i) (k + 1) = if sc k = sc i then cntC sc (sc i) k else cntC sc (sc i) k + 1 := rfl
      cases hq : (sc k == sc i)
      · have HN : Hid (cntC sc (sc i) (k + 1) = z + 1) := by unfold Hid; rw [hstep, if_neg (by simpa using hq), HZ.out]
        have hq2 : (sc k != sc i) = true := by simp [bne, hq]
        clear hstep
        go_wp2
        go_quiet (fail)
        go_wp2
        go_roundw
        case rel => exact ⟨k + 1, _, z + 1, by omega, by omega, by go_num, by go_num, HN, rfl⟩
        case measure => simp [intOf]; omega
      · have HN : Hid (cntC sc (sc i) (k + 1) = z) := by unfold Hid; rw [hstep, if_pos (by simpa using hq), HZ.out]
        have hq2 : (sc k != sc i) = false := by simp [bne, hq]
        clear hstep
        go_wp2
        go_quiet (fail)
        go_wp2
        go_roundw
        case rel => exact ⟨k + 1, _, z, by omega, by omega, by go_num, rfl, HN, rfl⟩
        case measure => simp [intOf]; omega
    · obtain rfl : k = i := by omega
      go_wp2
      go_ret
      exact ⟨by rw [HZ.out]; rfl, m, rfl⟩

end Go.Proofs.Qxb6605393aMods
