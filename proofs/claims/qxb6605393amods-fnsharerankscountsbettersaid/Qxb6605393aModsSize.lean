import Derived.Test.Qxb6605393aModsRows
import Derived.WalkKit
import Derived.ProofKit
import Derived.WalkSpells
import Derived.WalkLawsBesides
import Derived.Deep.QuietTactic
import Derived.BigQuiet
import Derived.Deep.DeepCutAuto
import Derived.Deep.CutBlock
import Derived.WalkSmall
namespace Go.Proofs.Qxb6605393aMods
open Go.ChangeShapes Go.WideShapes Go.ChangeAt Go.RowKit

/-- A row of structs of four cells: Rank, Member, Score, SharedRank. -/
def Row4 (w : World) (ao : Option Addr) (n : Nat) (rk : Nat → Int) (mb : Nat → ByteArray) (sc sr : Nat → Int) : Prop :=
  0 < n → ∃ b off, ao = some ⟨b, off, none⟩ ∧ ∀ i, i < n → w.cell? ⟨b, off + i * 4, none⟩ = some (.int .i64 (rk i)) ∧ w.cell? ⟨b, off + i * 4 + 1, none⟩ = some (.string (mb i)) ∧
    w.cell? ⟨b, off + i * 4 + 2, none⟩ = some (.int .i64 (sc i)) ∧ w.cell? ⟨b, off + i * 4 + 3, none⟩ = some (.int .i64 (sr i))

/-- An answer that bounds a length. -/
def Says (len bound : Nat) (good : Bool) (w : World) (e : Ending) (w' : World) : Prop := ∃ q : Bool, e = .returned (.bool q) ∧ (q = good → len ≤ bound) ∧ w = w'

set_option maxRecDepth 100000 in
set_option maxHeartbeats 1000000 in
theorem bytesR (ao : Option Addr) (len cap : Nat) (rk : Nat → Int) (mb : Nat → ByteArray) (sc sr : Nat → Int) (av : Int) (w : World) (hm : len ≤ 9223372036854775807) (hms : ∀ i, (mb i).size ≤ 9223372036854775807) (hc : Row4 w ao len rk mb sc sr) :
    Calls Trym.prog 6 #[.slice ao len cap, .int .i64 av] w fun e w' => Says len 1048576 true w e w' := by
  by_cases hl : len ≤ 1048576
  · go_enter Trym.func6, Trym.ntmps6
    go_wp2
    go_loop [5, 6] (fun s5 s6 => ∃ (i : Nat) (z : Int), i ≤ len ∧ s6 = .int .i64 i ∧ s5 = .int .i64 z ∧ 0 ≤ z ∧ z ≤ 1048576) (fun _ s6 => len - (intOf s6).toNat)
    case atStart => exact ⟨0, _, by omega, rfl, rfl, by omega, by omega⟩
    case round =>
      obtain ⟨i, z, hi, rfl, rfl, hz0, hz1⟩ := hrel
      by_cases hlt : i < len
      · obtain ⟨b, off, rfl, hcc⟩ := hc (by omega)
        have h1 := (hcc i hlt).2.1
        have h2 := hms i
        clear hcc hc hms
        go_wp2
        · go_ret
          exact ⟨false, rfl, fun h => (by cases h), rfl⟩
        · go_ret
          exact ⟨false, rfl, fun h => (by cases h), rfl⟩
        · go_round
          case rel => exact ⟨i + 1, _, by omega, by go_num, rfl, by omega, by omega⟩
          case measure => simp [intOf]; omega
      · go_wp2
        go_ret
        exact ⟨true, rfl, fun _ => hl, rfl⟩
  · go_enter Trym.func6, Trym.ntmps6
    go_wp2
    go_ret
    exact ⟨false, rfl, fun h => (by cases h), rfl⟩

set_option maxRecDepth 100000 in
set_option maxHeartbeats 1000000 in
theorem tooBig (ao : Option Addr) (len cap : Nat) (rk : Nat → Int) (mb : Nat → ByteArray) (sc sr : Nat → Int) (w : World) (hm : len ≤ 1048576) (hms : ∀ i, (mb i).size ≤ 9223372036854775807) (hc : Row4 w ao len rk mb sc sr) :
    Calls Trym.prog 7 #[.slice ao len cap] w fun e w' => Says len 26214 false w e w' := by
  by_cases hl : len ≤ 26214
  · go_enter Trym.func7, Trym.ntmps7
    go_wp2
    go_loop [3, 4] (fun s5 s6 => ∃ (i : Nat) (z : Int), i ≤ len ∧ s6 = .int .i64 i ∧ s5 = .int .i64 z ∧ 0 ≤ z ∧ z ≤ 1048576) (fun _ s6 => len - (intOf s6).toNat)
    case atStart => exact ⟨0, _, by omega, rfl, rfl, by omega, by omega⟩
    case round =>
      obtain ⟨i, z, hi, rfl, rfl, hz0, hz1⟩ := hrel
      by_cases hlt : i < len
      · obtain ⟨b, off, rfl, hcc⟩ := hc (by omega)
        have h1 := (hcc i hlt).2.1
        have h2 := hms i
        clear hcc hc hms
        go_wp2
        · go_ret
          exact ⟨true, rfl, fun h => (by cases h), rfl⟩
        · go_ret
          exact ⟨true, rfl, fun h => (by cases h), rfl⟩
        · go_round
          case rel => exact ⟨i + 1, _, by omega, by go_num, rfl, by omega, by omega⟩
          case measure => simp [intOf]; omega
      · go_wp2
        go_ret
        exact ⟨false, rfl, fun _ => hl, rfl⟩
  · go_enter Trym.func7, Trym.ntmps7
    go_wp2
    go_ret
    exact ⟨true, rfl, fun h => (by cases h), rfl⟩
end Go.Proofs.Qxb6605393aMods
