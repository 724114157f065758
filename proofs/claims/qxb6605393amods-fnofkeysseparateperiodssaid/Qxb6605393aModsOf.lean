import Derived.Test.Qxb6605393aModsRows
import Derived.WalkKit
import Derived.ProofKit
import Derived.WalkSpells
import Derived.WalkLawsBesides
import Derived.Deep.QuietTactic
import Derived.BigQuiet
import Derived.Deep.DeepCutAuto
import Derived.Deep.CutBlock
import Derived.WalkSmall
import Derived.Test.Qxb6605393aModsKeys
namespace Go.Proofs.Qxb6605393aMods
open Go.ChangeShapes Go.WideShapes Go.ChangeAt Go.RowKit

theorem ret_two {x y x' y' : ByteArray} (h1 : x = x') (h2 : y = y') : Ending.returned (.agg #[.string x, .string y]) = .returned (.agg #[.string x', .string y']) := by rw [h1, h2]

set_option maxRecDepth 100000 in
set_option maxHeartbeats 1000000 in
theorem of_any (b r sp nm : ByteArray) (w : World) (h : b.size + r.size + sp.size + nm.size ≤ 2097152) :
    Calls Trym.prog 17 #[.agg #[.string b, .string r], .agg #[.string sp, .string nm]] w fun e w' => e = .returned (.agg #[.string (ordK b sp nm), .string (memK b sp nm)]) ∧ Below w.heap.size w w' := by
  cases hq : (sp.toList == [97, 108, 108])
  · go_enter Trym.func17, Trym.ntmps17
    go_wp2
    refine bodyPost_ret (v := .agg #[.string ((b ++ (⟨#[58]⟩ ++ sp ++ ⟨#[58]⟩ ++ nm)) ++ ⟨#[58, 111, 114, 100, 101, 114]⟩), .string ((b ++ (⟨#[58]⟩ ++ sp ++ ⟨#[58]⟩ ++ nm)) ++ ⟨#[58, 109, 101, 109, 98, 101, 114, 115]⟩)]) (by simp [results, Trym.results17, go_sem]) rfl ⟨ret_two ?_ ?_, ?_⟩
    · simp [ordK, baseK, hq]
    · simp [memK, baseK, hq]
    · exact (((Below.refl _ _).alloc (Nat.le_refl _) _).alloc (by simp) _).alloc (by simp; omega) _
  · go_enter Trym.func17, Trym.ntmps17
    go_wp2
    refine bodyPost_ret (v := .agg #[.string (b ++ ⟨#[58, 111, 114, 100, 101, 114]⟩), .string (b ++ ⟨#[58, 109, 101, 109, 98, 101, 114, 115]⟩)]) (by simp [results, Trym.results17, go_sem]) rfl ⟨ret_two ?_ ?_, ?_⟩
    · simp [ordK, baseK, hq]
    · simp [memK, baseK, hq]
    · exact (((Below.refl _ _).alloc (Nat.le_refl _) _).alloc (by simp) _).alloc (by simp; omega) _

set_option maxRecDepth 100000 in
set_option maxHeartbeats 1000000 in
theorem zzof_any (b r sp nm : ByteArray) (w : World) (h : b.size + r.size + sp.size + nm.size ≤ 2097152) :
    Calls Trym.prog 15 #[.string b, .string r, .string sp, .string nm] w fun e w' => e = .returned (.tuple #[.string (ordK b sp nm), .string (memK b sp nm)]) ∧ Below w.heap.size w w' := by
  go_enter Trym.func15, Trym.ntmps15
  go_wp2_with (go_at_call 17; refine (of_any b r sp nm _ h).mono ?_; rintro e w1 ⟨rfl, hb⟩)
  go_quiet (fail)
  go_wp2
  go_ret2
  exact ⟨rfl, below_drewN (hb.trans ((Below.refl _ _).alloc (by exact Nat.le_refl _) _ |>.mono hb.size)) _⟩
end Go.Proofs.Qxb6605393aMods
