/-
  THE PROOF OF 'Rows.FnMicrosecondsMatchesSplitModelSaid': the shell of the guide's tool, its walk filled.
-/
import Derived.Test.Qxb6605190aModsRows
import Derived.WalkKit
import Derived.ProofKit
import Derived.OpenShut
import Derived.ShutString
import Derived.ChangeOld
import Derived.Below
import Derived.Test.Qxb6605190aModsModel
namespace Go.Proofs.Qxb6605190aMods.fnMicrosecondsMatchesSplitModel
open Go.ChangeShapes Go.WideShapes Go.ChangeAt Go.RowKit
open Go.ChangeMaps (open_string shut_string)
set_option linter.unusedVariables false

theorem own : ownKnob Trym.prog.godebug = none := by kernel_rfl
theorem laidOut : laidOutB Trym.prog = true := by kernel_rfl

/-- WHAT THE WALK IS TOLD OF A SLICE OF INTEGERS THAT CAME IN: it is nil; or it leads to a row of 'cap' cells, the numbers 'zs' (the first 'len' are its elements, the rest its spare room), each fitting its kind. -/
def IsRow (k : IntKind) (w : World) (a : Option Addr) (len cap : Nat) (zs : List Int) : Prop :=
  (a = none ∧ len = 0 ∧ cap = 0 ∧ zs = []) ∨
  ∃ x, a = some x ∧ len ≤ cap ∧ cap ≤ maxLen ∧ zs.length = cap ∧ (∀ i, i < zs.length → w.cell? (x.add i) = some (.int k (zs.getD i 0))) ∧ ∀ n ∈ zs, (Lit.int k n).wf = true

/-! ### THE WALK -/
open Mi
theorem zzmicro_any (ao : Option Addr) (len cap : Nat) (f : Nat → Int) (w : World) (hl : len ≤ cap) (hm : len ≤ 1099511627776) (hf : ∀ i, 0 ≤ f i ∧ f i ≤ 255)
    (hc : Row8 w ao len f) :
    Calls Trym.prog 9 #[.slice ao len cap] w fun e w' => e = .returned (.int .i64 (wrap64 (microZ f len))) ∧ Below w.heap.size w w' := by
  go_enter Trym.func9, Trym.ntmps9
  go_wp2_with fail
  refine (micro_any ao len cap f _ hl hm hf hc).mono ?_
  rintro e w' ⟨rfl, hb⟩
  go_wp2
  go_ret
  exact ⟨rfl, hb⟩

theorem bytes_no (ao : Option Addr) (len cap : Nat) (w : World) (h : 1048576 < len) (hm : len ≤ 9223372036854775807) :
    Calls Trym.prog 7 #[.slice ao len cap] w fun e w' => e = .returned (.bool false) ∧ w = w' := by
  go_enter Trym.func7, Trym.ntmps7
  go_wp2
  go_ret
  exact ⟨rfl, rfl⟩
theorem bytes_yes (ao : Option Addr) (len cap : Nat) (w : World) (h : len ≤ 1048576) :
    Calls Trym.prog 7 #[.slice ao len cap] w fun e w' => e = .returned (.bool true) ∧ w = w' := by
  go_enter Trym.func7, Trym.ntmps7
  go_wp2
  go_ret
  exact ⟨rfl, rfl⟩

theorem row_below {w w' : World} {ao : Option Addr} {n : Nat} {f : Nat → Int} (h : Row8 w ao n f) (hb : Below w.heap.size w w') : Row8 w' ao n f := by
  intro hn
  obtain ⟨b, off, e, hc⟩ := h hn
  exact ⟨b, off, e, fun i hi => cell_later hb (hc i hi)⟩

theorem walk_fn (ao : Option Addr) (len cap : Nat) (f : Nat → Int) (w : World) (hm : len ≤ 9223372036854775807) (hn : ao = none → len = 0) (hf : ∀ i, 0 ≤ f i ∧ f i ≤ 255) (hc : Row8 w ao len f) :
    Calls Trym.prog 3 #[.slice ao len cap] w fun e w' => e = .returned (.bool true) ∧ Below w.heap.size w w' := by
  by_cases hl : len ≤ 1048576
  · go_enter Trym.func3, Trym.ntmps3
    go_upto_region 3 with (go_at_call 7; refine (bytes_yes ao len cap _ hl).mono ?_; rintro e w' ⟨rfl, rfl⟩)
    go_upto_region 6 with (go_at_call 8; refine (clone_any ao len cap f _ hl hn hc).mono ?_; rintro e w1 ⟨ao1, rfl, hr1, hb1⟩)
    have HR : Hid (Row8 w1 ao1 len f) := hr1
    have HB : Hid (Below w.heap.size w w1) := hb1
    have HF : Hid (∀ i, 0 ≤ f i ∧ f i ≤ 255) := hf
    clear hr1 hb1 hc hf hn
    go_wp2_with fail
    refine (zzmicro_any ao1 len len f _ (by omega) (by omega) HF.out HR.out).mono ?_
    rintro e w2 ⟨rfl, hb2⟩
    have HR2 : Hid (Row8 w2 ao1 len f) := row_below HR.out hb2
    have HB2 : Hid (Below w.heap.size w w2) := HB.out.trans (hb2.mono HB.out.size)
    clear hb2
    go_wp2_with fail
    refine (model_any ao1 len len f _ (by omega) HF.out HR2.out).mono ?_
    rintro e w3 ⟨rfl, rfl⟩
    go_wp2
    go_ret
    exact ⟨by simp, HB2.out⟩
  · go_enter Trym.func3, Trym.ntmps3
    go_wp2_with (go_at_call 7; refine (bytes_no ao len cap _ (by omega) hm).mono ?_; rintro e w' ⟨rfl, rfl⟩)
    go_ret
    exact ⟨rfl, Below.refl _ _⟩

theorem walk (a0 : Option Addr) (len0 cap0 : Nat) (z0 : List Int) (w : World) (w0 : IsRow .u8 w a0 len0 cap0 z0) :
    Calls Trym.prog 3 #[.slice a0 len0 cap0] w fun e w' => e = .returned (.bool true) ∧ Below w.heap.size w w' := by
  rcases w0 with ⟨rfl, rfl, rfl, rfl⟩ | ⟨x, rfl, hl, hm, hz, hc, hw⟩
  · exact walk_fn none 0 0 (fun _ => 0) w (by omega) (fun _ => rfl) (fun _ => by omega) (fun h => absurd h (by omega))
  · have hr := range_u8 hw
    refine walk_fn (some x) len0 cap0 (fun i => z0[i]?.getD 0) w (by unfold maxLen at hm; omega) (fun h => by cases h) hr (fun hp => ?_)
    obtain ⟨b, off, rfl, hcc⟩ := ints_at hc (by omega)
    exact ⟨b, off, rfl, fun i hi => by rw [hcc i (by omega)]; rfl⟩

/-! ### THE ROW's STEP: WRITTEN OUT: LEAVE IT -/
set_option maxRecDepth 100000 in
theorem lifted (os : Os) (started : os.Started) (H : Type) (enc : TypeId × Value → H) :
    ReturnsInHanded {} Trym.checked os 3 .any (Rows.fnMicrosecondsMatchesSplitModelSpec.pre6 enc Trym.prog Trym.f3 Rows.fnMicrosecondsMatchesSplitModelRow.domain false) (Rows.fnMicrosecondsMatchesSplitModelSpec.post enc Trym.prog Trym.f3 false true false false) := by
  refine returnsInHanded_of_change (C := Trym.checked) own started (by kernel_rfl) Trym.func3
    (ChangeSpec.witness6 (enc := enc) (C := Trym.checked) false ⟨#[], #[.slice none 0 0], []⟩ 8 (by kernel_rfl) (by kernel_rfl) (by kernel_rfl) (by kernel_rfl)) ?_
  intro W base args ds gs before hval0 hW hcnd _
  have hval : ∀ (j : Nat) t v, Trym.f3.params[j]? = some t → args[j]? = some v → Value.okWide Trym.prog W .any base t v := hval0
  have hW' := hW
  obtain ⟨p, q, hA0, hV, rfl, hfz, hnd⟩ := hW
  have hA : DataW.TrodAll enc Trym.prog W 0 (fun _ => true) true Trym.f3.params.toList args.toList ds p := hA0
  rw [Trym.params3] at hA hval
  obtain ⟨v0, vs0, d0, ds0, p0, q0, hargs, rfl, rfl, h0, r0⟩ := trodAll_cons hA
  obtain ⟨rfl, rfl, rfl⟩ := trodAll_nil r0
  obtain rfl : args = #[v0] := by cases args; simp_all
  obtain ⟨rfl, rfl⟩ := trodVars_none hV
  obtain ⟨a0, len0, cap0, rfl⟩ := okWide_slice Trym.underlying22 (hval 0 22 v0 rfl rfl)
  have k0 := h0
  have lt0 : ∀ x ∈ p0, x.block < W.heap.size := by obtain ⟨m, hm⟩ := k0; exact DataW.trod_lt m _ _ _ hm
  obtain ⟨z0, w0⟩ : ∃ zs, IsRow .u8 W a0 len0 cap0 zs := by
    obtain ⟨fuel, hf⟩ := h0
    rcases open_ints Trym.underlying22 Trym.underlying5 (by kernel_rfl) hf with ⟨hcs, _⟩ | ⟨x, l, c, zs, hcs, _, hl, hm, hz, _, hcell, hwz⟩
    · simp [Value.cells] at hcs
      obtain ⟨rfl, rfl, rfl⟩ := hcs
      exact ⟨[], .inl ⟨rfl, rfl, rfl, rfl⟩⟩
    · simp [Value.cells] at hcs
      obtain ⟨rfl, rfl, rfl⟩ := hcs
      exact ⟨zs, .inr ⟨_, rfl, hl, hm, by simpa using hz, hcell, hwz⟩⟩
  clear hA0 hval0
  refine (walk a0 len0 cap0 z0 W w0).mono fun e W' ⟨he, bel⟩ => ?_
  subst he
  exact ⟨_, rfl, _, _, _, [], _, [], hW', trodAll_mk1 (shut_bool Trym.underlying4 _), (trodAll_cons_mk (Below.trod laidOut (by kernel_rfl) (of_decide_eq_true (by kernel_rfl)) k0 bel lt0) trodAll_mk0), rfl, bel.frame _, fun h => by cases h⟩

theorem over : Rows.fnMicrosecondsMatchesSplitModelRow.holds Trym.pinned (OpenSpec.ofChange Rows.fnMicrosecondsMatchesSplitModelSpec) :=
  OpenClaim.holds_of_wide 3 Trym.f3 rfl rfl rfl rfl rfl rfl rfl ⟨rfl, rfl, rfl, rfl, rfl⟩ rfl rfl rfl rfl rfl (by kernel_rfl) Trym.func3 (by kernel_rfl)
    (of_decide_eq_true (by kernel_rfl)) (by unfold Func.isWrapper; first | (rw [if_pos (by decide +kernel)]; kernel_rfl) | (rw [if_neg (by decide +kernel)]; exact ⟨rfl, rfl⟩))
    (fun os started H enc _ => lifted os started H enc)

/-- ████ THE STATEMENT ████ -/
theorem proved : Rows.FnMicrosecondsMatchesSplitModelSaid := over
#print axioms proved
end Go.Proofs.Qxb6605190aMods.fnMicrosecondsMatchesSplitModel
