import Derived.Test.Qxb6605190aModsClone
namespace Go.Proofs.Qxb6605190aMods
open Go.ChangeShapes Go.WideShapes Go.ChangeAt Go.RowKit
open Mi

def wgt : Nat → Int
  | 0 => 100000 | 1 => 10000 | 2 => 1000 | 3 => 100 | 4 => 10 | 5 => 1 | _ => 0

theorem wgt_pos (d : Nat) (h : d < 6) : 1 ≤ wgt d := by
  rcases (by omega : d = 0 ∨ d = 1 ∨ d = 2 ∨ d = 3 ∨ d = 4 ∨ d = 5) with rfl | rfl | rfl | rfl | rfl | rfl <;> simp [wgt]

set_option maxRecDepth 100000 in
set_option maxHeartbeats 1000000 in
theorem frac_any (ao : Option Addr) (len cap lo : Nat) (f : Nat → Int) (w : World) (hm : len ≤ 1048576) (hf : ∀ i, 0 ≤ f i ∧ f i ≤ 255) (hc : Row8 w ao len f) (h1 : lo ≤ len) :
    Calls Trym.prog 20 #[.slice ao len cap, .int .i64 lo] w fun e w' => e = .returned (.int .i64 (frZ f lo (len - lo))) ∧ w' = w := by
  go_enter Trym.func20, Trym.ntmps20
  go_wp2
  go_loop [5, 6, 7] (fun s5 s6 s7 => ∃ (k dg : Nat) (m v wt : Int), lo + k ≤ len ∧ dg ≤ 6 ∧ s7 = .int .i64 ((lo + k : Nat) : Int) ∧ s6 = .int .i64 v ∧ s5 = .int .i64 wt ∧ Hid (wt = wgt dg) ∧ 0 ≤ v ∧ v ≤ 999999 ∧ Hid (frS f lo k = (m, dg)) ∧ Hid (v = m * 10 ^ (6 - dg))) (fun _ _ s7 => len - (intOf s7).toNat)
  case atStart => exact ⟨0, 0, 0, 0, 100000, by omega, by omega, rfl, rfl, rfl, rfl, by omega, by omega, rfl, rfl⟩
  case round =>
    obtain ⟨k, dg, m, v, wt, hk, hdg, rfl, rfl, rfl, HW, hv0, hv1, HF, HV⟩ := hrel
    by_cases hlt : lo + k < len
    · by_cases h6 : dg = 6
      · subst h6
        obtain rfl : wt = 0 := HW.out
        have HE : Hid (frZ f lo (len - lo) = v) := by
          unfold Hid frZ; rw [frS_full HF.out (by omega), HV.out]
        go_wp2
        go_ret
        exact ⟨ret_int HE.out.symm, rfl⟩
      · obtain ⟨b, off, rfl, hcc⟩ := hc (by omega)
        have hck := hcc (lo + k) (by omega)
        have hfk := hf (lo + k)
        clear hcc hc hf
        by_cases hx : 48 ≤ f (lo + k) ∧ f (lo + k) ≤ 57
        · obtain ⟨x1, x2⟩ := hx
          have HN := frS_yes HF.out x1 x2 (by omega)
          have HNN : Hid (frS f lo (k + 1) = (m * 10 + (f (lo + k) - 48), dg + 1)) := HN
          have hb := frS_bd f lo (k + 1)
          rw [HN] at hb
          obtain ⟨b1, b2, b3⟩ := hb
          have HB : Hid (0 ≤ m * 10 + (f (lo + k) - 48) ∧ m * 10 + (f (lo + k) - 48) < 10 ^ (dg + 1)) := ⟨b2, b3⟩
          clear HN b1 b2 b3
          rcases (by omega : dg = 0 ∨ dg = 1 ∨ dg = 2 ∨ dg = 3 ∨ dg = 4 ∨ dg = 5) with rfl | rfl | rfl | rfl | rfl | rfl
          · obtain rfl : wt = 100000 := HW.out
            go_wp2
            go_round
            case rel =>
              have := HB.out
              have hv := HV.out
              refine ⟨k + 1, 1, _, _, 10000, by omega, by omega, by go_num, rfl, rfl, rfl, by omega, ?_, HNN, ?_⟩
              · simp at this hv; omega
              · unfold Hid; simp at hv ⊢; omega
            case measure => simp [intOf]; omega
          · obtain rfl : wt = 10000 := HW.out
            go_wp2
            go_round
            case rel =>
              have := HB.out
              have hv := HV.out
              refine ⟨k + 1, 2, _, _, 1000, by omega, by omega, by go_num, rfl, rfl, rfl, by omega, ?_, HNN, ?_⟩
              · simp at this hv; omega
              · unfold Hid; simp at hv ⊢; omega
            case measure => simp [intOf]; omega
          · obtain rfl : wt = 1000 := HW.out
            go_wp2
            go_round
            case rel =>
              have := HB.out
              have hv := HV.out
              refine ⟨k + 1, 3, _, _, 100, by omega, by omega, by go_num, rfl, rfl, rfl, by omega, ?_, HNN, ?_⟩
              · simp at this hv; omega
              · unfold Hid; simp at hv ⊢; omega
            case measure => simp [intOf]; omega
          · obtain rfl : wt = 100 := HW.out
            go_wp2
            go_round
            case rel =>
              have := HB.out
              have hv := HV.out
              refine ⟨k + 1, 4, _, _, 10, by omega, by omega, by go_num, rfl, rfl, rfl, by omega, ?_, HNN, ?_⟩
              · simp at this hv; omega
              · unfold Hid; simp at hv ⊢; omega
            case measure => simp [intOf]; omega
          · obtain rfl : wt = 10 := HW.out
            go_wp2
            go_round
            case rel =>
              have := HB.out
              have hv := HV.out
              refine ⟨k + 1, 5, _, _, 1, by omega, by omega, by go_num, rfl, rfl, rfl, by omega, ?_, HNN, ?_⟩
              · simp at this hv; omega
              · unfold Hid; simp at hv ⊢; omega
            case measure => simp [intOf]; omega
          · obtain rfl : wt = 1 := HW.out
            go_wp2
            go_round
            case rel =>
              have := HB.out
              have hv := HV.out
              refine ⟨k + 1, 6, _, _, 0, by omega, by omega, by go_num, rfl, rfl, rfl, by omega, ?_, HNN, ?_⟩
              · simp at this hv; omega
              · unfold Hid; simp at hv ⊢; omega
            case measure => simp [intOf]; omega
        · have HN : Hid (frS f lo (k + 1) = (m, dg)) := frS_no HF.out (by omega)
          have hw : 1 ≤ wt := by rw [HW.out]; exact wgt_pos dg (by omega)
          go_wp2
          all_goals
            go_round
            case rel => exact ⟨k + 1, dg, m, v, wt, by omega, by omega, by go_num, rfl, rfl, HW, hv0, hv1, HN, HV⟩
            case measure => simp [intOf]; omega
    · have HE : Hid (frZ f lo (len - lo) = v) := by
        unfold Hid frZ; rw [show len - lo = k by omega, HF.out, HV.out]
      go_wp2
      go_ret
      exact ⟨ret_int HE.out.symm, rfl⟩
end Go.Proofs.Qxb6605190aMods
