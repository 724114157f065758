import Derived.Test.Qxb6605190aModsRows
import Derived.Test.Qxb6605190aModsPlain
import Derived.WalkKit
import Derived.ProofKit
import Derived.WalkSpells
import Derived.Deep.QuietTactic
import Derived.BigQuiet
import Derived.Deep.DeepCutAuto
import Derived.WalkSmall
namespace Go.Proofs.Qxb6605190aMods
open Go.ChangeShapes Go.WideShapes Go.ChangeAt Go.RowKit
open Mi

theorem ret_int {k : IntKind} {a b : Int} (h : a = b) : Ending.returned (.int k a) = .returned (.int k b) := by rw [h]

def Row8 (w : World) (ao : Option Addr) (n : Nat) (f : Nat → Int) : Prop :=
  0 < n → ∃ b off, ao = some ⟨b, off, none⟩ ∧ ∀ i, i < n → w.cell? ⟨b, off + i, none⟩ = some (.int .u8 (f i))

set_option maxRecDepth 100000 in
set_option maxHeartbeats 1000000 in
theorem micro_any (ao : Option Addr) (len cap : Nat) (f : Nat → Int) (w : World) (hl : len ≤ cap) (hm : len ≤ 1099511627776) (hf : ∀ i, 0 ≤ f i ∧ f i ≤ 255)
    (hc : Row8 w ao len f) :
    Calls Trym.prog 18 #[.slice ao len cap] w fun e w' => e = .returned (.int .i64 (wrap64 (microZ f len))) ∧ Below w.heap.size w w' := by
  go_enter Trym.func18, Trym.ntmps18
  go_upto_region 2 with fail
  go_cut [19] from 11 to 19 (fun s19 wr => ∃ q : Bool, s19 = .bool q ∧ w = wr ∧ ((q = true ∧ 0 < len ∧ (f 0 == 45) = true) ∨ (q = false ∧ (len = 0 ∨ (f 0 == 45) = false))))
  case first =>
    rcases Nat.eq_zero_or_pos len with h0 | h0
    · subst h0
      go_wp2
      go_meet
      case rel => exact ⟨false, rfl, rfl, .inr ⟨rfl, by simp⟩⟩
    · obtain ⟨b, off, rfl, hcc⟩ := hc h0
      have hc0 := hcc 0 h0
      simp only [Nat.add_zero] at hc0
      cases hq : (f 0 == 45)
      · go_wp2
        go_meet
        case rel => exact ⟨false, rfl, rfl, .inr ⟨rfl, .inr hq⟩⟩
      · go_wp2
        go_meet
        case rel => exact ⟨true, rfl, rfl, .inl ⟨rfl, h0, hq⟩⟩
  case rest =>
    obtain ⟨q, rfl, rfl, hq⟩ := hcut
    go_upto_if 19 with fail
    go_cut [0, 3] from 11 to 21 (fun s0 s3 wr => ∃ ao2 n cap2 g sg, s0 = .slice ao2 n cap2 ∧ s3 = .int .i64 sg ∧ n ≤ len ∧ Row8 wr ao2 n g ∧ (∀ i, 0 ≤ g i ∧ g i ≤ 255) ∧ Hid (microZ f len = sg * total (stAt g n)) ∧ Hid (wr.heap.size = w.heap.size) ∧ Below w.heap.size w wr)
    case first =>
      rcases hq with ⟨rfl, h0, h1⟩ | ⟨rfl, h1⟩
      · obtain ⟨b, off, rfl, hcc⟩ := hc h0
        have hmz : microZ f len = -1 * total (stAt (fun i => f (i + 1)) (len - 1)) := by
          unfold microZ
          rw [if_pos ⟨h0, by simpa using h1⟩]
        have HM : Hid (microZ f len = -1 * total (stAt (fun i => f (i + 1)) (len - 1))) := hmz
        clear hmz h1 hc
        by_cases h1 : cap = 1
        · subst h1
          obtain rfl : len = 1 := by omega
          go_wp2
          go_quiet (fail)
          go_wp2
          go_meet
          case rel => exact ⟨_, _, _, fun i => f (i + 1), -1, rfl, rfl, by omega, fun h => absurd h (by omega), fun i => hf (i + 1), HM, by simp [Hid], below_drewN (Below.refl _ _) _⟩
        · have h2 : ¬ cap = 1 := h1
          go_wp2
          go_quiet (fail)
          go_wp2
          go_meet
          case rel => exact ⟨_, _, _, fun i => f (i + 1), -1, rfl, rfl, by omega, fun h => ⟨_, _, rfl, fun i hi => by have := hcc (i + 1) (by omega); rw [show off + 1 + i = off + (i + 1) by omega]; exact this⟩, fun i => hf (i + 1), HM, by simp [Hid], below_drewN (Below.refl _ _) _⟩
      · go_wp2
        go_meet
        case rel => 
          refine ⟨_, _, _, f, 1, rfl, rfl, Nat.le_refl _, hc, hf, ?_, rfl, Below.refl _ _⟩
          unfold Hid microZ
          rw [if_neg]
          rcases h1 with h1 | h1
          · omega
          · simp at h1; omega
    case rest =>
      obtain ⟨ao2, n, cap2, g, sg, rfl, rfl, hn, hrow, hg, heq, hsz, hbel⟩ := hcut
      go_wp2
      go_loopw [5, 6, 7, 8, 24] (fun s5 s6 s7 s8 s24 wr => ∃ (k part dg : Nat) (a b c mi : Int) (fr : Bool), k ≤ n ∧ part ≤ 2 ∧ dg ≤ 6 ∧ Hid (stAt g k = ⟨part, a, b, c, mi, dg, fr⟩) ∧ s24 = .int .i64 k ∧ s5 = .int .i64 part ∧ s6 = .int .i64 (wrap64 mi) ∧ s7 = .int .i64 dg ∧ s8 = .bool fr ∧ wr = wc.alloc (.cells #[.int .i64 (wrap64 a), .int .i64 (wrap64 b), .int .i64 (wrap64 c)] 36)) (fun _ _ _ _ s24 _ => n - (intOf s24).toNat)
      case atStart => exact ⟨0, 0, 0, 0, 0, 0, 0, false, Nat.zero_le _, by omega, by omega, rfl, rfl, rfl, by rw [wrap_zero], rfl, rfl, by rw [wrap_zero]⟩
      case round =>
        obtain ⟨k, part, dg, a, b, c, mi, fr, hk, hpart, hdg, HS, rfl, rfl, rfl, rfl, rfl, rfl⟩ := hrel
        by_cases hlt : k < n
        · obtain ⟨b0, off, rfl, hcc⟩ := hrow (by omega)
          have hck := hcc k hlt
          have hb0 := World.block_lt_of_cell? _ _ hck
          have hgk := hg k
          clear hcc hrow hq hf hc
          by_cases w1 : g k = 58 ∧ part < 2
          · obtain ⟨w1, w2⟩ := w1
            have w3 : 58 ≤ g k := by omega
            have w4 : g k ≤ 58 := by omega
            have HN : Hid (stAt g (k + 1) = ⟨part + 1, a, b, c, mi, dg, fr⟩) := stAt_next HS.out (step_colon w1 w2)
            clear w1
            go_wp2
            go_roundw
            case rel => exact ⟨k + 1, part + 1, dg, a, b, c, mi, fr, by omega, by omega, by omega, HN, by go_num, by go_num, rfl, by go_num, rfl, rfl⟩
            case measure => simp [intOf]; omega
          by_cases w2 : g k = 46
          · have w3 : 46 ≤ g k := by omega
            have w4 : g k ≤ 46 := by omega
            have HN : Hid (stAt g (k + 1) = ⟨part, a, b, c, mi, dg, true⟩) := stAt_next HS.out (step_dot w2)
            clear w1 w2
            go_wp2
            go_roundw
            case rel => exact ⟨k + 1, part, dg, a, b, c, mi, true, by omega, by omega, by omega, HN, by go_num, by go_num, rfl, by go_num, rfl, rfl⟩
            case measure => simp [intOf]; omega
          by_cases w3 : 48 ≤ g k ∧ g k ≤ 57
          · obtain ⟨w3, w4⟩ := w3
            clear w1 w2
            cases fr
            · obtain rfl | rfl | rfl : part = 0 ∨ part = 1 ∨ part = 2 := by omega
              · skip
                have HN : Hid (stAt g (k + 1) = ⟨0, a * 10 + (g k - 48), b, c, mi, dg, false⟩) := stAt_next HS.out (step_h w3 w4)
                go_wp2
                go_roundw
                case rel => exact ⟨k + 1, 0, dg, a * 10 + (g k - 48), b, c, mi, false, by omega, by omega, by omega, HN, by go_num, by go_num, rfl, by go_num, rfl, by rw [wrap_step]⟩
                case measure => simp [intOf]; omega
              · skip
                have HN : Hid (stAt g (k + 1) = ⟨1, a, b * 10 + (g k - 48), c, mi, dg, false⟩) := stAt_next HS.out (step_m w3 w4)
                go_wp2
                go_roundw
                case rel => exact ⟨k + 1, 1, dg, a, b * 10 + (g k - 48), c, mi, false, by omega, by omega, by omega, HN, by go_num, by go_num, rfl, by go_num, rfl, by rw [wrap_step]⟩
                case measure => simp [intOf]; omega
              · skip
                have HN : Hid (stAt g (k + 1) = ⟨2, a, b, c * 10 + (g k - 48), mi, dg, false⟩) := stAt_next HS.out (step_s w3 w4)
                go_wp2
                go_roundw
                case rel => exact ⟨k + 1, 2, dg, a, b, c * 10 + (g k - 48), mi, false, by omega, by omega, by omega, HN, by go_num, by go_num, rfl, by go_num, rfl, by rw [wrap_step]⟩
                case measure => simp [intOf]; omega
            · by_cases w5 : dg < 6
              · skip
                have HN : Hid (stAt g (k + 1) = ⟨part, a, b, c, mi * 10 + (g k - 48), dg + 1, true⟩) := stAt_next HS.out (step_frac w3 w4 w5)
                go_wp2
                go_roundw
                case rel => exact ⟨k + 1, part, dg + 1, a, b, c, mi * 10 + (g k - 48), true, by omega, by omega, by omega, HN, by go_num, by go_num, by rw [wrap_step], by go_num, rfl, rfl⟩
                case measure => simp [intOf]; omega
              · skip
                have HN : Hid (stAt g (k + 1) = ⟨part, a, b, c, mi, dg, true⟩) := stAt_next HS.out (step_full w3 w4 w5)
                go_wp2
                go_roundw
                case rel => exact ⟨k + 1, part, dg, a, b, c, mi, true, by omega, by omega, by omega, HN, by go_num, by go_num, rfl, by go_num, rfl, rfl⟩
                case measure => simp [intOf]; omega
          · have HN : Hid (stAt g (k + 1) = ⟨part, a, b, c, mi, dg, fr⟩) := stAt_next HS.out (step_other w1 w2 w3)
            go_wp2
            all_goals
              go_roundw
              case rel => exact ⟨k + 1, part, dg, a, b, c, mi, fr, by omega, hpart, hdg, HN, by go_num, rfl, rfl, rfl, rfl, rfl⟩
              case measure => simp [intOf]; omega
        · obtain rfl : k = n := by omega
          go_wp2
          go_loop [6, 7] (fun s6 s7 => ∃ j : Nat, dg ≤ j ∧ j ≤ 6 ∧ s7 = .int .i64 j ∧ s6 = .int .i64 (wrap64 (mi * 10 ^ (j - dg)))) (fun _ s7 => 6 - (intOf s7).toNat)
          case atStart => exact ⟨dg, Nat.le_refl _, hdg, rfl, by rw [Nat.sub_self, Int.pow_zero, Int.mul_one]⟩
          case round =>
            obtain ⟨j, hj1, hj2, rfl, rfl⟩ := hrel
            by_cases hj : j < 6
            · go_wp2
              go_round
              case rel => exact ⟨j + 1, by omega, by omega, by go_num, by rw [wrap_pow _ _ _ hj1]⟩
              case measure => simp [intOf]; omega
            · obtain rfl : j = 6 := by omega
              go_wp2
              go_ret
              refine ⟨ret_int ?_, hbel.alloc (by rw [hsz.out]; exact Nat.le_refl _) _⟩
              rw [total_wrap, heq.out, HS.out]
              rfl
end Go.Proofs.Qxb6605190aMods
