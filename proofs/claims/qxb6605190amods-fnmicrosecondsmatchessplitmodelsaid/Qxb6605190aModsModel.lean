import Derived.Test.Qxb6605190aModsFrac
import Derived.Deep.CutBlock
namespace Go.Proofs.Qxb6605190aMods
open Go.ChangeShapes Go.WideShapes Go.ChangeAt Go.RowKit
open Mi

theorem digit_at (ao : Option Addr) (len cap : Nat) (L : Int) (lo hi : Nat) (f : Nat → Int) (w : World) (hL : L = (lo : Int)) (hm : len ≤ 1048576) (hf : ∀ i, 0 ≤ f i ∧ f i ≤ 255) (hc : Row8 w ao len f) (h1 : lo ≤ hi) (h2 : hi ≤ len) :
    Calls Trym.prog 19 #[.slice ao len cap, .int .i64 L, .int .i64 hi] w fun e w' => e = .returned (.int .i64 (wrap64 (dvk f lo (hi - lo)))) ∧ w' = w := by
  subst hL; exact digit_any ao len cap lo hi f w hm hf hc h1 h2
theorem frac_at (ao : Option Addr) (len cap : Nat) (L : Int) (lo : Nat) (f : Nat → Int) (w : World) (hL : L = (lo : Int)) (hm : len ≤ 1048576) (hf : ∀ i, 0 ≤ f i ∧ f i ≤ 255) (hc : Row8 w ao len f) (h1 : lo ≤ len) :
    Calls Trym.prog 20 #[.slice ao len cap, .int .i64 L] w fun e w' => e = .returned (.int .i64 (frZ f lo (len - lo))) ∧ w' = w := by
  subst hL; exact frac_any ao len cap lo f w hm hf hc h1

theorem stAt_congr' (f g : Nat → Int) (n : Nat) (h : ∀ i, f i = g i) : stAt f n = stAt g n := by
  rw [show f = g from funext h]

set_option maxRecDepth 100000 in
set_option maxHeartbeats 2000000 in
theorem model_any (ao : Option Addr) (len cap : Nat) (f : Nat → Int) (w : World) (hm : len ≤ 1048576) (hf : ∀ i, 0 ≤ f i ∧ f i ≤ 255) (hc : Row8 w ao len f) :
    Calls Trym.prog 10 #[.slice ao len cap] w fun e w' => e = .returned (.int .i64 (wrap64 (microZ f len))) ∧ w' = w := by
  go_enter Trym.func10, Trym.ntmps10
  go_upto_region 3 with fail
  go_cut [23] from 15 to 23 (fun s23 wr => ∃ q : Bool, s23 = .bool q ∧ w = wr ∧ ((q = true ∧ 0 < len ∧ (f 0 == 45) = true) ∨ (q = false ∧ (len = 0 ∨ (f 0 == 45) = false))))
  case first =>
    rcases Nat.eq_zero_or_pos len with h0 | h0
    · subst h0
      go_wp2
      go_meet
      case rel => exact ⟨false, rfl, rfl, .inr ⟨rfl, by simp⟩⟩
    · obtain ⟨b, off, rfl, hcc⟩ := hc h0
      have hc0 := hcc 0 h0
      simp only [Nat.add_zero] at hc0
      cases hq : (f 0 == 45)
      · go_wp2
        go_meet
        case rel => exact ⟨false, rfl, rfl, .inr ⟨rfl, .inr hq⟩⟩
      · go_wp2
        go_meet
        case rel => exact ⟨true, rfl, rfl, .inl ⟨rfl, h0, hq⟩⟩
  case rest =>
    obtain ⟨q, rfl, rfl, hq⟩ := hcut
    go_upto_if 23 with fail
    go_cut [3, 4] from 15 to 23 (fun s3 s4 wr => ∃ (s : Nat) (ng : Bool), s3 = .int .i64 s ∧ s4 = .bool ng ∧ s ≤ len ∧ Hid (microZ f len = (if ng then -1 else 1) * total (stAt (fun i => f (s + i)) (len - s))) ∧ w = wr)
    case first =>
      rcases hq with ⟨rfl, h0, h1⟩ | ⟨rfl, h1⟩
      · go_wp2
        go_meet
        case rel =>
          refine ⟨1, true, rfl, rfl, by omega, ?_, rfl⟩
          unfold Hid microZ
          rw [if_pos ⟨h0, by simpa using h1⟩, stAt_congr' _ _ _ (fun i => by rw [Nat.add_comm])]
          rfl
      · go_wp2
        go_meet
        case rel =>
          refine ⟨0, false, rfl, rfl, by omega, ?_, rfl⟩
          unfold Hid microZ
          rw [if_neg (by rcases h1 with h1 | h1; · omega
                         · simp at h1; omega), stAt_congr' f (fun i => f (0 + i)) _ (fun i => by rw [Nat.zero_add])]
          rfl
    case rest =>
      obtain ⟨s, ng, rfl, rfl, hs, HM, rfl⟩ := hcut
      clear hq
      go_upto_block 0 with fail
      go_cut [5, 6] from 24 to 38 (fun s5 _ wr => ∃ d : Nat, s5 = .int .i64 d ∧ s ≤ d ∧ d ≤ len ∧ Hid (∀ j, s ≤ j → j < d → f j ≠ 46) ∧ Hid (d < len → f d = 46) ∧ w = wr)
      case first =>
        go_wp2
        go_loop [5, 6] (fun s5 s6 => ∃ i : Nat, s5 = .int .i64 len ∧ s6 = .int .i64 i ∧ s ≤ i ∧ i ≤ len ∧ Hid (∀ j, s ≤ j → j < i → f j ≠ 46)) (fun _ s6 => len - (intOf s6).toNat)
        case atStart => exact ⟨s, rfl, rfl, by omega, hs, fun j h1 h2 => absurd h2 (by omega)⟩
        case round =>
          obtain ⟨i, rfl, rfl, hi1, hi2, HD⟩ := hrel
          by_cases hlt : i < len
          · obtain ⟨b, off, rfl, hcc⟩ := hc (by omega)
            have hck := hcc i hlt
            clear hcc hc hf
            cases hq : (f i == 46)
            · go_wp2
              go_round
              case rel => exact ⟨i + 1, rfl, by go_num, by omega, by omega, fun j h1 h2 => if e : j = i then by subst e; simpa using hq else HD.out j h1 (by omega)⟩
              case measure => simp [intOf]; omega
            · go_wp2
              go_meet
              case rel => exact ⟨i, rfl, by omega, by omega, HD, fun _ => by simpa using hq, rfl⟩
          · go_wp2
            go_meet
            case rel => exact ⟨len, rfl, by omega, by omega, fun j h1 h2 => HD.out j h1 (by omega), fun h => absurd h (by omega), rfl⟩
      case rest =>
        obtain ⟨d, rfl, hd1, hd2, HD, HDD, rfl⟩ := hcut
        go_upto_block 2 with fail
        go_cut [7, 8, 9] from 39 to 53 (fun s7 s8 _ wr => w = wr ∧ ((s7 = .int .i64 (-1) ∧ s8 = .int .i64 (-1) ∧ Hid (∀ j, s ≤ j → j < d → f j ≠ 58)) ∨
          (∃ c1 : Nat, s7 = .int .i64 c1 ∧ s8 = .int .i64 (-1) ∧ s ≤ c1 ∧ c1 < d ∧ Hid (∀ j, s ≤ j → j < c1 → f j ≠ 58) ∧ Hid (f c1 = 58) ∧ Hid (∀ j, c1 < j → j < d → f j ≠ 58)) ∨
          (∃ c1 c2 : Nat, s7 = .int .i64 c1 ∧ s8 = .int .i64 c2 ∧ s ≤ c1 ∧ c1 < c2 ∧ c2 < d ∧ Hid (∀ j, s ≤ j → j < c1 → f j ≠ 58) ∧ Hid (f c1 = 58) ∧ Hid (∀ j, c1 < j → j < c2 → f j ≠ 58) ∧ Hid (f c2 = 58))))
        case first =>
          go_wp2
          go_loop [7, 8, 9] (fun s7 s8 s9 => ∃ i : Nat, s8 = .int .i64 (-1) ∧ s9 = .int .i64 i ∧ s ≤ i ∧ i ≤ d ∧ ((s7 = .int .i64 (-1) ∧ Hid (∀ j, s ≤ j → j < i → f j ≠ 58)) ∨ ∃ c1 : Nat, s7 = .int .i64 c1 ∧ s ≤ c1 ∧ c1 < i ∧ Hid (∀ j, s ≤ j → j < c1 → f j ≠ 58) ∧ Hid (f c1 = 58) ∧ Hid (∀ j, c1 < j → j < i → f j ≠ 58))) (fun _ _ s9 => d - (intOf s9).toNat)
          case atStart => exact ⟨s, rfl, rfl, by omega, hd1, .inl ⟨rfl, fun j h1 h2 => absurd h2 (by omega)⟩⟩
          case round =>
            obtain ⟨i, rfl, rfl, hi1, hi2, hcs⟩ := hrel
            by_cases hlt : i < d
            · obtain ⟨b, off, rfl, hcc⟩ := hc (by omega)
              have hck := hcc i (by omega)
              clear hcc hc hf
              rcases hcs with ⟨rfl, H1⟩ | ⟨c1, rfl, k1, k2, H1, H2, H3⟩
              · cases hq : (f i == 58)
                · go_wp2
                  go_round
                  case rel => exact ⟨i + 1, rfl, by go_num, by omega, by omega, .inl ⟨rfl, fun j h1 h2 => if e : j = i then by subst e; simpa using hq else H1.out j h1 (by omega)⟩⟩
                  case measure => simp [intOf]; omega
                · go_wp2
                  go_round
                  case rel => exact ⟨i + 1, rfl, by go_num, by omega, by omega, .inr ⟨i, rfl, hi1, by omega, H1, by simpa [Hid] using hq, fun j h1 h2 => absurd h2 (by omega)⟩⟩
                  case measure => simp [intOf]; omega
              · cases hq : (f i == 58)
                · go_wp2
                  go_round
                  case rel => exact ⟨i + 1, rfl, by go_num, by omega, by omega, .inr ⟨c1, rfl, k1, by omega, H1, H2, fun j h1 h2 => if e : j = i then by subst e; simpa using hq else H3.out j h1 (by omega)⟩⟩
                  case measure => simp [intOf]; omega
                · go_wp2
                  go_meet
                  case rel => exact ⟨rfl, .inr (.inr ⟨c1, i, rfl, rfl, k1, k2, hlt, H1, H2, H3, by simpa [Hid] using hq⟩)⟩
            · obtain rfl : i = d := by omega
              rcases hcs with ⟨rfl, H1⟩ | ⟨c1, rfl, k1, k2, H1, H2, H3⟩
              · go_wp2
                go_meet
                case rel => exact ⟨rfl, .inl ⟨rfl, rfl, H1⟩⟩
              · go_wp2
                go_meet
                case rel => exact ⟨rfl, .inr (.inl ⟨c1, rfl, rfl, k1, k2, H1, H2, H3⟩)⟩
        case rest =>
          obtain ⟨rfl, hcs⟩ := hcut
          go_upto_block 4 with fail
          go_cut [10, 11, 12] from 54 to 86 (fun s10 s11 s12 wr => ∃ (p : Nat) (a b c : Int), s10 = .int .i64 (wrap64 a) ∧ s11 = .int .i64 (wrap64 b) ∧ s12 = .int .i64 (wrap64 c) ∧ Hid (stAt (fun i => f (s + i)) (d - s) = ⟨p, a, b, c, 0, 0, false⟩) ∧ w = wr)
          case first =>
            rcases hcs with ⟨rfl, rfl, H1⟩ | ⟨c1, rfl, rfl, k1, k2, H1, H2, H3⟩ | ⟨c1, c2, rfl, rfl, k1, k2, k3, H1, H2, H3, H4⟩
            · go_wp2_with (go_at_call 19; refine (digit_any ao len cap s d f _ hm hf hc (by omega) (by omega)).mono ?_; rintro e w' ⟨rfl, rfl⟩)
              go_meet
              case rel => exact ⟨0, _, 0, 0, rfl, by rw [wrap_zero], by rw [wrap_zero], abs_A HD.out H1.out, rfl⟩
            · go_upto_region 29 with (go_at_call 19; refine (digit_any ao len cap s c1 f _ hm hf hc (by omega) (by omega)).mono ?_; rintro e w' ⟨rfl, rfl⟩)
              go_wp2_with (go_at_call 19; refine (digit_at ao len cap _ (c1 + 1) d f _ (by omega) hm hf hc (by omega) (by omega)).mono ?_; rintro e w' ⟨rfl, rfl⟩)
              go_meet
              case rel => exact ⟨1, _, _, 0, rfl, rfl, by rw [wrap_zero], abs_B HD.out k1 k2 H1.out H2.out H3.out, rfl⟩
            · go_upto_region 23 with (go_at_call 19; refine (digit_any ao len cap s c1 f _ hm hf hc (by omega) (by omega)).mono ?_; rintro e w' ⟨rfl, rfl⟩)
              go_upto_region 24 with (go_at_call 19; refine (digit_at ao len cap _ (c1 + 1) c2 f _ (by omega) hm hf hc (by omega) (by omega)).mono ?_; rintro e w' ⟨rfl, rfl⟩)
              go_wp2_with (go_at_call 19; refine (digit_at ao len cap _ (c2 + 1) d f _ (by omega) hm hf hc (by omega) (by omega)).mono ?_; rintro e w' ⟨rfl, rfl⟩)
              go_meet
              case rel => exact ⟨2, _, _, _, rfl, rfl, rfl, abs_C HD.out k1 k2 k3 H1.out H2.out H3.out H4.out, rfl⟩
          case rest =>
            obtain ⟨p, a, b, c, rfl, rfl, rfl, HS, rfl⟩ := hcut
            clear hcs
            go_upto_if 90 with fail
            go_cut [13] from 87 to 94 (fun s13 wr => ∃ z : Int, s13 = .int .i64 z ∧ Hid (total (stAt (fun i => f (s + i)) (len - s)) = (a * 3600 + b * 60 + c) * 1000000 + z) ∧ w = wr)
            case first =>
              by_cases hdl : d < len
              · have HE := abs_dot HS.out hd1 hdl (HDD.out hdl)
                have HEE : Hid (total (stAt (fun i => f (s + i)) (len - s)) = (a * 3600 + b * 60 + c) * 1000000 + frZ f (d + 1) (len - (d + 1))) := HE
                clear HE
                go_wp2_with (go_at_call 20; refine (frac_at ao len cap _ (d + 1) f _ (by omega) hm hf hc (by omega)).mono ?_; rintro e w' ⟨rfl, rfl⟩)
                go_meet
                case rel => exact ⟨_, rfl, HEE, rfl⟩
              · obtain rfl : d = len := by omega
                have HEE : Hid (total (stAt (fun i => f (s + i)) (d - s)) = (a * 3600 + b * 60 + c) * 1000000 + 0) := whole_end HS.out
                go_wp2
                go_meet
                case rel => exact ⟨_, rfl, HEE, rfl⟩
            case rest =>
              obtain ⟨z, rfl, HT, rfl⟩ := hcut
              cases ng
              · go_wp2
                go_ret
                refine ⟨ret_int ?_, rfl⟩
                rw [total_wrap', HM.out, HT.out]
                simp
              · go_wp2
                go_ret
                refine ⟨ret_int ?_, rfl⟩
                rw [total_wrap', wrap_neg, HM.out, HT.out]
                simp
end Go.Proofs.Qxb6605190aMods
