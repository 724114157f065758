import Derived.Test.Qxb6605393aModsOf
namespace Go.Proofs.Qxb6605393aMods
open Go.ChangeShapes Go.WideShapes Go.ChangeAt Go.RowKit

set_option maxRecDepth 100000 in
set_option maxHeartbeats 1000000 in
theorem bytesK_no (a0 a1 a2 a3 a4 : ByteArray) (w : World) (h : 1048576 < a0.size + a1.size + a2.size + a3.size + a4.size) (h0 : a0.size ≤ 9223372036854775807) (h1 : a1.size ≤ 9223372036854775807) (h2 : a2.size ≤ 9223372036854775807) (h3 : a3.size ≤ 9223372036854775807) (h4 : a4.size ≤ 9223372036854775807) :
    Calls Trym.prog 14 #[.string a0, .string a1, .string a2, .string a3, .string a4] w fun e w' => e = .returned (.bool false) ∧ w = w' := by
  go_enter Trym.func14, Trym.ntmps14
  go_wp2
  all_goals
    go_ret
    exact ⟨rfl, rfl⟩
set_option maxRecDepth 100000 in
set_option maxHeartbeats 1000000 in
theorem bytesK_yes (a0 a1 a2 a3 a4 : ByteArray) (w : World) (h : a0.size + a1.size + a2.size + a3.size + a4.size ≤ 1048576) :
    Calls Trym.prog 14 #[.string a0, .string a1, .string a2, .string a3, .string a4] w fun e w' => e = .returned (.bool true) ∧ w = w' := by
  go_enter Trym.func14, Trym.ntmps14
  go_wp2
  go_ret
  exact ⟨rfl, rfl⟩

theorem ret_true {b : Bool} (h : b = true) : Ending.returned (.bool b) = .returned (.bool true) := by rw [h]

set_option maxRecDepth 100000 in
set_option maxHeartbeats 1000000 in
theorem keys_same (a0 a1 a2 a3 a4 : ByteArray) (w : World) (h : a0.size + a1.size + a2.size + a3.size + a4.size ≤ 1048576) (hq : (a2.toList == [97, 108, 108]) = true ∨ ((a2.toList == [97, 108, 108]) = false ∧ (a3.toList == a4.toList) = true)) :
    Calls Trym.prog 5 #[.string a0, .string a1, .string a2, .string a3, .string a4] w fun e w' => e = .returned (.bool true) ∧ Below w.heap.size w w' := by
  have hb : baseK a0 a2 a3 = baseK a0 a2 a4 := by
    rcases hq with hq | ⟨_, hq⟩
    · exact base_same hq
    · rw [ext_toList (x := a3) (y := a4) (by simpa using hq)]
  have e1 : ((ordK a0 a2 a3).toList == (ordK a0 a2 a4).toList) = true := by unfold ordK; rw [hb]; simp
  have e2 : ((memK a0 a2 a3).toList == (memK a0 a2 a4).toList) = true := by unfold memK; rw [hb]; simp
  have e3 := ord_mem a0 a2 a3 a0 a2 a3
  clear hb
  rcases hq with hq | ⟨hq, hq2⟩
  all_goals
    go_enter Trym.func5, Trym.ntmps5
    go_upto_region 3 with (go_at_call 14; refine (bytesK_yes a0 a1 a2 a3 a4 _ h).mono ?_; rintro e w' ⟨rfl, rfl⟩)
    go_upto_region 8 with (go_at_call 15; refine (zzof_any a0 a1 a2 a3 _ (by omega)).mono ?_; rintro e w1 ⟨rfl, hb1⟩)
    go_upto_region 9 with (go_at_call 15; refine (zzof_any a0 a1 a2 a4 _ (by omega)).mono ?_; rintro e w2 ⟨rfl, hb2⟩)
    go_wp2
    go_ret
    exact ⟨rfl, hb1.trans (hb2.mono hb1.size)⟩

set_option maxRecDepth 100000 in
set_option maxHeartbeats 1000000 in
theorem keys_apart (a0 a1 a2 a3 a4 : ByteArray) (w : World) (h : a0.size + a1.size + a2.size + a3.size + a4.size ≤ 1048576) (hq : (a2.toList == [97, 108, 108]) = false) (hq2 : (a3.toList == a4.toList) = false) :
    Calls Trym.prog 5 #[.string a0, .string a1, .string a2, .string a3, .string a4] w fun e w' => e = .returned (.bool true) ∧ Below w.heap.size w w' := by
  have hd := six_differ a0 a2 a3 a4 ⟨#[97, 108, 108]⟩ hq hq2 (by rw [Go.ByteArray.toList_eq]; rfl)
  have HD : Hid (∀ i j, i < j → j < 6 → ((sixK a0 a2 a3 a4 ⟨#[97, 108, 108]⟩ i).toList == (sixK a0 a2 a3 a4 ⟨#[97, 108, 108]⟩ j).toList) = false) := hd
  clear hd
  go_enter Trym.func5, Trym.ntmps5
  go_upto_region 3 with (go_at_call 14; refine (bytesK_yes a0 a1 a2 a3 a4 _ h).mono ?_; rintro e w' ⟨rfl, rfl⟩)
  go_upto_region 8 with (go_at_call 15; refine (zzof_any a0 a1 a2 a3 _ (by omega)).mono ?_; rintro e w1 ⟨rfl, hb1⟩)
  go_upto_region 9 with (go_at_call 15; refine (zzof_any a0 a1 a2 a4 _ (by omega)).mono ?_; rintro e w2 ⟨rfl, hb2⟩)
  have hz : (⟨#[97, 108, 108]⟩ : ByteArray).size = 3 := rfl
  go_upto_region 12 with (go_at_call 15; refine (zzof_any a0 a1 ⟨#[97, 108, 108]⟩ a3 _ (by omega)).mono ?_; rintro e w3 ⟨rfl, hb3⟩)
  have HB : Hid (Below w.heap.size w w3) := hb1.trans ((hb2.trans (hb3.mono hb2.size)).mono hb1.size)
  clear hb1 hb2 hb3 hz
  go_upto_region 19 with fail
  go_cut [18] from 20 to 119 (fun s18 wr => s18 = .int .i64 0 ∧ ∃ K : Nat → ByteArray, Hid (∀ i j, i < j → j < 6 → ((K i).toList == (K j).toList) = false) ∧ Hid (∀ t, t < 6 → wr.cell? ⟨w3.heap.size, t, none⟩ = some (.string (K t))) ∧ Hid (Below w.heap.size w wr))
  case first =>
    go_wp2
    go_meet
    case rel =>
      refine ⟨rfl, _, HD, fun t ht => ?_, HB.out.alloc HB.out.size _⟩
      rw [World.cell?_alloc_at _ _ _ _ rfl]
      rcases (by omega : t = 0 ∨ t = 1 ∨ t = 2 ∨ t = 3 ∨ t = 4 ∨ t = 5) with rfl | rfl | rfl | rfl | rfl | rfl <;> rfl
  case rest =>
    obtain ⟨rfl, K, HK, HC, HB2⟩ := hcut
    clear HB HD hq hq2
    generalize w3.heap.size = T at *
    go_wp2
    go_loopw [18, 19] (fun s18 _ wr => ∃ i : Nat, i ≤ 6 ∧ s18 = .int .i64 i ∧ Hid (∀ t, t < 6 → wr.cell? ⟨T, t, none⟩ = some (.string (K t))) ∧ Hid (Below w.heap.size w wr)) (fun s18 _ _ => 6 - (intOf s18).toNat)
    case atStart => exact ⟨0, by omega, rfl, HC, HB2⟩
    case round =>
      obtain ⟨i, hi, rfl, HC1, HB1⟩ := hrel
      clear HC HB2
      by_cases hlt : i < 6
      · go_wp2
        go_loopw [19] (fun s19 wx => ∃ j : Nat, i < j ∧ j ≤ 6 ∧ s19 = .int .i64 j ∧ Hid (∀ t, t < 6 → wx.cell? ⟨T, t, none⟩ = some (.string (K t))) ∧ Hid (Below w.heap.size w wx)) (fun s19 _ => 6 - (intOf s19).toNat)
        case atStart => exact ⟨i + 1, by omega, by omega, by go_num, HC1, HB1⟩
        case round =>
          obtain ⟨j, hj1, hj2, rfl, HC2, HB2⟩ := hrel
          clear HC1 HB1
          by_cases hlj : j < 6
          · have c1 := HC2.out i hlt
            have c2 := HC2.out j hlj
            have e1 := HK.out i j hj1 hlj
            go_wp2
            go_quiet (fail)
            go_wp2
            go_roundw
            case rel => exact ⟨j + 1, by omega, by omega, by go_num, fun t ht => by simpa using HC2.out t ht, below_drewN HB2.out _⟩
            case measure => simp [intOf]; omega
          · go_wp2
            go_roundw
            case rel => exact ⟨i + 1, by omega, by go_num, HC2, HB2⟩
            case measure => simp [intOf]; omega
      · go_wp2
        go_ret
        exact ⟨rfl, HB1.out⟩
end Go.Proofs.Qxb6605393aMods
