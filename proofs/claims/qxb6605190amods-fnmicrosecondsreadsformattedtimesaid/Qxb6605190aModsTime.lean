import Derived.Test.Qxb6605190aModsPad
import Derived.Test.Qxb6605190aModsText
namespace Go.Proofs.Qxb6605190aMods
open Go.ChangeShapes Go.WideShapes Go.ChangeAt Go.RowKit
open Mi

/-- The text so far: the first n bytes of the new row; nothing old has turned. -/
def Txt (w w' : World) (n : Nat) (bs : List Int) : Prop :=
  bs.length = n ∧ w'.ownsRow w.heap.size 5 1 (.slice (some ⟨w.heap.size, 0, none⟩) n 32) n (bs.map (.int .u8)) ∧ Below w.heap.size w w'

theorem pad_txt (w w1 : World) (n : Nat) (bs : List Int) (v : Int) (k : Nat) (hk : Hid (k = (padD v).length)) (ht : Hid (Txt w w1 n bs)) (h0 : 0 ≤ v) (h1 : v ≤ 2147483648) (hn : n + 10 ≤ 32) :
    Calls Trym.prog 11 #[.slice (some ⟨w.heap.size, 0, none⟩) n 32, .int .i64 v] w1 fun e w' => e = .returned (.slice (some ⟨w.heap.size, 0, none⟩) (n + k) 32) ∧ Hid (Txt w w' (n + k) (bs ++ padD v)) := by
  obtain ⟨hl, ho, hb⟩ := ht
  obtain rfl := hk.out
  refine (pad_any w.heap.size w.heap.size n bs v w1 ho h0 h1 hn).mono ?_
  rintro e w' ⟨he, hp1, hp2⟩
  exact ⟨he, by simp [hl], hp1, hb.grown hp2 (hb.size) (fun k hk => by injection hk with hk; omega)⟩

theorem wpList_app1 (w w1 : World) {ops : Array Oper} {rest : List Oper} {o : Oper} {a : Act} {Q : Exit → Act → World → Prop}
    (hg : o.guard = none) (s x : Operand) (hop : o.op = Op.call { callee := Callee.builtin Builtin.append, args := #[s, x], argTypes := #[22, 22] })
    (n : Nat) (bs : List Int) (c : Int) (ht : Hid (Txt w w1 n bs)) (hs : a.eval s = .slice (some ⟨w.heap.size, 0, none⟩) n 32) (hx : a.eval x = .slice (some ⟨w1.heap.size, 0, none⟩) 1 1) (hn : n + 1 ≤ 32)
    (hK : ∀ w2, Hid (Txt w w2 (n + 1) (bs ++ [c])) → wpList Trym.prog ops Q rest (a.put o.dst (.slice (some ⟨w.heap.size, 0, none⟩) (n + 1) 32)) w2) :
    wpList Trym.prog ops Q (o :: rest) a (w1.alloc (.cells #[.int .u8 c] 5)) := by
  obtain ⟨i0, hi, hz0, hz1, hz2⟩ := info_parts info5
  obtain ⟨hl, ho, hb⟩ := ht
  refine wpList_append_fits _ hg s x 22 hop w.heap.size 5 i0 1 Trym.underlying22 hi hz1 w.heap.size n 32 (bs.map (.int .u8)) hs (ho.alloc _) ⟨w1.heap.size, 0, none⟩ 1 1 [.int .u8 c] hx rfl ?_ ?_ hn ?_
  · intro j u hu
    match j, hu with
    | 0, hu => simp at hu; subst hu; simp [Addr.add]
  · intro u hu; simp at hu; subst hu; rfl
  · intro w2 ho2 hg2
    exact hK w2 ⟨by simp [hl], by simpa using ho2, (hb.alloc hb.size _).grown hg2 (by have := hb.size; simp; omega) (fun k hk => by injection hk with hk; omega)⟩

theorem Txt_eq {w w' : World} {n m : Nat} {bs cs : List Int} (h1 : n = m) (h2 : bs = cs) (h : Hid (Txt w w' n bs)) : Hid (Txt w w' m cs) := by subst h1 h2; exact h

theorem kept_pack {Q : Prop} {kz k : Int} (hb : Hid (0 ≤ k ∧ k ≤ 999999)) (he : kz = k) (h : 0 ≤ kz → kz ≤ 999999 → Hid (kz = k) → Q) : Q := by
  subst he; exact h hb.out.1 hb.out.2 rfl

theorem ret_true {b : Bool} (h : b = true) : Ending.returned (.bool b) = .returned (.bool true) := by rw [h]

theorem txt_row {w w' : World} {n : Nat} {bs : List Int} (h : Hid (Txt w w' n bs)) : Row8 w' (some ⟨w.heap.size, 0, none⟩) n (fun i => bs.getD i 0) := by
  intro _
  refine ⟨_, _, rfl, fun i hi => ?_⟩
  have := h.out.2.1.cells (g := w.heap.size) rfl i (.int .u8 (bs.getD i 0)) (by simp [List.getD, show i < bs.length by rw [h.out.1]; exact hi])
  rw [Addr.add_lit] at this
  exact this

theorem zzmicro_any (ao : Option Addr) (len cap : Nat) (f : Nat → Int) (w : World) (hl : len ≤ cap) (hm : len ≤ 1099511627776) (hf : ∀ i, 0 ≤ f i ∧ f i ≤ 255)
    (hc : Row8 w ao len f) :
    Calls Trym.prog 9 #[.slice ao len cap] w fun e w' => e = .returned (.int .i64 (wrap64 (microZ f len))) ∧ Below w.heap.size w w' := by
  go_enter Trym.func9, Trym.ntmps9
  go_wp2_with fail
  refine (micro_any ao len cap f _ hl hm hf hc).mono ?_
  rintro e w' ⟨rfl, hb⟩
  go_wp2
  go_ret
  exact ⟨rfl, hb⟩

theorem plc_cases (i : Nat) (h : i < 6) : (i = 0 ∧ plc i = 100000) ∨ (i = 1 ∧ plc i = 10000) ∨ (i = 2 ∧ plc i = 1000) ∨ (i = 3 ∧ plc i = 100) ∨ (i = 4 ∧ plc i = 10) ∨ (i = 5 ∧ plc i = 1) := by
  rcases (by omega : i = 0 ∨ i = 1 ∨ i = 2 ∨ i = 3 ∨ i = 4 ∨ i = 5) with rfl | rfl | rfl | rfl | rfl | rfl <;> simp [plc]

set_option maxRecDepth 100000 in
set_option maxHeartbeats 1000000 in
theorem time_good (a0 : Bool) (a1 a2 a3 a4 : Int) (a5 : Nat) (w : World)
  (p1 : 0 ≤ a1) (p2 : a1 ≤ 2147483648) (p3 : 0 ≤ a2) (p4 : a2 ≤ 59) (p5 : 0 ≤ a3) (p6 : a3 ≤ 59) (p7 : 0 ≤ a4) (p8 : a4 ≤ 999999) (p10 : a5 ≤ 6) :
    Calls Trym.prog 4 #[.bool a0, .int .i64 a1, .int .i64 a2, .int .i64 a3, .int .i64 a4, .int .i64 a5] w fun e w' => e = .returned (.bool true) ∧ Below w.heap.size w w' := by
  obtain ⟨i0, hi, hz0, hz1, hz2⟩ := info_parts info5
  have l1 := padD_len a1
  have l2 := padD_small a2 p3 p4
  have l3 := padD_small a3 p5 p6
  have L2 : Hid (2 = (padD a2).length) := l2.symm
  have L3 : Hid (2 = (padD a3).length) := l3.symm
  obtain ⟨n1, hn1⟩ : ∃ n1, n1 = (padD a1).length := ⟨_, rfl⟩
  rw [← hn1] at l1
  have L1 : Hid (n1 = (padD a1).length) := hn1
  clear l2 l3 hn1
  go_enter Trym.func4, Trym.ntmps4
  go_upto_if 50 with (at_make; refine wpList_make_own _ rfl _ _ 22 rfl w.heap.size 5 i0 (.int .u8 0) 1 Trym.underlying22 hi hz0 hz1 _ _ _ 32 rfl rfl (by omega) ?b1 ?b2 ?b3 ?_)
  case b1 => rw [hz2]; omega
  case b2 => unfold maxLen; omega
  case b3 => omega
  intro w1 ho1 hg1
  have T1 : Hid (Txt w w1 0 []) := ⟨rfl, ho1, (Below.refl _ _).grown hg1 (Nat.le_refl _) (fun k hk => by cases hk)⟩
  clear ho1 hg1
  go_upto_if 50 with fail
  go_cut [13] from 19 to 53 (fun s13 wr => ∃ n, n ≤ 1 ∧ s13 = .slice (some ⟨w.heap.size, 0, none⟩) n 32 ∧ Hid (Txt w wr n (sgnD a0)))
  case first =>
    cases a0
    · go_wp2
      go_meet
      case rel => exact ⟨0, by omega, rfl, T1⟩
    · go_wp2_with (at_builtin; refine wpList_app1 w _ rfl (.tmp 51) (.tmp 52) rfl 0 [] 45 T1 rfl rfl (by omega) ?_; intro w2 T2)
      go_meet
      case rel => exact ⟨1, by omega, rfl, T2⟩
  case rest =>
    obtain ⟨n, hn, rfl, T2⟩ := hcut
    clear T1
    go_upto_region 15 with (go_at_call 11; refine (pad_txt w _ n _ a1 n1 L1 T2 p1 p2 (by omega)).mono ?_; rintro e w3 ⟨rfl, T3⟩)
    clear T2
    go_upto_region 16 with (at_builtin; refine wpList_app1 w _ rfl (.tmp 57) (.tmp 58) rfl (n + n1) _ 58 T3 rfl rfl (by omega) ?_; intro w4 T4)
    clear T3
    go_upto_region 17 with (go_at_call 11; refine (pad_txt w _ (n + n1 + 1) _ a2 2 L2 T4 p3 (by omega) (by omega)).mono ?_; rintro e w5 ⟨rfl, T5⟩)
    clear T4
    go_upto_region 18 with (at_builtin; refine wpList_app1 w _ rfl (.tmp 63) (.tmp 64) rfl (n + n1 + 1 + 2) _ 58 T5 rfl rfl (by omega) ?_; intro w6 T6)
    clear T5
    go_upto_region 19 with (go_at_call 11; refine (pad_txt w _ (n + n1 + 1 + 2 + 1) _ a3 2 L3 T6 p5 (by omega) (by omega)).mono ?_; rintro e w7 ⟨rfl, T7⟩)
    clear T6
    obtain ⟨n2, hn2⟩ : ∃ n2, n2 = n + n1 + 1 + 2 + 1 + 2 := ⟨_, rfl⟩
    rw [← hn2] at T7 ⊢
    have hn2' : n2 ≤ 17 := by omega
    have T8 : Hid (Txt w w7 n2 (sgnD a0 ++ headD a1 a2 a3)) := by
      have := T7.out
      unfold headD
      simpa [Hid, List.append_assoc] using this
    clear T7 hn2 L1 L2 L3
    go_upto_if 70 with fail
    go_cut [13, 14, 15, 16, 17] from 54 to 95 (fun s13 s14 _ _ _ wr => ∃ (n3 : Nat) (kz : Int), s13 = .slice (some ⟨w.heap.size, 0, none⟩) n3 32 ∧ s14 = .int .i64 kz ∧ Hid (kz = keptZ a4 a5) ∧ 0 ≤ kz ∧ kz ≤ 999999 ∧ n3 ≤ 24 ∧ Hid (Txt w wr n3 (textD a0 a1 a2 a3 a4 a5)))
    case first =>
      by_cases h0 : a5 = 0
      · subst h0
        go_wp2
        go_meet
        case rel => exact ⟨n2, 0, rfl, rfl, rfl, by omega, by omega, by omega, by unfold textD tailD; simpa using T8⟩
      · have h1 : 0 < a5 := by omega
        clear h0
        go_wp2_with (at_builtin; refine wpList_app1 w _ rfl (.tmp 71) (.tmp 72) rfl n2 _ 46 T8 rfl rfl (by omega) ?_; intro w8 T9)
        go_loopw [13, 14, 15, 16] (fun s13 s14 s15 s16 wr => ∃ (i : Nat) (kz pl : Int), i ≤ a5 ∧ s16 = .int .i64 i ∧ s15 = .int .i64 pl ∧ Hid (pl = plc i) ∧ s14 = .int .i64 kz ∧ 0 ≤ kz ∧ kz ≤ 999999 ∧ Hid (kz = keptZ a4 i) ∧ s13 = .slice (some ⟨w.heap.size, 0, none⟩) (n2 + 1 + i) 32 ∧ Hid (Txt w wr (n2 + 1 + i) (sgnD a0 ++ headD a1 a2 a3 ++ [46] ++ fracD a4 i))) (fun _ _ _ s16 _ => a5 - (intOf s16).toNat)
        case atStart => exact ⟨0, 0, 100000, by omega, rfl, rfl, rfl, rfl, by omega, by omega, rfl, rfl, by simpa [fracD] using T9⟩
        case round =>
          obtain ⟨i, kz, pl, hia, rfl, rfl, HP, rfl, hk0, hk1, HK, rfl, T10⟩ := hrel
          clear T8 T9
          by_cases hlt : i < a5
          · have hb := kept_bd a4 (i + 1) (by omega)
            have HB : Hid (0 ≤ keptZ a4 (i + 1) ∧ keptZ a4 (i + 1) ≤ 999999) := hb
            clear hb
            rcases plc_cases i (by omega) with ⟨rfl, hp⟩ | ⟨rfl, hp⟩ | ⟨rfl, hp⟩ | ⟨rfl, hp⟩ | ⟨rfl, hp⟩ | ⟨rfl, hp⟩
            · obtain rfl := HP.out.trans hp
              go_wp2_with (at_builtin; refine wpList_app1 w _ rfl (.tmp 83) (.tmp 87) rfl _ _ _ T10 rfl rfl (by omega) ?_; intro w9 T11)
              go_roundw
              case rel =>
                refine kept_pack HB ?_ fun hb0 hb1 hbk => ⟨1, _, 10000, by omega, rfl, rfl, by unfold Hid; simp [plc], rfl, hb0, hb1, hbk, rfl, Txt_eq (by omega) (by simp [fracD, plc]) T11⟩
                rw [HK.out]; simp [keptZ, plc]
              case measure => simp [intOf]; omega
            · obtain rfl := HP.out.trans hp
              go_wp2_with (at_builtin; refine wpList_app1 w _ rfl (.tmp 83) (.tmp 87) rfl _ _ _ T10 rfl rfl (by omega) ?_; intro w9 T11)
              go_roundw
              case rel =>
                refine kept_pack HB ?_ fun hb0 hb1 hbk => ⟨2, _, 1000, by omega, rfl, rfl, by unfold Hid; simp [plc], rfl, hb0, hb1, hbk, rfl, Txt_eq (by omega) (by simp [fracD, plc]) T11⟩
                rw [HK.out]; simp [keptZ, plc]
              case measure => simp [intOf]; omega
            · obtain rfl := HP.out.trans hp
              go_wp2_with (at_builtin; refine wpList_app1 w _ rfl (.tmp 83) (.tmp 87) rfl _ _ _ T10 rfl rfl (by omega) ?_; intro w9 T11)
              go_roundw
              case rel =>
                refine kept_pack HB ?_ fun hb0 hb1 hbk => ⟨3, _, 100, by omega, rfl, rfl, by unfold Hid; simp [plc], rfl, hb0, hb1, hbk, rfl, Txt_eq (by omega) (by simp [fracD, plc]) T11⟩
                rw [HK.out]; simp [keptZ, plc]
              case measure => simp [intOf]; omega
            · obtain rfl := HP.out.trans hp
              go_wp2_with (at_builtin; refine wpList_app1 w _ rfl (.tmp 83) (.tmp 87) rfl _ _ _ T10 rfl rfl (by omega) ?_; intro w9 T11)
              go_roundw
              case rel =>
                refine kept_pack HB ?_ fun hb0 hb1 hbk => ⟨4, _, 10, by omega, rfl, rfl, by unfold Hid; simp [plc], rfl, hb0, hb1, hbk, rfl, Txt_eq (by omega) (by simp [fracD, plc]) T11⟩
                rw [HK.out]; simp [keptZ, plc]
              case measure => simp [intOf]; omega
            · obtain rfl := HP.out.trans hp
              go_wp2_with (at_builtin; refine wpList_app1 w _ rfl (.tmp 83) (.tmp 87) rfl _ _ _ T10 rfl rfl (by omega) ?_; intro w9 T11)
              go_roundw
              case rel =>
                refine kept_pack HB ?_ fun hb0 hb1 hbk => ⟨5, _, 1, by omega, rfl, rfl, by unfold Hid; simp [plc], rfl, hb0, hb1, hbk, rfl, Txt_eq (by omega) (by simp [fracD, plc]) T11⟩
                rw [HK.out]; simp [keptZ, plc]
              case measure => simp [intOf]; omega
            · obtain rfl := HP.out.trans hp
              go_wp2_with (at_builtin; refine wpList_app1 w _ rfl (.tmp 83) (.tmp 87) rfl _ _ _ T10 rfl rfl (by omega) ?_; intro w9 T11)
              go_roundw
              case rel =>
                refine kept_pack HB ?_ fun hb0 hb1 hbk => ⟨6, _, 0, by omega, rfl, rfl, by unfold Hid; simp [plc], rfl, hb0, hb1, hbk, rfl, Txt_eq (by omega) (by simp [fracD, plc]) T11⟩
                rw [HK.out]; simp [keptZ, plc]
              case measure => simp [intOf]; omega
          · obtain rfl : i = a5 := by omega
            go_wp2
            go_meet
            case rel => exact ⟨_, kz, rfl, rfl, HK, hk0, hk1, by omega, by unfold textD tailD; rw [if_neg (by omega)]; simpa using T10⟩
    case rest =>
      obtain ⟨n3, kz, rfl, rfl, HK, hk0, hk1, hn3, T9⟩ := hcut
      clear T8
      have HL := T9.out.1
      have HR := text_reads a0 a1 a2 a3 a4 a5 p1 p2 p3 p4 p5 p6 p10
      rw [HL, ← HK.out] at HR
      have HRow := txt_row T9
      have HBel := T9.out.2.2
      obtain ⟨F, H1, H2, H4⟩ : ∃ F : Nat → Int, Hid (microZ F n3 = (if a0 then -1 else 1) * ((a1 * 3600 + a2 * 60 + a3) * 1000000 + kz)) ∧ Hid (Row8 wc (some ⟨w.heap.size, 0, none⟩) n3 F) ∧ Hid (∀ i, 0 ≤ F i ∧ F i ≤ 255) := ⟨_, HR, HRow, text_bytes_at a0 a1 a2 a3 a4 a5⟩
      have H3 : Hid (Below w.heap.size w wc) := HBel
      clear HL HR HRow HBel HK T9
      cases a0
      all_goals
        go_wp2_with (go_at_call 9; refine (zzmicro_any _ n3 32 F _ (by omega) (by omega) H4.out H2.out).mono ?_; rintro e w9 ⟨rfl, hb9⟩)
        go_ret
        refine ⟨ret_true ?_, H3.out.trans (hb9.mono H3.out.size)⟩
        rw [H1.out, IntWalk.wrap64_in _ (by simp; omega)]
        simp

set_option maxRecDepth 100000 in
set_option maxHeartbeats 1000000 in
theorem time_bad (a0 : Bool) (a1 a2 a3 a4 a5 : Int) (w : World)
  (h : (a1 < 0 ∨ 2147483648 < a1) ∨ ((0 ≤ a1 ∧ a1 ≤ 2147483648) ∧ ((a2 < 0 ∨ 59 < a2) ∨ ((0 ≤ a2 ∧ a2 ≤ 59) ∧ ((a3 < 0 ∨ 59 < a3) ∨ ((0 ≤ a3 ∧ a3 ≤ 59) ∧ ((a4 < 0 ∨ 999999 < a4) ∨ ((0 ≤ a4 ∧ a4 ≤ 999999) ∧ (a5 < 0 ∨ 6 < a5))))))))) :
    Calls Trym.prog 4 #[.bool a0, .int .i64 a1, .int .i64 a2, .int .i64 a3, .int .i64 a4, .int .i64 a5] w fun e w' => e = .returned (.bool true) ∧ Below w.heap.size w w' := by
  rcases h with (h | h) | ⟨⟨p1, p2⟩, (h | h) | ⟨⟨p3, p4⟩, (h | h) | ⟨⟨p5, p6⟩, (h | h) | ⟨⟨p7, p8⟩, h | h⟩⟩⟩⟩
  all_goals
    go_enter Trym.func4, Trym.ntmps4
    go_wp2
    go_ret
    exact ⟨rfl, Below.refl _ _⟩

end Go.Proofs.Qxb6605190aMods
