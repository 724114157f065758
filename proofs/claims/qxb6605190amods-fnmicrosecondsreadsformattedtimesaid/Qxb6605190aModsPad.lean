import Derived.Test.Qxb6605190aModsMicro
import Derived.Test.Qxb6605190aModsDigs
namespace Go.Proofs.Qxb6605190aMods
open Go.ChangeShapes Go.WideShapes Go.ChangeAt Go.RowKit
open Mi

theorem info5 : (Trym.prog.info? 5).map (fun i => (i.zero, i.size, i.bytes)) = some (some (.int .u8 0), 1, 1) := by kernel_rfl

theorem arr34 : Trym.prog.arrayLen 34 = 20 := by kernel_rfl
theorem elem34 : Trym.prog.elem 34 = 5 := by kernel_rfl
theorem size5 (w : World) : (Go.sizeOf 5).run Trym.prog w = .ok 1 w := by kernel_rfl
theorem run_tail (G p : Nat) (h1 : 1 ≤ p) (h2 : p ≤ 20) (wx : World) :
  (Instr.sliceAt 34 (.pointer (some ⟨G, 0, none⟩)) (some (.int .i64 ((p : Int) - 1))) none none).run Trym.prog wx = .ok (.slice (some ⟨G, p - 1, none⟩) (20 - (p - 1)) (20 - (p - 1))) wx := by
  rw [run_sliceAt_array_l (P := Trym.prog) wx 34 ⟨G, 0, none⟩ (by rw [arr34, elem34]; exact Trym.underlying34) .i64 _ (by omega) (by rw [arr34]; omega), elem34, size5, arr34]
  have e : ((p : Int) - 1).toNat = p - 1 := by omega
  simp only [Result.andThen, slicedAt, e, Nat.mul_one]
  rw [if_neg (by omega), Addr.add_lit, Nat.zero_add]

theorem ret_slice {a : Option Addr} {n m c : Nat} (h : n = m) : Ending.returned (.slice a n c) = .returned (.slice a m c) := by rw [h]

/-- What is appended to 'dst': the world behind. -/
def Padded (B G n : Nat) (bs : List Int) (v : Int) (w w' : World) : Prop :=
  w'.ownsRow B 5 1 (.slice (some ⟨G, 0, none⟩) (n + (padD v).length) 32) (n + (padD v).length) ((bs ++ padD v).map (.int .u8)) ∧ w.grownBy w' (some G)

theorem padded_of {B G n m : Nat} {bs ds : List Int} {xs : List Value} {v : Int} {w w' : World} (hd : padD v = ds) (hm : m = n + ds.length) (hx : xs = (bs ++ ds).map (.int .u8))
    (h : w'.ownsRow B 5 1 (.slice (some ⟨G, 0, none⟩) m 32) m xs) (hg : w.grownBy w' (some G)) : Padded B G n bs v w w' := by
  subst hd hm hx; exact ⟨h, hg⟩

set_option maxRecDepth 100000 in
set_option maxHeartbeats 1000000 in
theorem pad_any (B G n : Nat) (bs : List Int) (v : Int) (w : World) (hown : w.ownsRow B 5 1 (.slice (some ⟨G, 0, none⟩) n 32) n (bs.map (.int .u8))) (hv0 : 0 ≤ v) (hv1 : v ≤ 2147483648) (hfit : n + 10 ≤ 32) :
    Calls Trym.prog 11 #[.slice (some ⟨G, 0, none⟩) n 32, .int .i64 v] w fun e w' => e = .returned (.slice (some ⟨G, 0, none⟩) (n + (padD v).length) 32) ∧ Padded B G n bs v w w' := by
  obtain ⟨i0, hi, hz0, hz1, hz2⟩ := info_parts info5
  have hG : G < w.heap.size := (hown.lt G rfl).2
  have HO : Hid (w.ownsRow B 5 1 (.slice (some ⟨G, 0, none⟩) n 32) n (bs.map (.int .u8))) := hown
  clear hown
  go_enter Trym.func11, Trym.ntmps11
  go_wp2
  go_loopw [1, 6] (fun s1 s6 wr => ∃ (p : Nat) (c : Array Value) (vv : Int) (ds : List Int), 11 ≤ p ∧ p ≤ 20 ∧ s6 = .int .i64 p ∧ s1 = .int .i64 vv ∧ 0 ≤ vv ∧ vv ≤ 2147483648 ∧ Hid (vv < 10 ^ (p - 10)) ∧ Hid (digs 10 v = digs (p - 10) vv ++ ds) ∧ Hid (ds.length = 20 - p) ∧ c.size = 20 ∧ Hid (∀ t, t < 20 - p → c[p + t]? = some (.int .u8 (ds.getD t 0))) ∧ wr = w.alloc (.cells c 34)) (fun _ s6 _ => (intOf s6).toNat)
  case atStart => exact ⟨20, _, v, [], by omega, by omega, rfl, rfl, hv0, hv1, by unfold Hid; simp; omega, by unfold Hid; simp, rfl, rfl, fun t ht => absurd ht (by omega), rfl⟩
  case round =>
    obtain ⟨p, c, vv, ds, hp1, hp2, rfl, rfl, hvv0, hvv1, HV, HD, HL, hcs, HC, rfl⟩ := hrel
    obtain ⟨u0, hu0⟩ : ∃ u, c[p - 1]? = some u := ⟨_, Array.getElem?_eq_getElem (by omega)⟩
    by_cases hz : vv / 10 = 0
    · have hz' : (vv / 10 == 0) = true := by simpa using hz
      have HD' : Hid (digs 10 v = (48 + vv % 10) :: ds) := by unfold Hid; rw [HD.out, digs_last (by omega) hz]; rfl
      have HC' := cells_next (by omega) hp2 hcs HC.out (x := 48 + vv % 10)
      have HN := news_at (c := c.setIfInBounds (p - 1) (.int .u8 (48 + vv % 10))) (p := p - 1) (ds := (48 + vv % 10) :: ds) (by simp [HL.out]; omega) HC'
      have HNN : Hid (∀ (j : Nat) (u : Value), (List.map (Value.int IntKind.u8) ((48 + vv % 10) :: ds))[j]? = some u → (c.setIfInBounds (p - 1) (Value.int IntKind.u8 (48 + vv % 10)))[p - 1 + j]? = some u) := HN
      clear hz HN HC'
      by_cases hp : p = 20
      · subst hp
        obtain rfl : ds = [] := List.eq_nil_of_length_eq_zero HL.out
        go_wp2_with (at_builtin; refine wpList_append_fits _ rfl (.tmp 22) (.tmp 23) 22 rfl B 5 i0 1 Trym.underlying22 hi hz1 G n 32 (bs.map (.int .u8)) rfl ((HO.out.alloc _).alloc _) ⟨w.heap.size + 1, 0, none⟩ 1 1 [.int .u8 48] rfl rfl ?_ ?_ (by omega) ?_)
        · intro j u hu
          match j, hu with
          | 0, hu => simp at hu; subst hu; simp [Addr.add]
        · intro u hu; simp at hu; subst hu; rfl
        intro w1 hown1 hgrow1
        have hg1 : w.grownBy w1 (some G) := (World.grownBy_alloc _ _ _).trans ((World.grownBy_alloc _ _ _).trans hgrow1)
        have HG : Hid (((w.alloc (Obj.cells (c.setIfInBounds 19 (Value.int IntKind.u8 (48 + vv % 10))) 34)).alloc (Obj.cells #[Value.int IntKind.u8 48] 5)).grownBy w1 (some G)) := hgrow1
        have HG1 : Hid (w.grownBy w1 (some G)) := hg1
        have HO1 : Hid (w1.ownsRow B 5 1 (Value.slice (some { block := G, off := 0 }) (n + 1) 32) (n + 1) (List.map (Value.int IntKind.u8) bs ++ [Value.int IntKind.u8 48])) := hown1
        clear hown1 hgrow1 hg1
        go_wp2_with (at_builtin; refine wpList_append_fits _ rfl (.tmp 25) (.tmp 27) 22 rfl B 5 i0 1 Trym.underlying22 hi hz1 G (n + 1) 32 _ rfl HO1.out ⟨w.heap.size, 19, none⟩ 1 1 [.int .u8 (48 + vv % 10)] rfl rfl ?_ ?_ (by omega) ?_)
        · intro j u hu
          rw [Addr.add_lit]
          refine HG.out.cell ?_ (by simp; omega)
          rw [World.cell?_alloc_past _ _ _ (by simp), World.cell?_alloc_at _ _ _ _ rfl]
          exact HNN.out j u (by simpa using hu)
        · intro u hu; simp at hu; subst hu; rfl
        intro w2 hown2 hgrow2
        have HF : Padded B G n bs v w w2 := padded_of (ds := [48, 48 + vv % 10]) (by unfold padD; rw [HD'.out]; rfl) (by simp) (by simp) hown2 (HG1.out.trans hgrow2)
        have HFF : Hid (Padded B G n bs v w w2) := HF
        have HPL : Hid ((padD v).length = 2) := by unfold Hid padD; rw [HD'.out]; rfl
        clear HF hown2 hgrow2
        go_wp2
        go_ret
        exact ⟨ret_slice (by rw [HPL.out]), HFF.out⟩
      · have hp19 : p ≤ 19 := by omega
        clear hp
        have hsl := run_tail w.heap.size p (by omega) hp2
        go_wp2_with (at_builtin; refine wpList_append_fits _ rfl (.tmp 25) (.tmp 27) 22 rfl B 5 i0 1 Trym.underlying22 hi hz1 G n 32 (bs.map (.int .u8)) rfl (HO.out.alloc _) ⟨w.heap.size, p - 1, none⟩ (20 - (p - 1)) (20 - (p - 1)) (((48 + vv % 10) :: ds).map (.int .u8)) rfl ?_ ?_ ?_ (by omega) ?_)
        · simp [HL.out]; omega
        · intro j u hu
          rw [Addr.add_lit, World.cell?_alloc_at _ _ _ _ rfl]
          exact HNN.out j u hu
        · exact ints_oneCell _ _
        intro w2 hown2 hgrow2
        have hdl : ((48 + vv % 10) :: ds).length = 20 - (p - 1) := by simp [HL.out]; omega
        have hpd : padD v = (48 + vv % 10) :: ds := by unfold padD; rw [HD'.out, if_neg (by rw [hdl]; omega)]
        have HF : Padded B G n bs v w w2 := padded_of (ds := (48 + vv % 10) :: ds) hpd (by rw [hdl]) (by simp) hown2 ((World.grownBy_alloc _ _ _).trans hgrow2)
        have HFF : Hid (Padded B G n bs v w w2) := HF
        have HPL : Hid ((padD v).length = 20 - (p - 1)) := by unfold Hid; rw [hpd, hdl]
        clear HF hown2 hgrow2 hdl hpd
        go_wp2
        go_ret
        exact ⟨ret_slice (by rw [HPL.out]), HFF.out⟩
    · have hz' : (vv / 10 == 0) = false := by simpa using hz
      obtain ⟨hp12, hv10⟩ := dig_next hp1 HV.out hvv0 hz
      have HV' : Hid (vv / 10 < 10 ^ (p - 1 - 10)) := hv10
      have HD' : Hid (digs 10 v = digs (p - 1 - 10) (vv / 10) ++ ((48 + vv % 10) :: ds)) := by
        unfold Hid; rw [HD.out, digs_more (by omega) hz, List.append_assoc, show p - 10 - 1 = p - 1 - 10 by omega]; rfl
      clear hz hv10
      go_wp2
      go_roundw
      case rel => exact ⟨p - 1, _, _, (48 + vv % 10) :: ds, by omega, by omega, by go_num, rfl, by omega, by omega, HV', HD', by simp [Hid, HL.out]; omega, by simp [hcs], cells_next (by omega) hp2 hcs HC.out, rfl⟩
      case measure => simp [intOf]; omega
end Go.Proofs.Qxb6605190aMods
