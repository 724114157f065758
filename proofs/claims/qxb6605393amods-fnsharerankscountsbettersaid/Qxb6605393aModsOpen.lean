/-
  A []EntryRow THAT CAME IN, opened: its cells by index functions.
-/
import Derived.Test.Qxb6605393aModsSize
import Derived.Deep.Slices
import Derived.OpenShut
namespace Go.Proofs.Qxb6605393aMods
open Go.ChangeShapes Go.WideShapes Go.ChangeAt Go.RowKit

theorem cells29 : Trym.prog.cellsOf 29 = 4 := by kernel_rfl
theorem cells2 : Trym.prog.cellsOf 2 = 1 := by kernel_rfl
theorem cells9 : Trym.prog.cellsOf 9 = 1 := by kernel_rfl

theorem open_rows {H : Type} {enc : TypeId × Value → H} {W : World} {fuel : Nat} {a0 : Option Addr} {len cap : Nat} {x : DataW H × List MemPlace}
    (hf : DataW.trod enc Trym.prog W 0 (fun _ => true) true fuel 22 [.slice a0 len cap] = some x) :
    ∃ (rk : Nat → Int) (mb : Nat → ByteArray) (sc sr : Nat → Int), len ≤ maxLen ∧ (∀ i, (mb i).size ≤ maxLen) ∧ Row4 W a0 len rk mb sc sr := by
  rcases Deep.open_slice Trym.underlying22 hf with ⟨hcs, _⟩ | ⟨a, len', cap', m, n, D, Pl, hcs, _, hl, hm, hmm, _, hx⟩
  · simp only [List.cons.injEq, Value.slice.injEq, and_true] at hcs
    obtain ⟨rfl, rfl, rfl⟩ := hcs
    exact ⟨fun _ => 0, fun _ => ByteArray.empty, fun _ => 0, fun _ => 0, by omega, fun _ => by simp, fun h => absurd h (by omega)⟩
  · simp only [List.cons.injEq, Value.slice.injEq, and_true] at hcs
    obtain ⟨rfl, rfl, rfl⟩ := hcs
    simp only [if_true] at hmm
    subst hmm
    rw [cells29] at hx
    have each : ∀ i, i < len → ∃ q : Int × ByteArray × Int × Int, W.cell? (a.add (i * 4)) = some (.int .i64 q.1) ∧ W.cell? (a.add (i * 4 + 1)) = some (.string q.2.1) ∧ W.cell? (a.add (i * 4 + 2)) = some (.int .i64 q.2.2.1) ∧
        W.cell? (a.add (i * 4 + 3)) = some (.int .i64 q.2.2.2) ∧ q.2.1.size ≤ maxLen := by
      intro i hi
      obtain ⟨cs', h1, h2⟩ := hx i (by omega)
      obtain ⟨_, hlen, hcell⟩ := World.cells?_some h1
      obtain ⟨xs, k, hk, hxy, _, hxl, hfl⟩ := DataW.trod_struct Trym.underlying29 h2
      match xs, hxl, cs', hlen with
      | [y0, y1, y2, y3], _, [v0, v1, v2, v3], _ =>
        have g0 := hfl 0 _ rfl
        have g1 := hfl 1 _ rfl
        have g2 := hfl 2 _ rfl
        have g3 := hfl 3 _ rfl
        simp [cells2, cells9] at g0 g1 g2 g3
        obtain ⟨z0, e0, _, _⟩ := DataW.trod_int Trym.underlying2 g0
        obtain ⟨z1, e1, _, s1⟩ := DataW.trod_string Trym.underlying9 g1
        obtain ⟨z2, e2, _, _⟩ := DataW.trod_int Trym.underlying2 g2
        obtain ⟨z3, e3, _, _⟩ := DataW.trod_int Trym.underlying2 g3
        simp only [List.cons.injEq, and_true] at e0 e1 e2 e3
        subst e0 e1 e2 e3
        have c0 := hcell 0 (by omega)
        have c1 := hcell 1 (by omega)
        have c2 := hcell 2 (by omega)
        have c3 := hcell 3 (by omega)
        rw [Deep.add_add] at c0 c1 c2 c3
        exact ⟨(z0, z1, z2, z3), by simpa using c0, by simpa using c1, by simpa using c2, by simpa using c3, s1⟩
    obtain ⟨q, hq⟩ := Deep.choose_lt each
    refine ⟨fun i => (q i).1, fun i => if i < len then (q i).2.1 else ByteArray.empty, fun i => (q i).2.2.1, fun i => (q i).2.2.2, by omega, fun i => ?_, fun hp => ?_⟩
    · by_cases hi : i < len
      · simp only [if_pos hi]; exact (hq i hi).2.2.2.2
      · simp only [if_neg hi]; simp
    · obtain ⟨b, off, spot⟩ := a
      have hspot : spot = none := by simpa [Addr.add] using World.cell?_spot (hq 0 hp).1
      subst hspot
      refine ⟨b, off, rfl, fun i hi => ?_⟩
      obtain ⟨h0, h1, h2, h3, _⟩ := hq i hi
      simp only [if_pos hi]
      rw [add_plain] at h0 h1 h2 h3
      simp only [← Nat.add_assoc] at h1 h2 h3
      exact ⟨h0, h1, h2, h3⟩
end Go.Proofs.Qxb6605393aMods
