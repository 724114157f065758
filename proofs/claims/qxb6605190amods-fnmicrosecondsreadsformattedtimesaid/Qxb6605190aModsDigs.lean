/-
  THE DECIMAL DIGITS OF A NUMBER: plain lists, no Go.
-/
import Derived.RowKit
namespace Go.Proofs.Qxb6605190aMods.Mi

def digs : Nat → Int → List Int
  | 0, _ => []
  | f + 1, v => if v / 10 = 0 then [48 + v % 10] else digs f (v / 10) ++ [48 + v % 10]

/-- At least two digits. -/
def padD (v : Int) : List Int := if (digs 10 v).length < 2 then 48 :: digs 10 v else digs 10 v

theorem digs_last {f : Nat} {v : Int} (hf : 1 ≤ f) (h : v / 10 = 0) : digs f v = [48 + v % 10] := by
  obtain ⟨g, rfl⟩ : ∃ g, f = g + 1 := ⟨f - 1, by omega⟩
  simp [digs, h]
theorem digs_more {f : Nat} {v : Int} (hf : 1 ≤ f) (h : ¬ v / 10 = 0) : digs f v = digs (f - 1) (v / 10) ++ [48 + v % 10] := by
  obtain ⟨g, rfl⟩ : ∃ g, f = g + 1 := ⟨f - 1, by omega⟩
  simp [digs, h]

theorem dig_next {p : Nat} {vv : Int} (hp : 11 ≤ p) (h : vv < 10 ^ (p - 10)) (h0 : 0 ≤ vv) (hz : ¬ vv / 10 = 0) : 12 ≤ p ∧ vv / 10 < 10 ^ (p - 1 - 10) := by
  have h12 : 12 ≤ p := by
    by_cases e : p = 11
    · subst e; simp at h; omega
    · omega
  refine ⟨h12, ?_⟩
  rw [show p - 10 = (p - 1 - 10) + 1 by omega, Int.pow_succ] at h
  generalize (10 : Int) ^ (p - 1 - 10) = q at *
  omega

theorem cells_next {α : Type} {c : Array α} {p : Nat} {ds : List Int} {F : Int → α} {x : Int} (hp : 1 ≤ p) (hp2 : p ≤ 20) (hs : c.size = 20)
    (hc : ∀ t, t < 20 - p → c[p + t]? = some (F (ds.getD t 0))) :
    ∀ t, t < 20 - (p - 1) → (c.setIfInBounds (p - 1) (F x))[p - 1 + t]? = some (F ((x :: ds).getD t 0)) := by
  intro t ht
  cases t with
  | zero => rw [Nat.add_zero, Array.getElem?_setIfInBounds, if_pos rfl, if_pos (by omega)]; rfl
  | succ t =>
    rw [Array.getElem?_setIfInBounds, if_neg (by omega), show p - 1 + (t + 1) = p + t by omega, hc t (by omega)]
    simp

theorem news_at {α : Type} {c : Array α} {p : Nat} {ds : List Int} {F : Int → α} (hl : ds.length = 20 - p) (hc : ∀ t, t < 20 - p → c[p + t]? = some (F (ds.getD t 0))) (j : Nat) (u : α) (hu : (ds.map F)[j]? = some u) : c[p + j]? = some u := by
  have hj : j < 20 - p := by
    have := (List.getElem?_eq_some_iff.1 hu).1
    simp at this; omega
  rw [hc j hj, ← hu]
  simp [List.getD, show j < ds.length by omega]
end Go.Proofs.Qxb6605190aMods.Mi
