/-
  FREE AND HELD PAGES: plain lists, no Go. F: the free pages, ascending; G: the held ones, m of them, nondecreasing.
-/
import Derived.RowKit
namespace Go.Proofs.Qxb6000413aMods.Pg

def memB (G : Nat → Int) (x : Int) : Nat → Bool
  | 0 => false
  | k + 1 => memB G x k || (G k == x)
theorem memB_iff (G : Nat → Int) (x : Int) (m : Nat) : memB G x m = true ↔ ∃ j, j < m ∧ G j = x := by
  induction m with
  | zero => simp [memB]
  | succ m ih =>
    simp only [memB, Bool.or_eq_true, ih, beq_iff_eq]
    constructor
    · rintro (⟨j, h1, h2⟩ | h)
      · exact ⟨j, by omega, h2⟩
      · exact ⟨m, by omega, h⟩
    · rintro ⟨j, h1, h2⟩
      by_cases e : j = m
      · exact .inr (e ▸ h2)
      · exact .inl ⟨j, by omega, h2⟩

def Asc (F : Nat → Int) (n : Nat) : Prop := ∀ i, 1 ≤ i → i < n → F (i - 1) < F i
def Nond (G : Nat → Int) (m : Nat) : Prop := ∀ i, 1 ≤ i → i < m → G (i - 1) ≤ G i
theorem asc_lt {F : Nat → Int} {n : Nat} (h : Asc F n) (a b : Nat) (h1 : a < b) (h2 : b < n) : F a < F b := by
  obtain ⟨d, rfl⟩ : ∃ d, b = a + 1 + d := ⟨b - (a + 1), by omega⟩
  clear h1
  induction d with
  | zero => have := h (a + 1) (by omega) h2
            simpa using this
  | succ d ih =>
    have e := h (a + 1 + (d + 1)) (by omega) h2
    rw [show a + 1 + (d + 1) - 1 = a + 1 + d by omega] at e
    exact Int.lt_trans (ih (by omega)) e
theorem nond_le {G : Nat → Int} {m : Nat} (h : Nond G m) (a b : Nat) (h1 : a ≤ b) (h2 : b < m) : G a ≤ G b := by
  obtain ⟨d, rfl⟩ : ∃ d, b = a + d := ⟨b - a, by omega⟩
  clear h1
  induction d with
  | zero => exact Int.le_refl _
  | succ d ih =>
    have e := h (a + (d + 1)) (by omega) h2
    rw [show a + (d + 1) - 1 = a + d by omega] at e
    exact Int.le_trans (ih (by omega)) e

/-- Where the search stands: all before p are smaller, p itself (if there is one) is not. -/
theorem memB_at {G : Nat → Int} {m p : Nat} {x : Int} (hG : Nond G m) (h1 : ∀ j, j < p → G j < x) (h2 : p < m → x ≤ G p) : memB G x m = (decide (p < m) && (G p == x)) := by
  rw [Bool.eq_iff_iff, memB_iff]
  simp only [Bool.and_eq_true, decide_eq_true_eq, beq_iff_eq]
  constructor
  · rintro ⟨j, hj, e⟩
    have hpj : p ≤ j := by
      apply Nat.le_of_not_lt
      intro hlt
      have := h1 j hlt
      omega
    have hp : p < m := by omega
    have a1 := nond_le hG p j hpj hj
    have a2 := h2 hp
    exact ⟨hp, by omega⟩
  · rintro ⟨hp, e⟩
    exact ⟨p, hp, e⟩

def idsL (F G : Nat → Int) (m : Nat) : Nat → List Int
  | 0 => []
  | k + 1 => if memB G (F k) m = true then idsL F G m k else idsL F G m k ++ [F k]
def heldL (F G : Nat → Int) (m : Nat) : Nat → List Int
  | 0 => []
  | k + 1 => if memB G (F k) m = true then heldL F G m k ++ [F k] else heldL F G m k
theorem ids_yes {F G : Nat → Int} {m k : Nat} (h : memB G (F k) m = true) : idsL F G m (k + 1) = idsL F G m k := by
  show (if _ then _ else _) = _; rw [if_pos h]
theorem ids_no {F G : Nat → Int} {m k : Nat} (h : memB G (F k) m = false) : idsL F G m (k + 1) = idsL F G m k ++ [F k] := by
  show (if _ then _ else _) = _; rw [if_neg (by simp [h])]
theorem held_yes {F G : Nat → Int} {m k : Nat} (h : memB G (F k) m = true) : heldL F G m (k + 1) = heldL F G m k ++ [F k] := by
  show (if _ then _ else _) = _; rw [if_pos h]
theorem held_no {F G : Nat → Int} {m k : Nat} (h : memB G (F k) m = false) : heldL F G m (k + 1) = heldL F G m k := by
  show (if _ then _ else _) = _; rw [if_neg (by simp [h])]
theorem ids_len (F G : Nat → Int) (m k : Nat) : (idsL F G m k).length ≤ k := by
  induction k with
  | zero => simp [idsL]
  | succ k ih => unfold idsL; split <;> (try rw [List.length_append]) <;> (try simp only [List.length_singleton]) <;> omega
theorem held_len (F G : Nat → Int) (m k : Nat) : (heldL F G m k).length ≤ k := by
  induction k with
  | zero => simp [heldL]
  | succ k ih => unfold heldL; split <;> (try rw [List.length_append]) <;> (try simp only [List.length_singleton]) <;> omega
theorem ids_none (F G : Nat → Int) (k : Nat) : idsL F G 0 k = (List.range k).map F := by
  induction k with
  | zero => rfl
  | succ k ih => rw [ids_no (by rfl), ih, List.range_succ, List.map_append]; rfl
theorem held_none (F G : Nat → Int) (k : Nat) : heldL F G 0 k = [] := by
  induction k with
  | zero => rfl
  | succ k ih => rw [held_no (by rfl), ih]

/-- A list by its places. -/
def atL (l : List Int) (i : Nat) : Int := l.getD i 0
theorem atL_range (F : Nat → Int) (k i : Nat) (h : i < k) : atL ((List.range k).map F) i = F i := by
  simp [atL, List.getD, h]
theorem atL_left {l : List Int} {x : Int} {i : Nat} (h : i < l.length) : atL (l ++ [x]) i = atL l i := by
  simp [atL, List.getD, List.getElem?_append_left h]
theorem atL_last (l : List Int) (x : Int) : atL (l ++ [x]) l.length = x := by
  simp [atL, List.getD]
end Go.Proofs.Qxb6000413aMods.Pg
