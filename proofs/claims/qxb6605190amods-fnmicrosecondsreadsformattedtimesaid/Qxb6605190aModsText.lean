/-
  A TIME TEXT READS BACK: plain lists, no Go.
-/
import Derived.Test.Qxb6605190aModsPlain
import Derived.Test.Qxb6605190aModsDigs
namespace Go.Proofs.Qxb6605190aMods.Mi
open Go.RowKit (wrap64)

/-! ### from the index function to a fold over the list -/
theorem stAt_congr {f g : Nat → Int} (n : Nat) (h : ∀ i, i < n → f i = g i) : stAt f n = stAt g n := by
  induction n with
  | zero => rfl
  | succ n ih =>
    show step (stAt f n) (f n) = step (stAt g n) (g n)
    rw [ih (fun i hi => h i (by omega)), h n (by omega)]

theorem stAt_snoc (bs : List Int) (x : Int) : stAt (fun i => (bs ++ [x]).getD i 0) (bs.length + 1) = step (stAt (fun i => bs.getD i 0) bs.length) x := by
  show step (stAt _ bs.length) ((bs ++ [x]).getD bs.length 0) = _
  rw [stAt_congr (g := fun i => bs.getD i 0) bs.length (fun i hi => by simp [List.getD, List.getElem?_append_left hi])]
  simp [List.getD]

theorem stAt_list (bs : List Int) : stAt (fun i => bs.getD i 0) bs.length = bs.foldl step St.init := by
  suffices H : ∀ n (bs : List Int), bs.length = n → stAt (fun i => bs.getD i 0) n = bs.foldl step St.init from H _ bs rfl
  intro n
  induction n with
  | zero => intro bs h; obtain rfl := List.eq_nil_of_length_eq_zero h; rfl
  | succ n ih =>
    intro bs h
    obtain ⟨cs, x, rfl⟩ : ∃ cs x, bs = cs ++ [x] := ⟨bs.dropLast, bs.getLast (by intro e; simp [e] at h), (List.dropLast_concat_getLast _).symm⟩
    have hn : cs.length = n := by simpa using h
    subst hn
    rw [stAt_snoc, ih cs rfl, List.foldl_append]
    rfl

/-! ### digits -/
def val (ds : List Int) (a : Int) : Int := ds.foldl (fun x d => x * 10 + (d - 48)) a

def Dig (ds : List Int) : Prop := ∀ x ∈ ds, 48 ≤ x ∧ x ≤ 57

theorem digs_dig (f : Nat) (v : Int) : Dig (digs f v) := by
  induction f generalizing v with
  | zero => intro x hx; simp [digs] at hx
  | succ f ih =>
    intro x hx
    unfold digs at hx
    split at hx
    · simp at hx; omega
    · rw [List.mem_append] at hx
      rcases hx with hx | hx
      · exact ih _ x hx
      · simp at hx; omega

theorem digs_len (f : Nat) (v : Int) : (digs f v).length ≤ f := by
  induction f generalizing v with
  | zero => simp [digs]
  | succ f ih =>
    unfold digs
    split
    · simp
    · have := ih (v / 10); simp; omega

theorem digs_pos (f : Nat) (v : Int) : 1 ≤ (digs (f + 1) v).length := by
  unfold digs; split <;> simp

theorem digs_val (f : Nat) (v : Int) (hv : 0 ≤ v) (h : v < 10 ^ f) (hf : 1 ≤ f) : val (digs f v) 0 = v := by
  induction f generalizing v with
  | zero => omega
  | succ f ih =>
    unfold digs
    split
    · simp [val]; omega
    · rename_i hz
      have hf1 : 1 ≤ f := by
        by_cases e : f = 0
        · subst e; simp at h; omega
        · omega
      have h' : v / 10 < 10 ^ f := by
        rw [Int.pow_succ] at h
        generalize (10 : Int) ^ f = q at *
        omega
      have := ih (v / 10) (by omega) h' hf1
      unfold val at this ⊢
      rw [List.foldl_append, this]
      simp; omega

theorem padD_dig (v : Int) : Dig (padD v) := by
  unfold padD
  split
  · intro x hx
    rcases List.mem_cons.1 hx with rfl | hx
    · omega
    · exact digs_dig _ _ x hx
  · exact digs_dig _ _

theorem padD_len (v : Int) : 2 ≤ (padD v).length ∧ (padD v).length ≤ 10 := by
  have h1 := digs_len 10 v
  have h2 : 1 ≤ (digs 10 v).length := digs_pos 9 v
  unfold padD
  split
  · simp; omega
  · omega

theorem padD_small (v : Int) (h0 : 0 ≤ v) (h1 : v ≤ 59) : (padD v).length = 2 := by
  unfold padD
  by_cases hz : v / 10 = 0
  · rw [digs_last (by omega) hz]; rfl
  · rw [digs_more (by omega) hz, digs_last (by omega) (by omega)]; rfl

theorem padD_val (v : Int) (h0 : 0 ≤ v) (h1 : v ≤ 2147483648) : val (padD v) 0 = v := by
  have h := digs_val 10 v h0 (by omega) (by omega)
  unfold padD
  split
  · show val (digs 10 v) (0 * 10 + (48 - 48)) = v
    simpa using h
  · exact h

section Parts
variable {a b c m : Int} {d : Nat}
theorem fold_h (ds : List Int) (h : Dig ds) : ds.foldl step ⟨0, a, b, c, m, d, false⟩ = ⟨0, val ds a, b, c, m, d, false⟩ := by
  induction ds generalizing a with
  | nil => rfl
  | cons x xs ih =>
    have hx := h x (by simp)
    rw [List.foldl_cons, step_h hx.1 hx.2, ih (fun y hy => h y (by simp [hy]))]
    rfl
theorem fold_m (ds : List Int) (h : Dig ds) : ds.foldl step ⟨1, a, b, c, m, d, false⟩ = ⟨1, a, val ds b, c, m, d, false⟩ := by
  induction ds generalizing b with
  | nil => rfl
  | cons x xs ih =>
    have hx := h x (by simp)
    rw [List.foldl_cons, step_m hx.1 hx.2, ih (fun y hy => h y (by simp [hy]))]
    rfl
theorem fold_s (ds : List Int) (h : Dig ds) : ds.foldl step ⟨2, a, b, c, m, d, false⟩ = ⟨2, a, b, val ds c, m, d, false⟩ := by
  induction ds generalizing c with
  | nil => rfl
  | cons x xs ih =>
    have hx := h x (by simp)
    rw [List.foldl_cons, step_s hx.1 hx.2, ih (fun y hy => h y (by simp [hy]))]
    rfl
end Parts

/-! ### the fraction -/
def plc : Nat → Int
  | 0 => 100000
  | n + 1 => plc n / 10
def keptZ (mu : Int) : Nat → Int
  | 0 => 0
  | i + 1 => keptZ mu i + (mu / plc i % 10) * plc i
def fracD (mu : Int) : Nat → List Int
  | 0 => []
  | i + 1 => fracD mu i ++ [48 + mu / plc i % 10]

theorem fracD_len (mu : Int) (i : Nat) : (fracD mu i).length = i := by
  induction i with
  | zero => rfl
  | succ i ih => simp [fracD, ih]

theorem frac_fold (mu : Int) (i : Nat) (hi : i ≤ 6) {p : Nat} {a b c : Int} : ∃ z : Int, (fracD mu i).foldl step ⟨p, a, b, c, 0, 0, true⟩ = ⟨p, a, b, c, z, i, true⟩ ∧ z * 10 ^ (6 - i) = keptZ mu i := by
  have key : ∀ i, i ≤ 6 → (fracD mu i).foldl step ⟨p, a, b, c, 0, 0, true⟩ = ⟨p, a, b, c, val (fracD mu i) 0, i, true⟩ := by
    intro i
    induction i with
    | zero => intro _; rfl
    | succ i ih =>
      intro h
      rw [fracD, List.foldl_append, ih (by omega)]
      show step _ (48 + mu / plc i % 10) = _
      rw [step_frac (by omega) (by omega) (by omega)]
      unfold val
      rw [List.foldl_append]
      rfl
  refine ⟨_, key i hi, ?_⟩
  rcases (by omega : i = 0 ∨ i = 1 ∨ i = 2 ∨ i = 3 ∨ i = 4 ∨ i = 5 ∨ i = 6) with rfl | rfl | rfl | rfl | rfl | rfl | rfl <;> simp [val, fracD, keptZ, plc] <;> omega

theorem kept_bd (mu : Int) (i : Nat) (hi : i ≤ 6) : 0 ≤ keptZ mu i ∧ keptZ mu i ≤ 999999 := by
  rcases (by omega : i = 0 ∨ i = 1 ∨ i = 2 ∨ i = 3 ∨ i = 4 ∨ i = 5 ∨ i = 6) with rfl | rfl | rfl | rfl | rfl | rfl | rfl <;> simp [keptZ, plc] <;> omega

/-! ### the whole text -/
def sgnD (neg : Bool) : List Int := if neg then [45] else []
def headD (h m s : Int) : List Int := padD h ++ [58] ++ padD m ++ [58] ++ padD s
def tailD (mu : Int) (n : Nat) : List Int := if n = 0 then [] else 46 :: fracD mu n

theorem head_fold (h m s : Int) (h0 : 0 ≤ h) (h1 : h ≤ 2147483648) (m0 : 0 ≤ m) (m1 : m ≤ 59) (s0 : 0 ≤ s) (s1 : s ≤ 59) :
    (headD h m s).foldl step St.init = ⟨2, h, m, s, 0, 0, false⟩ := by
  unfold headD St.init
  simp only [List.foldl_append, List.foldl_cons, List.foldl_nil]
  have e1 : step ⟨0, h, 0, 0, 0, 0, false⟩ 58 = ⟨1, h, 0, 0, 0, 0, false⟩ := step_colon rfl (by omega)
  have e2 : step ⟨1, h, m, 0, 0, 0, false⟩ 58 = ⟨2, h, m, 0, 0, 0, false⟩ := step_colon rfl (by omega)
  rw [fold_h _ (padD_dig h), padD_val h h0 h1, e1, fold_m _ (padD_dig m), padD_val m m0 (by omega), e2, fold_s _ (padD_dig s), padD_val s s0 (by omega)]

theorem body_total (h m s mu : Int) (n : Nat) (h0 : 0 ≤ h) (h1 : h ≤ 2147483648) (m0 : 0 ≤ m) (m1 : m ≤ 59) (s0 : 0 ≤ s) (s1 : s ≤ 59) (hn : n ≤ 6) :
    total ((headD h m s ++ tailD mu n).foldl step St.init) = (h * 3600 + m * 60 + s) * 1000000 + keptZ mu n := by
  rw [List.foldl_append, head_fold h m s h0 h1 m0 m1 s0 s1]
  unfold tailD
  split
  · rename_i e; subst e
    simp [total, keptZ]
  · rw [List.foldl_cons, step_dot rfl]
    obtain ⟨z, hz, hk⟩ := frac_fold mu n hn (p := 2) (a := h) (b := m) (c := s)
    rw [hz]
    simp only [total]
    rw [hk]

theorem head_first (h m s : Int) (xs : List Int) : ∃ x ys, headD h m s ++ xs = x :: ys ∧ x ≠ 45 := by
  have hl := padD_len h
  have hd := padD_dig h
  match e : padD h with
  | [] => simp [e] at hl
  | x :: r => exact ⟨x, _, by unfold headD; rw [e]; rfl, by have := hd x (by simp [e]); omega⟩

/-- The text as it is written. -/
def textD (neg : Bool) (h m s mu : Int) (n : Nat) : List Int := sgnD neg ++ headD h m s ++ tailD mu n

theorem text_reads (neg : Bool) (h m s mu : Int) (n : Nat) (h0 : 0 ≤ h) (h1 : h ≤ 2147483648) (m0 : 0 ≤ m) (m1 : m ≤ 59) (s0 : 0 ≤ s) (s1 : s ≤ 59) (hn : n ≤ 6) :
    microZ (fun i => (textD neg h m s mu n).getD i 0) (textD neg h m s mu n).length = (if neg then -1 else 1) * ((h * 3600 + m * 60 + s) * 1000000 + keptZ mu n) := by
  obtain ⟨x, ys, hx, hne⟩ := head_first h m s (tailD mu n)
  have ht := body_total h m s mu n h0 h1 m0 m1 s0 s1 hn
  rw [← stAt_list] at ht
  rw [hx] at ht
  unfold textD
  cases neg
  · show microZ (fun i => ([] ++ headD h m s ++ tailD mu n).getD i 0) ([] ++ headD h m s ++ tailD mu n).length = _
    rw [List.nil_append, hx]
    unfold microZ
    rw [if_neg (by simp; exact hne), ht]
    rfl
  · show microZ (fun i => ([45] ++ headD h m s ++ tailD mu n).getD i 0) ([45] ++ headD h m s ++ tailD mu n).length = _
    rw [List.append_assoc, hx]
    unfold microZ
    rw [if_pos (by simp)]
    show -1 * total (stAt (fun i => (x :: ys).getD i 0) ((x :: ys).length)) = _
    rw [ht]
    rfl

theorem fracD_dig (mu : Int) (i : Nat) : Dig (fracD mu i) := by
  induction i with
  | zero => intro x hx; simp [fracD] at hx
  | succ i ih =>
    intro x hx
    rw [fracD, List.mem_append] at hx
    rcases hx with hx | hx
    · exact ih x hx
    · simp at hx; omega

theorem text_bytes (neg : Bool) (h m s mu : Int) (n : Nat) : ∀ x ∈ textD neg h m s mu n, 0 ≤ x ∧ x ≤ 255 := by
  have k1 := padD_dig h
  have k2 := padD_dig m
  have k3 := padD_dig s
  have k4 := fracD_dig mu n
  intro x hx
  unfold textD headD at hx
  simp only [List.mem_append, List.mem_singleton] at hx
  rcases hx with (hx | (((hx | hx) | hx) | hx) | hx) | hx
  · unfold sgnD at hx; cases neg <;> simp at hx; omega
  · have := k1 x hx; omega
  · omega
  · have := k2 x hx; omega
  · omega
  · have := k3 x hx; omega
  · unfold tailD at hx
    split at hx
    · simp at hx
    · rcases List.mem_cons.1 hx with rfl | hx
      · omega
      · have := k4 x hx; omega

theorem text_bytes_at (neg : Bool) (h m s mu : Int) (n i : Nat) : 0 ≤ (textD neg h m s mu n).getD i 0 ∧ (textD neg h m s mu n).getD i 0 ≤ 255 := by
  by_cases hi : i < (textD neg h m s mu n).length
  · have := text_bytes neg h m s mu n _ (List.getElem_mem hi)
    simpa [List.getD, hi] using this
  · simp [List.getD, List.getElem?_eq_none (Nat.le_of_not_lt hi)]
end Go.Proofs.Qxb6605190aMods.Mi
