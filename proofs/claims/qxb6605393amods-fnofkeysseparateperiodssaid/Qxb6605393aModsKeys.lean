/-
  THE KEYS OF A PERIOD: plain byte strings, no Go.
-/
import Derived.Laws.Strings
namespace Go.Proofs.Qxb6605393aMods

/-- The base of a period's keys. -/
def baseK (b sp nm : ByteArray) : ByteArray := if (sp.toList == [97, 108, 108]) = true then b else b ++ (⟨#[58]⟩ ++ sp ++ ⟨#[58]⟩ ++ nm)
def ordK (b sp nm : ByteArray) : ByteArray := baseK b sp nm ++ ⟨#[58, 111, 114, 100, 101, 114]⟩
def memK (b sp nm : ByteArray) : ByteArray := baseK b sp nm ++ ⟨#[58, 109, 101, 109, 98, 101, 114, 115]⟩

theorem toList_app (x y : ByteArray) : (x ++ y).toList = x.toList ++ y.toList := by
  simp [Go.ByteArray.toList_eq, ByteArray.data_append]
theorem ext_toList {x y : ByteArray} (h : x.toList = y.toList) : x = y := by
  rw [Go.ByteArray.toList_eq, Go.ByteArray.toList_eq] at h
  exact ByteArray.ext (Array.toList_inj.1 h)
theorem beq_no {x y : List UInt8} (h : x ≠ y) : (x == y) = false := by simpa using h

theorem ord_list (b sp nm : ByteArray) : (ordK b sp nm).toList = (baseK b sp nm).toList ++ [58, 111, 114, 100, 101, 114] := by
  unfold ordK; rw [toList_app, Go.ByteArray.toList_eq ⟨#[58, 111, 114, 100, 101, 114]⟩]
theorem mem_list (b sp nm : ByteArray) : (memK b sp nm).toList = (baseK b sp nm).toList ++ [58, 109, 101, 109, 98, 101, 114, 115] := by
  unfold memK; rw [toList_app, Go.ByteArray.toList_eq ⟨#[58, 109, 101, 109, 98, 101, 114, 115]⟩]

theorem last_differ (x y : List UInt8) : x ++ [58, 111, 114, 100, 101, 114] ≠ y ++ [58, 109, 101, 109, 98, 101, 114, 115] := by
  intro h
  have e := congrArg List.getLast? h
  simp at e

theorem ord_mem (b sp nm b' sp' nm' : ByteArray) : ((ordK b sp nm).toList == (memK b' sp' nm').toList) = false := by
  rw [ord_list, mem_list]; exact beq_no (last_differ _ _)
theorem mem_ord (b sp nm b' sp' nm' : ByteArray) : ((memK b sp nm).toList == (ordK b' sp' nm').toList) = false := by
  rw [ord_list, mem_list]; exact beq_no (fun h => last_differ _ _ h.symm)
theorem ord_ord {b sp nm b' sp' nm' : ByteArray} (h : baseK b sp nm ≠ baseK b' sp' nm') : ((ordK b sp nm).toList == (ordK b' sp' nm').toList) = false := by
  rw [ord_list, ord_list]; exact beq_no (fun e => h (ext_toList (List.append_cancel_right e)))
theorem mem_mem {b sp nm b' sp' nm' : ByteArray} (h : baseK b sp nm ≠ baseK b' sp' nm') : ((memK b sp nm).toList == (memK b' sp' nm').toList) = false := by
  rw [mem_list, mem_list]; exact beq_no (fun e => h (ext_toList (List.append_cancel_right e)))

theorem base_names {b sp n1 n2 : ByteArray} (hs : (sp.toList == [97, 108, 108]) = false) (hn : (n1.toList == n2.toList) = false) : baseK b sp n1 ≠ baseK b sp n2 := by
  unfold baseK
  rw [if_neg (by simp [hs]), if_neg (by simp [hs])]
  intro e
  have e2 := congrArg ByteArray.toList e
  simp only [toList_app] at e2
  have e3 := List.append_cancel_left (List.append_cancel_left e2)
  rw [e3] at hn
  simp at hn
theorem base_all {b sp n1 al n2 : ByteArray} (hs : (sp.toList == [97, 108, 108]) = false) (ha : (al.toList == [97, 108, 108]) = true) : baseK b sp n1 ≠ baseK b al n2 := by
  unfold baseK
  rw [if_neg (by simp [hs]), if_pos ha]
  intro e
  have e2 := congrArg ByteArray.size e
  simp only [ByteArray.size_append] at e2
  have e3 : (⟨#[58]⟩ : ByteArray).size = 1 := rfl
  omega
theorem base_same {b sp n1 n2 : ByteArray} (hs : (sp.toList == [97, 108, 108]) = true) : baseK b sp n1 = baseK b sp n2 := by
  unfold baseK; rw [if_pos hs, if_pos hs]

/-- The six keys by their places. -/
def sixK (b sp n1 n2 al : ByteArray) : Nat → ByteArray
  | 0 => ordK b sp n1 | 1 => memK b sp n1 | 2 => ordK b sp n2 | 3 => memK b sp n2 | 4 => ordK b al n1 | _ => memK b al n1

theorem six_differ (b sp n1 n2 al : ByteArray) (hs : (sp.toList == [97, 108, 108]) = false) (hn : (n1.toList == n2.toList) = false) (ha : (al.toList == [97, 108, 108]) = true) :
    ∀ i j, i < j → j < 6 → ((sixK b sp n1 n2 al i).toList == (sixK b sp n1 n2 al j).toList) = false := by
  have k1 : baseK b sp n1 ≠ baseK b sp n2 := base_names hs hn
  have k2 : baseK b sp n1 ≠ baseK b al n1 := base_all hs ha
  have k3 : baseK b sp n2 ≠ baseK b al n1 := base_all hs ha
  intro i j h1 h2
  rcases (by omega : i = 0 ∨ i = 1 ∨ i = 2 ∨ i = 3 ∨ i = 4) with rfl | rfl | rfl | rfl | rfl
  · rcases (by omega : j = 1 ∨ j = 2 ∨ j = 3 ∨ j = 4 ∨ j = 5) with rfl | rfl | rfl | rfl | rfl
    · exact ord_mem _ _ _ _ _ _
    · exact ord_ord k1
    · exact ord_mem _ _ _ _ _ _
    · exact ord_ord k2
    · exact ord_mem _ _ _ _ _ _
  · rcases (by omega : j = 2 ∨ j = 3 ∨ j = 4 ∨ j = 5) with rfl | rfl | rfl | rfl
    · exact mem_ord _ _ _ _ _ _
    · exact mem_mem k1
    · exact mem_ord _ _ _ _ _ _
    · exact mem_mem k2
  · rcases (by omega : j = 3 ∨ j = 4 ∨ j = 5) with rfl | rfl | rfl
    · exact ord_mem _ _ _ _ _ _
    · exact ord_ord k3
    · exact ord_mem _ _ _ _ _ _
  · rcases (by omega : j = 4 ∨ j = 5) with rfl | rfl
    · exact mem_ord _ _ _ _ _ _
    · exact mem_mem k3
  · obtain rfl : j = 5 := by omega
    exact ord_mem _ _ _ _ _ _
end Go.Proofs.Qxb6605393aMods
