import Derived.Test.Qxb6603042aDoorPlain
namespace Go.Proofs.Qxb6603042aDoor.Pl
open Go

theorem bl_contains (c : UInt8) : ([32, 9, 13] : List UInt8).contains c = blB c.toNat := by
  unfold blB
  simp only [List.contains_cons, List.contains_nil, Bool.or_false, u8_beq]
  cases h1 : ((c.toNat : Int) == 32) <;> cases h2 : ((c.toNat : Int) == 9) <;> cases h3 : ((c.toNat : Int) == 13) <;> simp_all

/-- policyB1LeadingBlanks. -/
def leadL (l : List UInt8) : List UInt8 := l.takeWhile (([32, 9, 13] : List UInt8).contains ·)

theorem takeWhile_take {α : Type} (p : α → Bool) : ∀ (l : List α) (k : Nat), (∀ j b, j < k → l[j]? = some b → p b = true) → (∀ b, l[k]? = some b → p b = false) → l.takeWhile p = l.take k
  | [], k, _, _ => by simp
  | x :: l, 0, _, h2 => by
    have := h2 x rfl
    simp [this]
  | x :: l, k + 1, h1, h2 => by
    have hx := h1 0 x (Nat.succ_pos _) rfl
    rw [List.takeWhile_cons, if_pos hx, List.take_succ_cons, takeWhile_take p l k (fun j b hj hb => h1 (j + 1) b (by omega) (by simpa using hb)) (fun b hb => h2 b (by simpa using hb))]
theorem leadL_take (l : List UInt8) (k : Nat) (h1 : ∀ j b, j < k → l[j]? = some b → blB b.toNat = true) (h2 : ∀ b, l[k]? = some b → blB b.toNat = false) : leadL l = l.take k :=
  takeWhile_take _ l k (fun j b hj hb => by rw [bl_contains]; exact h1 j b hj hb) (fun b hb => by rw [bl_contains]; exact h2 b hb)
theorem trimLeft_lead (l : List UInt8) : Lib.trimLeftS l [32, 9, 13] = l.drop (leadL l).length := by
  unfold Lib.trimLeftS leadL
  induction l with
  | nil => rfl
  | cons a l ih =>
    rw [List.dropWhile_cons, List.takeWhile_cons]
    split <;> simp_all
theorem leadL_le (l : List UInt8) : (leadL l).length ≤ l.length := (List.takeWhile_sublist _).length_le
theorem trimRight_take (l : List UInt8) (k : Nat) (hk : k ≤ l.length) (h1 : ∀ (j : Nat) b, k ≤ j → l[j]? = some b → blB b.toNat = true) (h2 : ∀ b, 0 < k → l[k - 1]? = some b → blB b.toNat = false) : Lib.trimRightS l [32, 9, 13] = l.take k :=
  Lib.trimRightS_take l [32, 9, 13] k hk (fun j b hj hb => by rw [bl_contains]; exact h1 j b hj hb) (fun b h0 hb => by rw [bl_contains]; exact h2 b h0 hb)
theorem drop_parts (l : List UInt8) (a k : Nat) (c : UInt8) (h : a ≤ k) (hk : l[k]? = some c) : l.drop a = (l.drop a).take (k - a) ++ c :: l.drop (k + 1) := by
  have hlt : k < l.length := (List.getElem?_eq_some_iff.1 hk).1
  have e1 := (List.take_append_drop (k - a) (l.drop a)).symm
  rw [List.drop_drop, show a + (k - a) = k by omega, List.drop_eq_getElem_cons hlt, (List.getElem?_eq_some_iff.1 hk).2] at e1
  exact e1
theorem not_mem_part (l : List UInt8) (a k : Nat) (c : UInt8) (hn : ∀ j, a ≤ j → j < k → l[j]? ≠ some c) : c ∉ (l.drop a).take (k - a) := by
  intro hm
  obtain ⟨j, hj⟩ := List.mem_iff_getElem?.1 hm
  rw [List.getElem?_take] at hj
  split at hj
  · rw [List.getElem?_drop] at hj
    exact hn (a + j) (by omega) (by omega) hj
  · cases hj
theorem split_step (c : UInt8) (l : List UInt8) (a k : Nat) (h : a ≤ k) (hk : l[k]? = some c) (hn : ∀ j, a ≤ j → j < k → l[j]? ≠ some c) :
    splitL c (l.drop a) = (l.drop a).take (k - a) :: splitL c (l.drop (k + 1)) := by
  conv => lhs; rw [drop_parts l a k c h hk]
  exact splitL_pre c _ (not_mem_part l a k c hn) _
theorem split_last (c : UInt8) (l : List UInt8) (a : Nat) (hn : ∀ j, a ≤ j → j < l.length → l[j]? ≠ some c) : splitL c (l.drop a) = [l.drop a] := by
  apply splitL_none
  have := not_mem_part l a l.length c hn
  rwa [List.take_of_length_le (by simp)] at this

/-- Each line with its line end. -/
def flatL (ls : List (List UInt8)) : List UInt8 := (ls.map (· ++ [10])).flatten
theorem flatL_length : ∀ ls : List (List UInt8), (flatL ls).length = (Lib.joinTail [10] ls).length
  | [] => rfl
  | x :: ls => by
    have ih := flatL_length ls
    unfold flatL Lib.joinTail at *
    simp only [List.map_cons, List.flatten_cons, List.length_append]
    rw [ih]; simp; omega
theorem flatL_take_succ (ls : List (List UInt8)) (k : Nat) (y : List UInt8) (h : ls[k]? = some y) : flatL (ls.take (k + 1)) = flatL (ls.take k) ++ y ++ [10] := by
  unfold flatL
  rw [List.take_add_one, h]; simp
theorem flatL_take_le (ls : List (List UInt8)) (k : Nat) : (flatL (ls.take k)).length ≤ (flatL ls).length := by
  rw [flatL_length, flatL_length]; exact Lib.joinTail_take_le _ _ _
/-- The last line, its trailing blanks cut, dropped if empty. -/
def endL (z : List UInt8) : List UInt8 := if Lib.trimRightS z [32, 9, 13] = [] then [] else Lib.trimRightS z [32, 9, 13] ++ [10]
/-- The first line at the indent, dropped if blank. -/
def firstL (x0 ind : List UInt8) : List UInt8 := if Lib.trimS x0 [32, 9, 13] = [] then [] else ind ++ Lib.trimS x0 [32, 9, 13] ++ [10]
/-- policyB1CopiedBody, of the lines. -/
def bodyOf (x0 : List UInt8) (r : List (List UInt8)) : List UInt8 := firstL x0 (indentLines r) ++ flatL r.dropLast ++ (if r = [] then [] else endL (r.getLastD []))
def modelL (inner : List UInt8) : List UInt8 := bodyOf ((splitL 10 inner).headD []) (splitL 10 inner).tail

theorem lead_hit (r : List (List UInt8)) (k : Nat) (x : List UInt8) (h : r[k]? = some x) (hx : (leadL x).length < x.length) : indentLines (r.drop k) = leadL x := by
  have hne : Lib.trimLeftS x [32, 9, 13] ≠ [] := by
    rw [trimLeft_lead]; intro e
    have := congrArg List.length e
    simp at this; omega
  rw [indent_hit r k x h hne, trimLeft_lead, List.length_drop]
  have : x.length - (x.length - (leadL x).length) = (leadL x).length := by omega
  rw [this]
  unfold leadL
  exact (List.prefix_iff_eq_take.1 (List.takeWhile_prefix _)).symm
theorem lead_skip (r : List (List UInt8)) (k : Nat) (x : List UInt8) (h : r[k]? = some x) (hx : ¬ (leadL x).length < x.length) : indentLines (r.drop k) = indentLines (r.drop (k + 1)) := by
  refine indent_skip r k x h ?_
  rw [trimLeft_lead, List.drop_eq_nil_of_le (by omega)]

end Go.Proofs.Qxb6603042aDoor.Pl
