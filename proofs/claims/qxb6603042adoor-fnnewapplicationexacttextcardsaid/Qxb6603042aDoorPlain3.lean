import Derived.Test.Qxb6603042aDoorPlain2
namespace Go.Proofs.Qxb6603042aDoor.Pl
open Go

/-! ### The plain law of the copied body -/
theorem splitL_append (c : UInt8) (Z : List UInt8) : ∀ A : List UInt8, splitL c (A ++ c :: Z) = splitL c A ++ splitL c Z
  | [] => by simp [splitL]
  | b :: A => by
    have ih := splitL_append c Z A
    obtain ⟨y, r, hy⟩ := splitL_cons c A
    rw [List.cons_append, splitL, splitL, ih, hy]
    split <;> simp
theorem trimRight_past (A z : List UInt8) : Lib.trimRightS (A ++ 10 :: z) [32, 9, 13] = A ++ 10 :: Lib.trimRightS z [32, 9, 13] := by
  unfold Lib.trimRightS
  rw [List.reverse_append, List.reverse_cons, List.append_assoc, List.dropWhile_append]
  split
  · rename_i h
    rw [List.isEmpty_iff.1 h]
    simp
  · simp
theorem trimRight_idem (l cs : List UInt8) : Lib.trimRightS (Lib.trimRightS l cs) cs = Lib.trimRightS l cs := by
  unfold Lib.trimRightS
  rw [List.reverse_reverse]
  congr 1
  generalize l.reverse = m
  induction m with
  | nil => rfl
  | cons a m ih =>
    rw [List.dropWhile_cons]
    split
    · exact ih
    · rename_i h; rw [List.dropWhile_cons, if_neg h]
theorem trimS_right (l cs : List UInt8) : Lib.trimS (Lib.trimRightS l cs) cs = Lib.trimS l cs := by
  rw [Lib.trimS, trimRight_idem, ← Lib.trimS]
theorem trimRight_mem (l cs : List UInt8) (x : UInt8) (h : x ∈ Lib.trimRightS l cs) : x ∈ l := by
  unfold Lib.trimRightS at h
  rw [List.mem_reverse] at h
  simpa using (List.dropWhile_sublist (l := l.reverse) (cs.contains ·)).subset h
theorem trimS_mem (l cs : List UInt8) (x : UInt8) (h : x ∈ Lib.trimS l cs) : x ∈ l :=
  trimRight_mem l cs x ((List.dropWhile_sublist (l := Lib.trimRightS l cs) (cs.contains ·)).subset h)
theorem piece_no (c : UInt8) : ∀ (l x : List UInt8), x ∈ splitL c l → c ∉ x
  | [], x, h => by simp [splitL] at h; simp [h]
  | b :: l, x, h => by
    have ih := piece_no c l
    obtain ⟨y, r, hy⟩ := splitL_cons c l
    rw [splitL, hy] at h
    rw [hy] at ih
    split at h
    · rcases List.mem_cons.1 h with rfl | h
      · simp
      · exact ih x h
    · rename_i hb
      simp only [List.headD_cons, List.tail_cons] at h
      rcases List.mem_cons.1 h with rfl | h
      · have := ih y (by simp)
        simp; exact ⟨fun e => hb e.symm, this⟩
      · exact ih x (by simp [h])
theorem join_snoc (e : List UInt8) : ∀ P : List (List UInt8), Lib.join (P ++ [e]) [10] = flatL P ++ e
  | [] => by simp [Lib.join_one, flatL]
  | x :: P => by
    have ih := join_snoc e P
    rw [List.cons_append, Lib.join_cons]
    cases hP : P ++ [e] with
    | nil => simp at hP
    | cons y q =>
      rw [hP, Lib.join_cons] at ih
      have e1 : Lib.joinTail [10] (y :: q) = 10 :: (y ++ Lib.joinTail [10] q) := by simp [Lib.joinTail]
      rw [e1, ih]
      simp [flatL]
theorem trimSuffix_not (X e : List UInt8) (h0 : e ≠ []) (h10 : (10 : UInt8) ∉ e) : Lib.trimSuffix (X ++ e) [10] = X ++ e := by
  unfold Lib.trimSuffix Lib.hasSuffix
  rw [if_neg]
  intro h
  rw [List.isSuffixOf_iff_suffix] at h
  obtain ⟨t, ht⟩ := h
  have e1 : (X ++ e).getLast? = some 10 := by rw [← ht]; simp
  have e2 : (X ++ e).getLast? = e.getLast? := by
    rw [List.getLast?_append]
    cases he : e.getLast? with
    | none => exact absurd (List.getLast?_eq_none_iff.1 he) h0
    | some _ => rfl
  rw [e2] at e1
  exact h10 (List.mem_of_getLast? e1)
theorem trimSuffix_yes (X : List UInt8) : Lib.trimSuffix (X ++ [10]) [10] = X := by
  unfold Lib.trimSuffix Lib.hasSuffix
  rw [if_pos (by simp)]
  simp
theorem flatL_end (P : List (List UInt8)) (h : P ≠ []) : ∃ Q, flatL P = Q ++ [10] := by
  rcases List.eq_nil_or_concat P with rfl | ⟨P', x, rfl⟩
  · exact absurd rfl h
  · exact ⟨flatL P' ++ x, by simp [flatL]⟩

/-- The body out of its lines. -/
theorem body_of_lines (P : List (List UInt8)) (z : List UInt8) (hz : (10 : UInt8) ∉ z) :
    Lib.trimSuffix (Lib.join (P ++ [Lib.trimRightS z [32, 9, 13]]) [10]) [10] ++ [10] = if flatL P ++ endL z = [] then [10] else flatL P ++ endL z := by
  rw [join_snoc]
  unfold endL
  by_cases he : Lib.trimRightS z [32, 9, 13] = []
  · rw [he, if_pos rfl, List.append_nil]
    by_cases hP : P = []
    · subst hP
      rfl
    · obtain ⟨Q, hQ⟩ := flatL_end P hP
      rw [hQ, trimSuffix_yes, if_neg (by simp)]
  · rw [if_neg he, trimSuffix_not _ _ he (fun h => hz (trimRight_mem _ _ _ h)), if_neg (by simp)]
    simp

theorem copy_model (inner : List UInt8) : copyL inner = if modelL inner = [] then [10] else modelL inner := by
  obtain ⟨x0, r, hxr⟩ := splitL_cons 10 inner
  have hno := piece_no 10 inner
  have hj := join_splitL 10 inner
  rw [hxr] at hno hj
  have hm : modelL inner = bodyOf x0 r := by rw [modelL, hxr]; rfl
  have hi : indentL inner = indentLines r := by rw [indentL, hxr]; rfl
  rw [hm, copyL, copyLines, hi]
  rcases List.eq_nil_or_concat r with rfl | ⟨r', z, rfl⟩
  · have hx : inner = x0 := by rw [← hj, Lib.join_one]
    have h0 : (10 : UInt8) ∉ x0 := hno x0 (by simp)
    have hs : splitL 10 (Lib.trimRightS inner [32, 9, 13]) = [Lib.trimRightS x0 [32, 9, 13]] := by
      rw [hx]; exact splitL_none 10 _ (fun h => h0 (trimRight_mem _ _ _ h))
    rw [hs, List.headD_cons, List.tail_cons, trimS_right]
    by_cases ht : Lib.trimS x0 [32, 9, 13] = []
    · rw [if_pos ht]
      have hb : bodyOf x0 [] = [] := by simp [bodyOf, firstL, ht, flatL]
      rw [hb, if_pos rfl]
      rfl
    · rw [if_neg ht, Lib.join_one, trimSuffix_not _ _ ht (fun h => h0 (trimS_mem _ _ _ h))]
      have hb : bodyOf x0 [] = indentLines [] ++ Lib.trimS x0 [32, 9, 13] ++ [10] := by simp [bodyOf, firstL, ht, flatL]
      rw [hb, if_neg (by simp)]
  · have hz : (10 : UInt8) ∉ z := hno z (by simp)
    have hin : inner = (x0 ++ Lib.joinTail [10] r') ++ 10 :: z := by
      rw [← hj, Lib.join_cons]; simp [Lib.joinTail]
    have hA : splitL 10 (x0 ++ Lib.joinTail [10] r') = x0 :: r' := by
      have h := hxr
      rw [hin, splitL_append, splitL_none 10 z hz, List.concat_eq_append, ← List.cons_append] at h
      exact List.append_cancel_right h
    have hs : splitL 10 (Lib.trimRightS inner [32, 9, 13]) = x0 :: (r' ++ [Lib.trimRightS z [32, 9, 13]]) := by
      rw [hin, trimRight_past, splitL_append, hA, splitL_none 10 _ (fun h => hz (trimRight_mem _ _ _ h))]
      rfl
    have hb : bodyOf x0 (r'.concat z) = flatL ((if Lib.trimS x0 [32, 9, 13] = [] then [] else [indentLines (r'.concat z) ++ Lib.trimS x0 [32, 9, 13]]) ++ r') ++ endL z := by
      have hne : r'.concat z ≠ [] := by simp
      unfold bodyOf firstL
      rw [if_neg hne]
      by_cases ht : Lib.trimS x0 [32, 9, 13] = []
      · rw [if_pos ht, if_pos ht]; simp
      · rw [if_neg ht, if_neg ht]; simp [flatL]
    rw [hs, List.headD_cons, List.tail_cons, hb, ← body_of_lines _ z hz]
    congr 2
    split <;> simp

/-- NewApplication's answer, by the line model. -/
theorem app_model (F nm inner : List UInt8) : appL F nm (copyL inner) = if moreB (modelL inner) = true then F.dropLast ++ commentL nm ++ modelL inner ++ [125] else F := by
  rw [copy_model]
  unfold appL
  by_cases h0 : modelL inner = []
  · rw [if_pos h0, h0]
    rw [if_pos (by decide), if_neg (by decide)]
  · rw [if_neg h0]
    by_cases hm : moreB (modelL inner) = true
    · rw [if_pos hm, if_neg (fun h => by rw [(more_iff _).2 h] at hm; cases hm)]
    · rw [if_neg hm, if_pos ((more_iff _).1 (by simpa using hm))]
end Go.Proofs.Qxb6603042aDoor.Pl
