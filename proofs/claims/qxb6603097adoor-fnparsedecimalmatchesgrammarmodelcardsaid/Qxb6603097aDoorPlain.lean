import Derived.Lib.SplitLaws
import Derived.Lib.TrimByte
import Derived.Lib.Strings
import Derived.Lib.IndexMore
namespace Go.Proofs.Qxb6603097aDoor.Pl
open Go

def B (l : List UInt8) : ByteArray := ⟨l.toArray⟩
theorem B_data (l : List UInt8) : (B l).data.toList = l := rfl
theorem B_of (s : ByteArray) : B s.data.toList = s := rfl
theorem B_size (l : List UInt8) : (B l).size = l.length := by rw [Lib.size_eq, B_data]
theorem B_eq {X : ByteArray} {l : List UInt8} (h : X.data.toList = l) : X = B l := by rw [← h]; rfl
theorem isEmpty_B (l : List UInt8) : (B l).toList.isEmpty = l.isEmpty := by rw [Lib.toList_data, B_data]

def digB (n : Int) : Bool := decide (48 ≤ n) && decide (n ≤ 57)
def dig (c : UInt8) : Bool := digB c.toNat
/-- allDigits. -/
def allD (l : List UInt8) : Bool := !l.isEmpty && l.all dig
/-- What follows the sign. -/
def restL : List UInt8 → List UInt8
  | [] => []
  | c :: t => if c = 45 ∨ c = 43 then t else c :: t
def negL : List UInt8 → Bool
  | [] => false
  | c :: _ => c == 45

/-- parseDecimal, behind the cut. -/
def decOf (neg : Bool) (wh fr : List UInt8) (pt : Bool) : Bool × List UInt8 × List UInt8 × Bool :=
  if allD wh && (!pt || allD fr) then (neg && !(decide (Lib.trimLeftB wh 48 = []) && decide (Lib.trimRightB fr 48 = [])), Lib.trimLeftB wh 48, Lib.trimRightB fr 48, true) else (false, [], [], false)
/-- parseDecimal. -/
def decL (l : List UInt8) : Bool × List UInt8 × List UInt8 × Bool :=
  decOf (negL l) (Lib.cut (restL l) [46]).1 (Lib.cut (restL l) [46]).2.1 (Lib.cut (restL l) [46]).2.2

/-- modelDecimal, behind the sign: d1 the whole digits, r1 what follows them. -/
def modOf (neg : Bool) (d1 r1 : List UInt8) : Bool × List UInt8 × List UInt8 × Bool :=
  if d1 = [] then (false, [], [], false) else
  match r1 with
  | [] => (neg && !(decide (Lib.trimLeftB d1 48 = [])), Lib.trimLeftB d1 48, [], true)
  | c :: r2 => if c = 46 ∧ r2.takeWhile dig ≠ [] ∧ r2.dropWhile dig = [] then (neg && !(decide (Lib.trimLeftB d1 48 = []) && decide (Lib.trimRightB (r2.takeWhile dig) 48 = [])), Lib.trimLeftB d1 48, Lib.trimRightB (r2.takeWhile dig) 48, true) else (false, [], [], false)
def modL (l : List UInt8) : Bool × List UInt8 × List UInt8 × Bool := modOf (negL l) ((restL l).takeWhile dig) ((restL l).dropWhile dig)

/-! ### The plain law -/
theorem index_nil_one (c : UInt8) : Lib.index [] [c] = -1 := by simp [Lib.index]
theorem index_cons_eq (c : UInt8) (l : List UInt8) : Lib.index (c :: l) [c] = 0 := by simp [Lib.index, List.isPrefixOf]
theorem index_cons_ne (b c : UInt8) (l : List UInt8) (h : b ≠ c) : Lib.index (b :: l) [c] = if Lib.index l [c] == -1 then -1 else Lib.index l [c] + 1 := by
  have : ([c].isPrefixOf (b :: l)) = false := by simp [List.isPrefixOf, Ne.symm h]
  rw [Lib.index, this]; simp
theorem index_pre (c : UInt8) (l : List UInt8) : ∀ d : List UInt8, c ∉ d → Lib.index (d ++ c :: l) [c] = d.length
  | [], _ => by simp [index_cons_eq]
  | b :: d, h => by
    have hb : b ≠ c := fun e => h (by simp [e])
    have ih := index_pre c l d (fun hm => h (by simp [hm]))
    rw [List.cons_append, index_cons_ne b c _ hb, ih, if_neg (by simp)]
    simp
theorem index_none (c : UInt8) : ∀ d : List UInt8, c ∉ d → Lib.index d [c] = -1
  | [], _ => index_nil_one c
  | b :: d, h => by
    have hb : b ≠ c := fun e => h (by simp [e])
    rw [index_cons_ne b c _ hb, index_none c d (fun hm => h (by simp [hm]))]
    rfl
theorem cut_pre (c : UInt8) (d l : List UInt8) (h : c ∉ d) : Lib.cut (d ++ c :: l) [c] = (d, l, true) := by
  rw [Lib.cut, index_pre c l d h, if_pos (by omega)]
  simp [List.take_left', List.drop_append]
theorem cut_none (c : UInt8) (d : List UInt8) (h : c ∉ d) : Lib.cut d [c] = (d, [], false) := by
  rw [Lib.cut, index_none c d h, if_neg (by omega)]
theorem mem_cut (c : UInt8) : ∀ l : List UInt8, c ∈ l → ∃ d t, l = d ++ c :: t ∧ c ∉ d
  | [], h => by simp at h
  | b :: l, h => by
    by_cases hb : b = c
    · exact ⟨[], l, by simp [hb], by simp⟩
    · obtain ⟨d, t, e, hd⟩ := mem_cut c l (by simpa [Ne.symm hb] using h)
      exact ⟨b :: d, t, by simp [e], by simp [Ne.symm hb, hd]⟩

theorem dig_46 : dig 46 = false := by decide
theorem all_takeWhile (p : UInt8 → Bool) : ∀ l : List UInt8, ∀ x ∈ l.takeWhile p, p x = true
  | [], x, h => by simp at h
  | a :: l, x, h => by
    rw [List.takeWhile_cons] at h
    split at h
    · rename_i ha
      rcases List.mem_cons.1 h with rfl | h
      · exact ha
      · exact all_takeWhile p l x h
    · simp at h
theorem dropWhile_head (p : UInt8 → Bool) : ∀ (l : List UInt8) (c : UInt8) (t : List UInt8), l.dropWhile p = c :: t → p c = false
  | [], _, _, h => by simp at h
  | a :: l, c, t, h => by
    rw [List.dropWhile_cons] at h
    split at h
    · exact dropWhile_head p l c t h
    · rename_i ha
      obtain ⟨rfl, _⟩ := List.cons.inj h
      simpa using ha
theorem allD_take (d : List UInt8) (h : ∀ x ∈ d, dig x = true) : allD d = !d.isEmpty := by
  rw [allD, List.all_eq_true.2 h, Bool.and_true]
theorem takeWhile_all (p : UInt8 → Bool) : ∀ l : List UInt8, l.dropWhile p = [] → l.takeWhile p = l
  | [], _ => rfl
  | a :: l, h => by
    rw [List.dropWhile_cons] at h
    rw [List.takeWhile_cons]
    split at h
    · rename_i ha
      rw [if_pos ha, takeWhile_all p l h]
    · simp at h
theorem allD_iff (r : List UInt8) : allD r = true ↔ r.takeWhile dig ≠ [] ∧ r.dropWhile dig = [] := by
  constructor
  · intro h
    rw [allD, Bool.and_eq_true, List.all_eq_true] at h
    have hd : r.dropWhile dig = [] := by
      cases hq : r.dropWhile dig with
      | nil => rfl
      | cons c t =>
        have h1 := dropWhile_head dig r c t hq
        have h2 := h.2 c ((List.dropWhile_sublist (l := r) dig).subset (by rw [hq]; simp))
        rw [h1] at h2; cases h2
    refine ⟨?_, hd⟩
    rw [takeWhile_all dig r hd]
    intro e; rw [e] at h; simp at h
  · rintro ⟨h1, h2⟩
    have e := takeWhile_all dig r h2
    rw [e] at h1
    have hall := all_takeWhile dig r
    rw [e] at hall
    rw [allD_take r hall]
    cases r with
    | nil => exact absurd rfl h1
    | cons _ _ => rfl

theorem mod_dec (neg : Bool) (r : List UInt8) : modOf neg (r.takeWhile dig) (r.dropWhile dig) = decOf neg (Lib.cut r [46]).1 (Lib.cut r [46]).2.1 (Lib.cut r [46]).2.2 := by
  have hall := all_takeWhile dig r
  have hr := (List.takeWhile_append_dropWhile (p := dig) (l := r)).symm
  have hno : (46 : UInt8) ∉ r.takeWhile dig := fun h => by have := hall 46 h; rw [dig_46] at this; cases this
  cases hq : r.dropWhile dig with
  | nil =>
    rw [hq, List.append_nil] at hr
    have hc : Lib.cut r [46] = (r, [], false) := cut_none 46 r (by rw [hr]; exact hno)
    rw [hc, ← hr]
    rw [← hr] at hall
    unfold modOf decOf
    rw [allD_take r hall]
    cases r with
    | nil => simp
    | cons a t => simp [Lib.trimRightB]
  | cons c r2 =>
    rw [hq] at hr
    have hcd := dropWhile_head dig r c r2 hq
    by_cases h46 : c = 46
    · subst h46
      have hc : Lib.cut r [46] = (r.takeWhile dig, r2, true) := by
        conv => lhs; rw [hr]
        exact cut_pre 46 _ r2 hno
      rw [hc]
      unfold modOf decOf
      rw [allD_take _ hall]
      cases hd : r.takeWhile dig with
      | nil => simp
      | cons a t =>
        simp only [List.isEmpty_cons, Bool.not_false, Bool.true_and, Bool.not_true, Bool.false_or, true_and]
        rw [if_neg (by simp)]
        by_cases h2 : allD r2 = true
        · have h3 := (allD_iff r2).1 h2
          rw [if_pos h3, h2, if_pos rfl, takeWhile_all dig r2 h3.2]
        · have h3 : ¬ (r2.takeWhile dig ≠ [] ∧ r2.dropWhile dig = []) := fun h => h2 ((allD_iff r2).2 h)
          rw [if_neg h3, if_neg h2]
    · have hw : allD (Lib.cut r [46]).1 = false := by
        have hcm : ∀ d, (∃ t, d = r.takeWhile dig ++ c :: t) → allD d = false := by
          rintro d ⟨t, rfl⟩
          unfold allD
          rw [List.all_append, List.all_cons, hcd]
          simp
        by_cases hm : (46 : UInt8) ∈ r2
        · obtain ⟨d, t, e, hd⟩ := mem_cut 46 r2 hm
          have hc : Lib.cut r [46] = (r.takeWhile dig ++ c :: d, t, true) := by
            conv => lhs; rw [hr, e, show r.takeWhile dig ++ c :: (d ++ 46 :: t) = (r.takeWhile dig ++ c :: d) ++ 46 :: t by simp]
            refine cut_pre 46 _ t ?_
            simp only [List.mem_append, List.mem_cons, not_or]
            exact ⟨hno, fun h => h46 h.symm, hd⟩
          rw [hc]
          exact hcm _ ⟨d, rfl⟩
        · have hc : Lib.cut r [46] = (r, [], false) := by
            refine cut_none 46 r ?_
            rw [hr]
            simp only [List.mem_append, List.mem_cons, not_or]
            exact ⟨hno, fun h => h46 h.symm, hm⟩
          rw [hc]
          exact hcm _ ⟨r2, hr⟩
      unfold modOf decOf
      rw [hw]
      simp only [Bool.false_and, Bool.false_eq_true, if_false]
      split
      · rfl
      · rw [if_neg (fun h => h46 h.1)]
theorem modL_eq (l : List UInt8) : modL l = decL l := mod_dec _ _
end Go.Proofs.Qxb6603097aDoor.Pl
