import Derived.Lib.SplitLaws
import Derived.Lib.SlTrimSet
import Derived.Lib.Join
import Derived.Lib.Strings
namespace Go.Proofs.Qxb6603774aDoor.Pl
open Go

/-- A list of bytes as Go's string. -/
def B (l : List UInt8) : ByteArray := ⟨l.toArray⟩
theorem B_data (l : List UInt8) : (B l).data.toList = l := rfl
theorem B_of (s : ByteArray) : B s.data.toList = s := rfl
theorem B_size (l : List UInt8) : (B l).size = l.length := by rw [Lib.size_eq, B_data]
theorem B_eq {X : ByteArray} {l : List UInt8} (h : X.data.toList = l) : X = B l := by rw [← h]; rfl
theorem B_inj {a b : List UInt8} (h : B a = B b) : a = b := by rw [← B_data a, ← B_data b, h]

theorem app_data (a b : ByteArray) : (a ++ b).data.toList = a.data.toList ++ b.data.toList := by simp
theorem app_size (a b : ByteArray) : (a ++ b).size = a.size + b.size := by simp

/-- The pieces of s between the bytes c. -/
def splitL (c : UInt8) : List UInt8 → List (List UInt8)
  | [] => [[]]
  | b :: l => if b = c then [] :: splitL c l else (b :: (splitL c l).headD []) :: (splitL c l).tail

theorem splitL_ne (c : UInt8) : ∀ l, splitL c l ≠ []
  | [] => by simp [splitL]
  | b :: l => by unfold splitL; split <;> simp

theorem splitL_cons (c : UInt8) (l : List UInt8) : ∃ x r, splitL c l = x :: r := by
  cases h : splitL c l with
  | nil => exact absurd h (splitL_ne c l)
  | cons x r => exact ⟨x, r, rfl⟩

theorem splitL_length (c : UInt8) : ∀ l, (splitL c l).length = l.count c + 1
  | [] => rfl
  | b :: l => by
    unfold splitL
    have ih := splitL_length c l
    by_cases h : b = c
    · subst h; simp [ih]
    · rw [if_neg h, List.count_cons_of_ne h]
      simp; omega

/-- At a byte that stands nowhere in x. -/
theorem splitL_pre (c : UInt8) (x : List UInt8) (hx : c ∉ x) (l : List UInt8) : splitL c (x ++ c :: l) = x :: splitL c l := by
  induction x with
  | nil => simp [splitL]
  | cons b x ih =>
    have hb : b ≠ c := fun e => hx (by simp [e])
    rw [List.cons_append, splitL, if_neg hb, ih (fun h => hx (by simp [h]))]
    simp

theorem splitL_none (c : UInt8) (x : List UInt8) (hx : c ∉ x) : splitL c x = [x] := by
  induction x with
  | nil => rfl
  | cons b x ih =>
    have hb : b ≠ c := fun e => hx (by simp [e])
    rw [splitL, if_neg hb, ih (fun h => hx (by simp [h]))]
    simp

theorem index_nil_one (c : UInt8) : Lib.index [] [c] = -1 := by simp [Lib.index]
theorem index_cons_eq (c : UInt8) (l : List UInt8) : Lib.index (c :: l) [c] = 0 := by simp [Lib.index, List.isPrefixOf]
theorem index_cons_ne (b c : UInt8) (l : List UInt8) (h : b ≠ c) : Lib.index (b :: l) [c] = if Lib.index l [c] == -1 then -1 else Lib.index l [c] + 1 := by
  have : ([c].isPrefixOf (b :: l)) = false := by simp [List.isPrefixOf, Ne.symm h]
  rw [Lib.index, this]; simp

/-- The shelf's word for strings.Split at a sep of one byte IS splitL. -/
theorem splitK_one (c : UInt8) : ∀ l : List UInt8, Lib.splitK [c] 0 (l.count c) l = splitL c l
  | [] => rfl
  | b :: l => by
    have ih := splitK_one c l
    by_cases h : b = c
    · subst h
      rw [List.count_cons_self, Lib.splitK, index_cons_eq, splitL, if_pos rfl]
      simp [ih]
    · rw [List.count_cons_of_ne h, splitL, if_neg h]
      cases hk : l.count c with
      | zero =>
        rw [hk] at ih
        rw [← ih]
        simp [Lib.splitK]
      | succ k =>
        rw [hk] at ih
        have hi : Lib.index l [c] ≠ -1 := by
          intro e
          have hl := splitL_length c l
          rw [← ih, Lib.splitK, e] at hl
          simp at hl
          omega
        have hge := Lib.index_ge l [c]
        have hb : (Lib.index l [c] == -1) = false := beq_eq_false_iff_ne.2 hi
        have e1 : Lib.index (b :: l) [c] = Lib.index l [c] + 1 := by rw [index_cons_ne b c l h, hb]; simp
        have e2 : (Lib.index l [c] + 1 == -1) = false := beq_eq_false_iff_ne.2 (by omega)
        have e3 : (Lib.index l [c] + 1).toNat = (Lib.index l [c]).toNat + 1 := by omega
        rw [← ih, Lib.splitK, Lib.splitK, e1, e2, hb, e3]
        have e4 : (Lib.index l [c]).toNat + 1 + [c].length = ((Lib.index l [c]).toNat + [c].length) + 1 := by omega
        have e5 : (Lib.index l [c]).toNat + 1 + 0 = ((Lib.index l [c]).toNat + 0) + 1 := by omega
        rw [e4, e5, List.drop_succ_cons, List.take_succ_cons]
        simp

theorem countB_one (c : UInt8) (s : ByteArray) : Lib.countB s (B [c]) = s.data.toList.count c := by
  rw [show Lib.countB s (B [c]) = Lib.count s.data.toList [c] from rfl, Lib.count_one]

theorem splitB_one (c : UInt8) (s : ByteArray) : Lib.splitB (B [c]) 0 (Lib.countB s (B [c])) s = (splitL c s.data.toList).map B := by
  have h := Lib.splitB_data (B [c]) 0 (Lib.countB s (B [c])) s
  rw [countB_one, B_data, splitK_one] at h
  rw [countB_one, ← h, List.map_map]
  conv => lhs; rw [← List.map_id (Lib.splitB _ _ _ _)]
  exact List.map_congr_left fun x _ => rfl

theorem B_extract (l : List UInt8) (a b : Nat) : (B l).extract a b = B ((l.drop a).take (b - a)) := by
  have h := Lib.extract_data (B l) a b
  rw [B_data] at h
  rw [← B_of ((B l).extract a b), h]

theorem splitL_piece (c : UInt8) : ∀ (l : List UInt8) (x : List UInt8), x ∈ splitL c l → x.length ≤ l.length
  | [], x, h => by simp [splitL] at h; simp [h]
  | b :: l, x, h => by
    obtain ⟨y, r, hy⟩ := splitL_cons c l
    unfold splitL at h
    rw [hy] at h
    have hall := splitL_piece c l
    rw [hy] at hall
    split at h
    · rcases List.mem_cons.1 h with rfl | h
      · simp
      · have := hall x h; simp; omega
    · simp only [List.headD_cons, List.tail_cons] at h
      rcases List.mem_cons.1 h with rfl | h
      · have := hall y (by simp); simp; omega
      · have := hall x (by simp [h]); simp; omega

theorem splitL_pieces_le (c : UInt8) (l : List UInt8) : (splitL c l).length ≤ l.length + 1 := by
  have := splitL_length c l
  have := List.count_le_length (a := c) (l := l)
  omega

/-- The pieces, joined again, are the text. -/
theorem join_splitL (c : UInt8) : ∀ l : List UInt8, Lib.join (splitL c l) [c] = l
  | [] => by simp [splitL, Lib.join_one]
  | b :: l => by
    have ih := join_splitL c l
    obtain ⟨y, r, hy⟩ := splitL_cons c l
    rw [splitL, hy]
    rw [hy, Lib.join_cons] at ih
    split
    · rename_i h
      subst h
      rw [Lib.join_cons, Lib.joinTail, List.map_cons, List.flatten_cons, ← Lib.joinTail]
      simp [ih]
    · simp only [List.headD_cons, List.tail_cons]
      rw [Lib.join_cons, List.cons_append, ih]

theorem splitL_append (c : UInt8) (Z : List UInt8) : ∀ A : List UInt8, splitL c (A ++ c :: Z) = splitL c A ++ splitL c Z
  | [] => by simp [splitL]
  | b :: A => by
    have ih := splitL_append c Z A
    obtain ⟨y, r, hy⟩ := splitL_cons c A
    rw [List.cons_append, splitL, splitL, ih, hy]
    split <;> simp

theorem piece_no (c : UInt8) : ∀ (l x : List UInt8), x ∈ splitL c l → c ∉ x
  | [], x, h => by simp [splitL] at h; simp [h]
  | b :: l, x, h => by
    have ih := piece_no c l
    obtain ⟨y, r, hy⟩ := splitL_cons c l
    rw [splitL, hy] at h
    rw [hy] at ih
    split at h
    · rcases List.mem_cons.1 h with rfl | h
      · simp
      · exact ih x h
    · rename_i hb
      simp only [List.headD_cons, List.tail_cons] at h
      rcases List.mem_cons.1 h with rfl | h
      · have := ih y (by simp)
        simp; exact ⟨fun e => hb e.symm, this⟩
      · exact ih x (by simp [h])

theorem isEmpty_B (l : List UInt8) : (B l).toList.isEmpty = l.isEmpty := by rw [Lib.toList_data, B_data]
theorem ne_of_pos (s : ByteArray) (h : 0 < s.size) : s.toList.isEmpty = false := by
  rw [Lib.toList_data]
  rw [Lib.size_eq] at h
  cases hq : s.data.toList with
  | nil => rw [hq] at h; simp at h
  | cons _ _ => rfl
theorem get_byte (s : ByteArray) (k : Nat) (h : k < s.size) : s.data.toList[k]? = some s[k] := by
  rw [List.getElem?_eq_getElem (by rw [← Lib.size_eq]; exact h)]; rfl

/-! ### The nodes laid end to end -/
/-- What is left of the list where k nodes have been read. -/
def leftL (ls : List (List UInt8)) (k : Nat) : List UInt8 := if k = 0 then Lib.join ls [44] else Lib.joinTail [44] (ls.drop k)
theorem left_first (ls : List (List UInt8)) (y : List UInt8) (h : ls[0]? = some y) : leftL ls 0 = y ++ Lib.joinTail [44] (ls.drop 1) := by
  cases ls with
  | nil => simp at h
  | cons a r =>
    obtain rfl : a = y := by simpa using h
    rw [leftL, if_pos rfl, Lib.join_cons]; rfl
theorem left_next (ls : List (List UInt8)) (k : Nat) (y : List UInt8) (hk : k ≠ 0) (h : ls[k]? = some y) : leftL ls k = 44 :: (y ++ Lib.joinTail [44] (ls.drop (k + 1))) := by
  have hlt : k < ls.length := (List.getElem?_eq_some_iff.1 h).1
  rw [leftL, if_neg hk, List.drop_eq_getElem_cons hlt, (List.getElem?_eq_some_iff.1 h).2]
  simp [Lib.joinTail]
theorem left_end (ls : List (List UInt8)) (k : Nat) (hk : k ≠ 0) (h : ls.length ≤ k) : leftL ls k = [] := by
  rw [leftL, if_neg hk, List.drop_eq_nil_of_le h]; rfl
theorem left_succ (ls : List (List UInt8)) (k : Nat) : leftL ls (k + 1) = Lib.joinTail [44] (ls.drop (k + 1)) := by rw [leftL, if_neg (by omega)]
theorem drop_get (l : List UInt8) (p j : Nat) (y t : List UInt8) (h : l.drop p = y ++ t) (hj : j < y.length) : l[p + j]? = y[j]? := by
  have := congrArg (·[j]?) h
  simp only [List.getElem?_drop] at this
  rw [this, List.getElem?_append_left hj]
theorem drop_more (l : List UInt8) (p : Nat) (y t : List UInt8) (h : l.drop p = y ++ t) : l.drop (p + y.length) = t := by
  rw [← List.drop_drop, h, List.drop_left]
theorem drop_len (l : List UInt8) (p : Nat) (y t : List UInt8) (hp : p ≤ l.length) (h : l.drop p = y ++ t) : p + y.length ≤ l.length := by
  have := congrArg List.length h
  simp at this; omega
end Go.Proofs.Qxb6603774aDoor.Pl
