import Derived.Lib.SplitLaws
import Derived.Lib.SlTrimSet
import Derived.Lib.Join
import Derived.Lib.Strings
namespace Go.Proofs.Qxb6603042aDoor.Pl
open Go

/-- A list of bytes as Go's string. -/
def B (l : List UInt8) : ByteArray := ⟨l.toArray⟩
theorem B_data (l : List UInt8) : (B l).data.toList = l := rfl
theorem B_of (s : ByteArray) : B s.data.toList = s := rfl
theorem B_size (l : List UInt8) : (B l).size = l.length := by rw [Lib.size_eq, B_data]
theorem B_eq {X : ByteArray} {l : List UInt8} (h : X.data.toList = l) : X = B l := by rw [← h]; rfl
theorem B_inj {a b : List UInt8} (h : B a = B b) : a = b := by rw [← B_data a, ← B_data b, h]

theorem app_data (a b : ByteArray) : (a ++ b).data.toList = a.data.toList ++ b.data.toList := by simp
theorem app_size (a b : ByteArray) : (a ++ b).size = a.size + b.size := by simp

/-- The pieces of s between the bytes c. -/
def splitL (c : UInt8) : List UInt8 → List (List UInt8)
  | [] => [[]]
  | b :: l => if b = c then [] :: splitL c l else (b :: (splitL c l).headD []) :: (splitL c l).tail

theorem splitL_ne (c : UInt8) : ∀ l, splitL c l ≠ []
  | [] => by simp [splitL]
  | b :: l => by unfold splitL; split <;> simp

theorem splitL_cons (c : UInt8) (l : List UInt8) : ∃ x r, splitL c l = x :: r := by
  cases h : splitL c l with
  | nil => exact absurd h (splitL_ne c l)
  | cons x r => exact ⟨x, r, rfl⟩

theorem splitL_length (c : UInt8) : ∀ l, (splitL c l).length = l.count c + 1
  | [] => rfl
  | b :: l => by
    unfold splitL
    have ih := splitL_length c l
    by_cases h : b = c
    · subst h; simp [ih]
    · rw [if_neg h, List.count_cons_of_ne h]
      simp; omega

/-- At a byte that stands nowhere in x. -/
theorem splitL_pre (c : UInt8) (x : List UInt8) (hx : c ∉ x) (l : List UInt8) : splitL c (x ++ c :: l) = x :: splitL c l := by
  induction x with
  | nil => simp [splitL]
  | cons b x ih =>
    have hb : b ≠ c := fun e => hx (by simp [e])
    rw [List.cons_append, splitL, if_neg hb, ih (fun h => hx (by simp [h]))]
    simp

theorem splitL_none (c : UInt8) (x : List UInt8) (hx : c ∉ x) : splitL c x = [x] := by
  induction x with
  | nil => rfl
  | cons b x ih =>
    have hb : b ≠ c := fun e => hx (by simp [e])
    rw [splitL, if_neg hb, ih (fun h => hx (by simp [h]))]
    simp

theorem index_nil_one (c : UInt8) : Lib.index [] [c] = -1 := by simp [Lib.index]
theorem index_cons_eq (c : UInt8) (l : List UInt8) : Lib.index (c :: l) [c] = 0 := by simp [Lib.index, List.isPrefixOf]
theorem index_cons_ne (b c : UInt8) (l : List UInt8) (h : b ≠ c) : Lib.index (b :: l) [c] = if Lib.index l [c] == -1 then -1 else Lib.index l [c] + 1 := by
  have : ([c].isPrefixOf (b :: l)) = false := by simp [List.isPrefixOf, Ne.symm h]
  rw [Lib.index, this]; simp

/-- The shelf's word for strings.Split at a sep of one byte IS splitL. -/
theorem splitK_one (c : UInt8) : ∀ l : List UInt8, Lib.splitK [c] 0 (l.count c) l = splitL c l
  | [] => rfl
  | b :: l => by
    have ih := splitK_one c l
    by_cases h : b = c
    · subst h
      rw [List.count_cons_self, Lib.splitK, index_cons_eq, splitL, if_pos rfl]
      simp [ih]
    · rw [List.count_cons_of_ne h, splitL, if_neg h]
      cases hk : l.count c with
      | zero =>
        rw [hk] at ih
        rw [← ih]
        simp [Lib.splitK]
      | succ k =>
        rw [hk] at ih
        have hi : Lib.index l [c] ≠ -1 := by
          intro e
          have hl := splitL_length c l
          rw [← ih, Lib.splitK, e] at hl
          simp at hl
          omega
        have hge := Lib.index_ge l [c]
        have hb : (Lib.index l [c] == -1) = false := beq_eq_false_iff_ne.2 hi
        have e1 : Lib.index (b :: l) [c] = Lib.index l [c] + 1 := by rw [index_cons_ne b c l h, hb]; simp
        have e2 : (Lib.index l [c] + 1 == -1) = false := beq_eq_false_iff_ne.2 (by omega)
        have e3 : (Lib.index l [c] + 1).toNat = (Lib.index l [c]).toNat + 1 := by omega
        rw [← ih, Lib.splitK, Lib.splitK, e1, e2, hb, e3]
        have e4 : (Lib.index l [c]).toNat + 1 + [c].length = ((Lib.index l [c]).toNat + [c].length) + 1 := by omega
        have e5 : (Lib.index l [c]).toNat + 1 + 0 = ((Lib.index l [c]).toNat + 0) + 1 := by omega
        rw [e4, e5, List.drop_succ_cons, List.take_succ_cons]
        simp

theorem countB_one (c : UInt8) (s : ByteArray) : Lib.countB s (B [c]) = s.data.toList.count c := by
  rw [show Lib.countB s (B [c]) = Lib.count s.data.toList [c] from rfl, Lib.count_one]

theorem splitB_one (c : UInt8) (s : ByteArray) : Lib.splitB (B [c]) 0 (Lib.countB s (B [c])) s = (splitL c s.data.toList).map B := by
  have h := Lib.splitB_data (B [c]) 0 (Lib.countB s (B [c])) s
  rw [countB_one, B_data, splitK_one] at h
  rw [countB_one, ← h, List.map_map]
  conv => lhs; rw [← List.map_id (Lib.splitB _ _ _ _)]
  exact List.map_congr_left fun x _ => rfl

/-- Source.indent's loop over the lines behind the first. -/
def indentLines : List (List UInt8) → List UInt8
  | [] => [32, 32, 32, 32]
  | l :: r => if Lib.trimLeftS l [32, 9, 13] = [] then indentLines r else l.take (l.length - (Lib.trimLeftS l [32, 9, 13]).length)
/-- Source.indent, of what stands between the braces. -/
def indentL (inner : List UInt8) : List UInt8 := indentLines (splitL 10 inner).tail

theorem indent_skip (r : List (List UInt8)) (k : Nat) (x : List UInt8) (h : r[k]? = some x) (hx : Lib.trimLeftS x [32, 9, 13] = []) : indentLines (r.drop k) = indentLines (r.drop (k + 1)) := by
  have hk : k < r.length := (List.getElem?_eq_some_iff.1 h).1
  have e : r[k] = x := (List.getElem?_eq_some_iff.1 h).2
  rw [List.drop_eq_getElem_cons hk, e, indentLines, if_pos hx]
theorem indent_hit (r : List (List UInt8)) (k : Nat) (x : List UInt8) (h : r[k]? = some x) (hx : Lib.trimLeftS x [32, 9, 13] ≠ []) : indentLines (r.drop k) = x.take (x.length - (Lib.trimLeftS x [32, 9, 13]).length) := by
  have hk : k < r.length := (List.getElem?_eq_some_iff.1 h).1
  have e : r[k] = x := (List.getElem?_eq_some_iff.1 h).2
  rw [List.drop_eq_getElem_cons hk, e, indentLines, if_neg hx]

theorem B_extract (l : List UInt8) (a b : Nat) : (B l).extract a b = B ((l.drop a).take (b - a)) := by
  have h := Lib.extract_data (B l) a b
  rw [B_data] at h
  rw [← B_of ((B l).extract a b), h]
theorem splitL_piece (c : UInt8) : ∀ (l : List UInt8) (x : List UInt8), x ∈ splitL c l → x.length ≤ l.length
  | [], x, h => by simp [splitL] at h; simp [h]
  | b :: l, x, h => by
    obtain ⟨y, r, hy⟩ := splitL_cons c l
    unfold splitL at h
    rw [hy] at h
    have hall := splitL_piece c l
    rw [hy] at hall
    split at h
    · rcases List.mem_cons.1 h with rfl | h
      · simp
      · have := hall x h; simp; omega
    · simp only [List.headD_cons, List.tail_cons] at h
      rcases List.mem_cons.1 h with rfl | h
      · have := hall y (by simp); simp; omega
      · have := hall x (by simp [h]); simp; omega
theorem splitL_pieces_le (c : UInt8) (l : List UInt8) : (splitL c l).length ≤ l.length + 1 := by
  have := splitL_length c l
  have := List.count_le_length (a := c) (l := l)
  omega
theorem trimLeftS_le (l cs : List UInt8) : (Lib.trimLeftS l cs).length ≤ l.length := (List.dropWhile_sublist _).length_le
theorem trimRightS_le (l cs : List UInt8) : (Lib.trimRightS l cs).length ≤ l.length := by
  have := (List.dropWhile_sublist (l := l.reverse) (cs.contains ·)).length_le
  simpa [Lib.trimRightS] using this
theorem trimS_le (l cs : List UInt8) : (Lib.trimS l cs).length ≤ l.length := Nat.le_trans (trimLeftS_le _ _) (trimRightS_le _ _)

theorem indentLines_le : ∀ (r : List (List UInt8)) (n : Nat), (∀ x ∈ r, x.length ≤ n) → (indentLines r).length ≤ n + 4
  | [], _, _ => by simp [indentLines]
  | l :: r, n, h => by
    unfold indentLines
    split
    · exact indentLines_le r n fun x hx => h x (by simp [hx])
    · have := h l (by simp)
      have h2 := List.length_take_le (l.length - (Lib.trimLeftS l [32, 9, 13]).length) l
      omega
theorem indentL_le (inner : List UInt8) : (indentL inner).length ≤ inner.length + 4 :=
  indentLines_le _ _ fun x hx => splitL_piece 10 inner x (List.mem_of_mem_tail hx)

/-- Source.Extended at one statement, where what stands ahead of the closing brace ends in a line end. -/
def extL (h ind c x : List UInt8) : List UInt8 := h ++ ((if c = [] then [] else ind ++ [35, 32] ++ c ++ [10]) ++ (ind ++ x ++ [10])) ++ [125]

/-- The head of a fresh block. -/
def headL (name : List UInt8) : List UInt8 := [97, 112, 112, 108, 105, 99, 97, 116, 105, 111, 110, 32] ++ name ++ [10, 123]
/-- The statements of a fresh block: what stands between its opening line and its closing brace. -/
def stmtsL (c x : List UInt8) : List UInt8 := (if c = [] then [] else [32, 32, 32, 32] ++ [35, 32] ++ c ++ [10]) ++ ([32, 32, 32, 32] ++ x ++ [10])
def freshL (name c x : List UInt8) : List UInt8 := headL name ++ [10] ++ stmtsL c x ++ [125]
theorem freshL_ext (name c x : List UInt8) : extL (headL name ++ [10]) [32, 32, 32, 32] c x = freshL name c x := rfl
theorem trimRightS_nl (l : List UInt8) : Lib.trimRightS (l ++ [10]) [32, 9, 13] = l ++ [10] := by simp [Lib.trimRightS]
theorem hasSuffix_nl (l : List UInt8) : Lib.hasSuffix (l ++ [10]) [10] = true := by simp [Lib.hasSuffix]
theorem indentL_nl : indentL [10] = [32, 32, 32, 32] := by decide

/-- The comment that names whose statements follow. -/
def commentL (nm : List UInt8) : List UInt8 := [32, 32, 32, 32, 35, 32, 84, 104, 101, 32, 115, 116, 97, 116, 101, 109, 101, 110, 116, 115, 32, 111, 102, 32, 97, 112, 112, 108, 105, 99, 97, 116, 105, 111, 110, 32] ++ nm ++ [58, 10]
/-- The lines that NewApplication joins. -/
def copyLines (inner : List UInt8) : List (List UInt8) :=
  if Lib.trimS ((splitL 10 (Lib.trimRightS inner [32, 9, 13])).headD []) [32, 9, 13] = [] then (splitL 10 (Lib.trimRightS inner [32, 9, 13])).tail
  else (indentL inner ++ Lib.trimS ((splitL 10 (Lib.trimRightS inner [32, 9, 13])).headD []) [32, 9, 13]) :: (splitL 10 (Lib.trimRightS inner [32, 9, 13])).tail
/-- The body that it copies. -/
def copyL (inner : List UInt8) : List UInt8 := Lib.trimSuffix (Lib.join (copyLines inner) [10]) [10] ++ [10]
/-- Its answer, where like has a block. -/
def appL (F nm body : List UInt8) : List UInt8 := if Lib.trimS body [32, 9, 13, 10] = [] then F else F.dropLast ++ commentL nm ++ body ++ [125]

/-- The pieces, joined again, are the text. -/
theorem join_splitL (c : UInt8) : ∀ l : List UInt8, Lib.join (splitL c l) [c] = l
  | [] => by simp [splitL, Lib.join_one]
  | b :: l => by
    have ih := join_splitL c l
    obtain ⟨y, r, hy⟩ := splitL_cons c l
    rw [splitL, hy]
    rw [hy, Lib.join_cons] at ih
    split
    · rename_i h
      subst h
      rw [Lib.join_cons, Lib.joinTail, List.map_cons, List.flatten_cons, ← Lib.joinTail]
      simp [ih]
    · simp only [List.headD_cons, List.tail_cons]
      rw [Lib.join_cons, List.cons_append, ih]
theorem joinTail_le (c : UInt8) (l x : List UInt8) (r : List (List UInt8)) (h : splitL c l = x :: r) : (Lib.joinTail [c] r).length ≤ l.length := by
  have := join_splitL c l
  rw [h, Lib.join_cons] at this
  rw [← this]; simp
theorem join_le_tail (c : UInt8) : ∀ r : List (List UInt8), (Lib.join r [c]).length ≤ (Lib.joinTail [c] r).length
  | [] => by simp [Lib.join_nil]
  | y :: r => by
    rw [Lib.join_cons]
    simp [Lib.joinTail]

theorem trimSuffix_le (l p : List UInt8) : (Lib.trimSuffix l p).length ≤ l.length := by
  unfold Lib.trimSuffix
  split
  · exact List.length_take_le' _ _
  · exact Nat.le_refl _

/-- policyB1IsBlank. -/
def blB (n : Int) : Bool := n == 32 || n == 9 || n == 13
/-- Neither blank nor line end. -/
def solidB (c : UInt8) : Bool := !([32, 9, 13, 10] : List UInt8).contains c
/-- policyB1HoldsMoreThanBlanks. -/
def moreB (l : List UInt8) : Bool := l.any solidB

theorem u8_beq (c d : UInt8) : (c == d) = ((c.toNat : Int) == (d.toNat : Int)) := by
  rw [Bool.eq_iff_iff, beq_iff_eq, beq_iff_eq, ← UInt8.toNat_inj]; omega
theorem solid_of (c : UInt8) : solidB c = (!blB c.toNat && !((c.toNat : Int) == 10)) := by
  unfold solidB blB
  simp only [List.contains_cons, List.contains_nil, Bool.or_false, u8_beq]
  cases h1 : ((c.toNat : Int) == 32) <;> cases h2 : ((c.toNat : Int) == 9) <;> cases h3 : ((c.toNat : Int) == 13) <;> cases h4 : ((c.toNat : Int) == 10) <;> simp_all
theorem more_take_succ (l : List UInt8) (k : Nat) (c : UInt8) (h : l[k]? = some c) : moreB (l.take (k + 1)) = (moreB (l.take k) || solidB c) := by
  rw [List.take_add_one, h]; simp [moreB]
theorem more_of_take (l : List UInt8) (k : Nat) (c : UInt8) (h : l[k]? = some c) (hc : solidB c = true) : moreB l = true := by
  rw [moreB, List.any_eq_true]; exact ⟨c, List.mem_of_getElem? h, hc⟩

theorem dropWhile_nil {α : Type} (p : α → Bool) (l : List α) : l.dropWhile p = [] ↔ ∀ x ∈ l, p x = true := by
  induction l with
  | nil => simp
  | cons a l ih =>
    rw [List.dropWhile_cons]
    split
    · rw [ih]; simp_all
    · simp_all
theorem trimS_nil (l cs : List UInt8) : Lib.trimS l cs = [] ↔ ∀ x ∈ l, cs.contains x = true := by
  rw [Lib.trimS, Lib.trimLeftS, dropWhile_nil]
  constructor
  · intro h x hx
    by_cases hq : x ∈ Lib.trimRightS l cs
    · exact h x hq
    · by_cases hc : cs.contains x = true
      · exact hc
      · exfalso
        apply hq
        unfold Lib.trimRightS
        rw [List.mem_reverse]
        have : ∀ m : List UInt8, x ∈ m → x ∈ m.dropWhile (cs.contains ·) := by
          intro m
          induction m with
          | nil => simp
          | cons a m ih =>
            intro hm
            rw [List.dropWhile_cons]
            split
            · rename_i ha
              rcases List.mem_cons.1 hm with rfl | hm
              · exact absurd ha hc
              · exact ih hm
            · exact hm
        exact this _ (by simpa using hx)
  · intro h x hx
    apply h
    unfold Lib.trimRightS at hx
    rw [List.mem_reverse] at hx
    have := (List.dropWhile_sublist (l := l.reverse) (cs.contains ·)).subset hx
    simpa using this
theorem more_iff (l : List UInt8) : moreB l = false ↔ Lib.trimS l [32, 9, 13, 10] = [] := by
  rw [trimS_nil, moreB, List.any_eq_false]
  unfold solidB
  constructor
  · intro h x hx
    have := h x hx
    cases hq : ([32, 9, 13, 10] : List UInt8).contains x with
    | true => rfl
    | false => rw [hq] at this; exact absurd rfl this
  · intro h x hx
    rw [h x hx]; simp

/-! ### The plain law of the fresh block -/
theorem stmts_end (c x : List UInt8) : ∃ q, stmtsL c x = q ++ [10] := ⟨(if c = [] then [] else [32, 32, 32, 32] ++ [35, 32] ++ c ++ [10]) ++ ([32, 32, 32, 32] ++ x), by simp [stmtsL]⟩
theorem headL_length (n : List UInt8) : (headL n).length = n.length + 14 := by simp [headL]
theorem fresh_inner (n c x : List UInt8) : ((freshL n c x).drop (n.length + 14)).take ((freshL n c x).length - 1 - (n.length + 14)) = 10 :: stmtsL c x := by
  rw [freshL, ← headL_length n, List.append_assoc, List.append_assoc, List.drop_left]
  have : (headL n ++ ([10] ++ (stmtsL c x ++ [125]))).length - 1 - (headL n).length = (10 :: stmtsL c x).length := by simp
  rw [this, show [10] ++ (stmtsL c x ++ [125]) = (10 :: stmtsL c x) ++ [125] by simp, List.take_left]
theorem fresh_trim (c x : List UInt8) : Lib.trimRightS (10 :: stmtsL c x) [32, 9, 13] = 10 :: stmtsL c x := by
  obtain ⟨q, hq⟩ := stmts_end c x
  rw [hq, show (10 : UInt8) :: (q ++ [10]) = (10 :: q) ++ [10] by simp, trimRightS_nl]
theorem fresh_split (c x : List UInt8) : splitL 10 (10 :: stmtsL c x) = [] :: splitL 10 (stmtsL c x) := by rw [splitL, if_pos rfl]
theorem fresh_copy (c x : List UInt8) : copyL (10 :: stmtsL c x) = stmtsL c x := by
  obtain ⟨q, hq⟩ := stmts_end c x
  have h0 : Lib.trimS (([] :: splitL 10 (stmtsL c x)).headD []) [32, 9, 13] = [] := by rw [List.headD_cons]; decide
  rw [copyL, copyLines, fresh_trim, fresh_split, if_pos h0, List.tail_cons, join_splitL, hq]
  simp [Lib.trimSuffix, Lib.hasSuffix]

theorem fresh_stmts (n c x : List UInt8) : ((freshL n c x).drop (12 + n.length + 2 + 1)).take ((freshL n c x).length - 1 - (12 + n.length + 2 + 1)) = stmtsL c x := by
  have h := fresh_inner n c x
  have e1 : 12 + n.length + 2 + 1 = (n.length + 14) + 1 := by omega
  have e2 : (freshL n c x).length - 1 - (12 + n.length + 2 + 1) = (freshL n c x).length - 1 - (n.length + 14) - 1 := by omega
  have hl : 1 ≤ (freshL n c x).length - 1 - (n.length + 14) := by simp [freshL, headL]; omega
  rw [e2, e1, ← List.drop_drop]
  generalize (freshL n c x).drop (n.length + 14) = L at h ⊢
  generalize (freshL n c x).length - 1 - (n.length + 14) = k at h hl ⊢
  cases L with
  | nil => simp at h
  | cons a L =>
    obtain ⟨k, rfl⟩ : ∃ j, k = j + 1 := ⟨k - 1, by omega⟩
    rw [List.take_succ_cons] at h
    simpa using (List.cons.inj h).2

end Go.Proofs.Qxb6603042aDoor.Pl
