import Derived.Test.Qxb6603906aDoorModelA
namespace Go.Proofs.Qxb6603906aDoor
open Pl

/-- AppendText's bytes behind the sign. -/
def bodyT (D : List UInt8) (x : Int) : List UInt8 :=
  if x ≤ 0 then [48, 46] ++ List.replicate (-x).toNat 48 ++ D
  else if x < D.length then D.take x.toNat ++ [46] ++ D.drop x.toNat
  else D ++ List.replicate (x - D.length).toNat 48
def sgnT (neg : Bool) : List UInt8 := if neg then [45] else []
/-- AppendText. -/
def textL (neg : Bool) (D : List UInt8) (x : Int) : List UInt8 := if D = [] then [48] else sgnT neg ++ bodyT D x
/-- Digits as a Decimal holds them. -/
structure Canon (D : List UInt8) : Prop where
  pos : 0 < D.length
  dig : ∀ c ∈ D, dig c = true
  first : ∀ b, D[0]? = some b → b ≠ 48
  last : ∀ b, D[D.length - 1]? = some b → b ≠ 48

theorem rep_at (n m : Nat) (h : m < n) : (List.replicate n (48 : UInt8))[m]? = some 48 := by
  rw [List.getElem?_replicate, if_pos h]
theorem digs_pad (D : List UInt8) (h : Canon D) (a b : Nat) : digsOf (List.replicate a 48 ++ D ++ List.replicate b 48) = D ∧ leadOf (List.replicate a 48 ++ D ++ List.replicate b 48) = a := by
  have hp := h.pos
  have hla : (List.replicate a (48 : UInt8)).length = a := List.length_replicate
  have hlb : (List.replicate b (48 : UInt8)).length = b := List.length_replicate
  have hl : (List.replicate a 48 ++ D ++ List.replicate b 48).length = a + D.length + b := by rw [List.length_append, List.length_append, hla, hlb]
  have hmid : ∀ q, q < D.length → (List.replicate a 48 ++ D ++ List.replicate b 48)[a + q]? = D[q]? := fun q hq => by
    rw [List.getElem?_append_left (by rw [List.length_append, hla]; omega), List.getElem?_append_right (by rw [hla]; omega), hla, Nat.add_sub_cancel_left]
  have h1 := digs_cut (List.replicate a 48 ++ D ++ List.replicate b 48) a (a + (D.length - 1)) (by omega) (by rw [hl]; omega)
    (fun m hm => by rw [List.getElem?_append_left (by rw [List.length_append, hla]; omega), List.getElem?_append_left (by rw [hla]; exact hm)]; exact rep_at a m hm)
    (fun c hc => by have := hmid 0 hp; rw [Nat.add_zero] at this; rw [this] at hc; exact h.first c hc)
    (fun c hc => by rw [hmid (D.length - 1) (by omega)] at hc; exact h.last c hc)
    (fun m hm hm2 => by
      rw [hl] at hm2
      rw [List.getElem?_append_right (by rw [List.length_append, hla]; omega), List.length_append, hla]
      exact rep_at b _ (by omega))
  refine ⟨h1.1.trans ?_, h1.2⟩
  rw [List.append_assoc, List.drop_left' hla, show a + (D.length - 1) + 1 - a = D.length by omega, List.take_left']
  rfl

theorem takeWhile_all (p : UInt8 → Bool) : ∀ l : List UInt8, (∀ x ∈ l, p x = true) → l.takeWhile p = l ∧ l.dropWhile p = []
  | [], _ => ⟨rfl, rfl⟩
  | x :: l, h => by
    have ih := takeWhile_all p l (fun y hy => h y (List.mem_cons_of_mem _ hy))
    have hx := h x List.mem_cons_self
    rw [List.takeWhile_cons, List.dropWhile_cons, if_pos hx, if_pos hx, ih.1, ih.2]
    exact ⟨rfl, rfl⟩
theorem takeWhile_stop (p : UInt8 → Bool) (c : UInt8) (t : List UInt8) (hc : p c = false) : ∀ l : List UInt8, (∀ x ∈ l, p x = true) → (l ++ c :: t).takeWhile p = l ∧ (l ++ c :: t).dropWhile p = c :: t
  | [], _ => by
    rw [List.nil_append, List.takeWhile_cons, List.dropWhile_cons, hc]
    exact ⟨rfl, rfl⟩
  | x :: l, h => by
    have ih := takeWhile_stop p c t hc l (fun y hy => h y (List.mem_cons_of_mem _ hy))
    have hx := h x List.mem_cons_self
    rw [List.cons_append, List.takeWhile_cons, List.dropWhile_cons, if_pos hx, if_pos hx, ih.1, ih.2]
    exact ⟨rfl, rfl⟩
theorem dig48 : dig 48 = true := rfl
theorem dig46 : dig 46 = false := rfl
theorem finG_pad (neg : Bool) (D : List UInt8) (h : Canon D) (a b wn : Nat) (x : Int) (hx : (wn : Int) - a = x) (h1 : x ≤ 10000) (h2 : -10000 ≤ x) :
    finG neg (List.replicate a 48 ++ D ++ List.replicate b 48) wn 0 = (neg, D, x, true) := by
  obtain ⟨e1, e2⟩ := digs_pad D h a b
  have hne : D ≠ [] := fun e => by have := h.pos; rw [e] at this; exact absurd this (by decide)
  unfold finG
  rw [e1, e2, if_neg hne, Int.add_zero, hx, if_neg (by omega)]
theorem mem_rep (n : Nat) (x : UInt8) (h : x ∈ List.replicate n (48 : UInt8)) : dig x = true := by rw [List.eq_of_mem_replicate h]; rfl

theorem parse_body (neg : Bool) (D : List UInt8) (h : Canon D) (x : Int) (h1 : x ≤ 10000) (h2 : -10000 ≤ x) : parse1 neg (bodyT D x) = (neg, D, x, true) := by
  have hp := h.pos
  have hne : D ≠ [] := fun e => by rw [e] at hp; exact absurd hp (by decide)
  unfold bodyT
  by_cases hx0 : x ≤ 0
  · rw [if_pos hx0]
    obtain ⟨m, hm⟩ : ∃ m : Nat, m = (-x).toNat := ⟨_, rfl⟩
    rw [← hm]
    have e0 : [48, 46] ++ List.replicate m 48 ++ D = [48] ++ 46 :: (List.replicate m 48 ++ D) := rfl
    obtain ⟨t1, t2⟩ := takeWhile_stop dig 46 (List.replicate m 48 ++ D) dig46 [48] (fun y hy => by rw [List.mem_singleton.1 hy]; rfl)
    obtain ⟨t3, t4⟩ := takeWhile_all dig (List.replicate m 48 ++ D) (fun y hy => (List.mem_append.1 hy).elim (mem_rep m y) (h.dig y))
    have hne2 : List.replicate m 48 ++ D ≠ [] := fun e => hne (List.append_eq_nil_iff.1 e).2
    rw [e0, parse1, t1, t2, if_neg (by simp), parse2, if_pos rfl, t3, t4, if_neg hne2, parse3]
    have e1 : ([48] : List UInt8) ++ (List.replicate m 48 ++ D) = List.replicate (m + 1) 48 ++ D ++ List.replicate 0 48 := by
      rw [List.replicate_succ]; simp
    show finG neg ([48] ++ (List.replicate m 48 ++ D)) 1 0 = _
    rw [e1]
    exact finG_pad neg D h (m + 1) 0 1 x (by omega) h1 h2
  · rw [if_neg hx0]
    obtain ⟨m, hm⟩ : ∃ m : Nat, m = x.toNat := ⟨_, rfl⟩
    have hxm : x = (m : Int) := by omega
    by_cases hxl : x < D.length
    · rw [if_pos hxl, ← hm]
      have e0 : D.take m ++ [46] ++ D.drop m = D.take m ++ 46 :: D.drop m := by simp
      obtain ⟨t1, t2⟩ := takeWhile_stop dig 46 (D.drop m) dig46 (D.take m) (fun y hy => h.dig y (List.mem_of_mem_take hy))
      obtain ⟨t3, t4⟩ := takeWhile_all dig (D.drop m) (fun y hy => h.dig y (List.mem_of_mem_drop hy))
      have hl1 : (D.take m).length = m := by rw [List.length_take]; omega
      have hne1 : D.take m ≠ [] := fun e => by rw [e] at hl1; simp at hl1; omega
      have hne2 : D.drop m ≠ [] := fun e => by have := congrArg List.length e; rw [List.length_drop] at this; simp at this; omega
      have h0 : ∀ b, (D.take m)[0]? = some b → b ≠ 48 := fun b hb => by
        rw [List.getElem?_take_of_lt (by omega)] at hb; exact h.first b hb
      rw [e0, parse1, t1, t2, if_neg (by rintro (e | ⟨_, e⟩); exact hne1 e; exact h0 48 e rfl), parse2, if_pos rfl, t3, t4, if_neg hne2, parse3]
      show finG neg (D.take m ++ D.drop m) (D.take m).length 0 = _
      have e1 : D.take m ++ D.drop m = List.replicate 0 48 ++ D ++ List.replicate 0 48 := by rw [List.take_append_drop]; simp
      rw [e1, hl1]
      exact finG_pad neg D h 0 0 m x (by omega) h1 h2
    · rw [if_neg hxl]
      obtain ⟨b, hb⟩ : ∃ b : Nat, b = (x - D.length).toNat := ⟨_, rfl⟩
      rw [← hb]
      obtain ⟨t3, t4⟩ := takeWhile_all dig (D ++ List.replicate b 48) (fun y hy => (List.mem_append.1 hy).elim (h.dig y) (mem_rep b y))
      have hl1 : (D ++ List.replicate b (48 : UInt8)).length = m := by rw [List.length_append, List.length_replicate]; omega
      have hne1 : D ++ List.replicate b 48 ≠ [] := fun e => hne (List.append_eq_nil_iff.1 e).1
      have h0 : ∀ c, (D ++ List.replicate b 48)[0]? = some c → c ≠ 48 := fun c hc => by
        rw [List.getElem?_append_left hp] at hc; exact h.first c hc
      rw [parse1, t3, t4, if_neg (by rintro (e | ⟨_, e⟩); exact hne1 e; exact h0 48 e rfl), parse2, parse3]
      show finG neg (D ++ List.replicate b 48 ++ []) (D ++ List.replicate b 48).length 0 = _
      have e1 : D ++ List.replicate b 48 ++ [] = List.replicate 0 48 ++ D ++ List.replicate b 48 := by simp
      rw [e1, hl1]
      exact finG_pad neg D h 0 b m x (by omega) h1 h2

theorem head_body (D : List UInt8) (h : Canon D) (x : Int) : ∃ c t, bodyT D x = c :: t ∧ dig c = true := by
  have hp := h.pos
  cases D with
  | nil => exact absurd hp (by decide)
  | cons c t =>
    unfold bodyT
    by_cases hx0 : x ≤ 0
    · rw [if_pos hx0]; exact ⟨48, _, rfl, rfl⟩
    · rw [if_neg hx0]
      by_cases hxl : x < (c :: t).length
      · rw [if_pos hxl, show x.toNat = (x.toNat - 1) + 1 by omega, List.take_succ_cons]
        exact ⟨c, _, rfl, h.dig c List.mem_cons_self⟩
      · rw [if_neg hxl]
        exact ⟨c, _, rfl, h.dig c List.mem_cons_self⟩

theorem text_law (neg : Bool) (D : List UInt8) (h : Canon D) (x : Int) (h1 : x ≤ 10000) (h2 : -10000 ≤ x) : parseL (textL neg D x) = (neg, D, x, true) := by
  have hne : D ≠ [] := fun e => by have := h.pos; rw [e] at this; exact absurd this (by decide)
  have hb := parse_body neg D h x h1 h2
  obtain ⟨c, t, e, hc⟩ := head_body D h x
  rw [textL, if_neg hne]
  rw [e] at hb ⊢
  have h45 := (dig_45 hc).1
  cases neg
  · show parse1 (negL (c :: t)) (restL (c :: t)) = _
    rw [negL, restL, if_neg h45, show (c == 45) = false from by simpa using h45]
    exact hb
  · exact hb
theorem text_zero : parseL (textL false [] 0) = (false, [], 0, true) := by
  rw [textL, if_pos rfl]
  rfl
theorem text_len (neg : Bool) (D : List UInt8) (x : Int) (h1 : x ≤ 10000) (h2 : -10000 ≤ x) : (textL neg D x).length ≤ D.length + 10003 := by
  have hs : (sgnT neg).length ≤ 1 := by cases neg <;> simp [sgnT]
  unfold textL
  split
  · simp
  · rw [List.length_append]
    unfold bodyT
    split
    · simp only [List.length_append, List.length_replicate, List.length_cons, List.length_nil]; omega
    · split
      · simp only [List.length_append, List.length_take, List.length_drop, List.length_cons, List.length_nil]; omega
      · simp only [List.length_append, List.length_replicate]; omega
end Go.Proofs.Qxb6603906aDoor
