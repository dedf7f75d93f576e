import Derived.Test.Qxb6603906aDoorPlain
namespace Go.Proofs.Qxb6603906aDoor.Pl
open Go

theorem dig_iff (c : UInt8) : dig c = true ↔ 48 ≤ c.toNat ∧ c.toNat ≤ 57 := by
  unfold dig digB
  rw [Bool.and_eq_true, decide_eq_true_iff, decide_eq_true_iff]
  omega
theorem tw_cons_pos {c : UInt8} {t : List UInt8} (h : dig c = true) : (c :: t).takeWhile dig = c :: t.takeWhile dig ∧ (c :: t).dropWhile dig = t.dropWhile dig := by
  rw [List.takeWhile_cons, List.dropWhile_cons, if_pos h, if_pos h]; exact ⟨rfl, rfl⟩
theorem tw_cons_neg {c : UInt8} {t : List UInt8} (h : dig c = false) : (c :: t).takeWhile dig = [] ∧ (c :: t).dropWhile dig = c :: t := by
  rw [List.takeWhile_cons, List.dropWhile_cons, h]; exact ⟨rfl, rfl⟩

/-! ### Numbers -/
theorem valF_ge : ∀ (l : List UInt8) (e : Nat), e ≤ valF e l
  | [], e => Nat.le_refl _
  | c :: t, e => by
    have h := valF_ge t (up e c)
    have h2 : e ≤ up e c := by unfold up; omega
    rw [valF_cons]; omega
theorem valF_lower : ∀ (l : List UInt8) (e : Nat), e * 10 ^ l.length ≤ valF e l
  | [], e => by rw [valF_nil]; simp
  | c :: t, e => by
    have h := valF_lower t (up e c)
    rw [valF_cons, List.length_cons, Nat.pow_succ]
    refine Nat.le_trans ?_ h
    rw [Nat.mul_comm (10 ^ t.length) 10, ← Nat.mul_assoc]
    exact Nat.mul_le_mul_right _ (by unfold up; omega)
theorem valF_upper : ∀ (l : List UInt8) (e : Nat), (∀ x ∈ l, dig x = true) → valF e l + 1 ≤ (e + 1) * 10 ^ l.length
  | [], e, _ => by rw [valF_nil]; simp
  | c :: t, e, hd => by
    have h := valF_upper t (up e c) (fun x hx => hd x (List.mem_cons_of_mem _ hx))
    have hc := (dig_iff c).1 (hd c (List.mem_cons_self ..))
    rw [valF_cons, List.length_cons, Nat.pow_succ]
    refine Nat.le_trans h ?_
    rw [Nat.mul_comm (10 ^ t.length) 10, ← Nat.mul_assoc]
    exact Nat.mul_le_mul_right _ (by unfold up; omega)
theorem valF_trim : ∀ l : List UInt8, valF 0 (Lib.trimLeftB l 48) = valF 0 l
  | [] => rfl
  | c :: t => by
    have ih := valF_trim t
    unfold Lib.trimLeftB at ih ⊢
    rw [List.dropWhile_cons]
    by_cases h : c = 48
    · subst h
      rw [if_pos (by decide), ih, valF_cons]; rfl
    · rw [if_neg (by simpa using h)]
theorem trim_head (l : List UInt8) (c : UInt8) (t : List UInt8) (h : Lib.trimLeftB l 48 = c :: t) : c ≠ 48 := by
  induction l with
  | nil => simp [Lib.trimLeftB] at h
  | cons a l ih =>
    unfold Lib.trimLeftB at h ih
    rw [List.dropWhile_cons] at h
    by_cases ha : a = 48
    · subst ha
      rw [if_pos (by decide)] at h
      exact ih h
    · rw [if_neg (by simpa using ha)] at h
      obtain ⟨rfl, _⟩ := List.cons.inj h
      exact ha
theorem trim_mem (l : List UInt8) (x : UInt8) (h : x ∈ Lib.trimLeftB l 48) : x ∈ l := (List.dropWhile_sublist _).subset h
/-- 18 digits or more behind the zeros: ten to the seventeenth or more. -/
theorem big_iff (l : List UInt8) (hd : ∀ x ∈ l, dig x = true) : 18 ≤ (Lib.trimLeftB l 48).length ↔ 100000000000000000 ≤ valF 0 l := by
  rw [← valF_trim]
  have hz : ∀ x ∈ Lib.trimLeftB l 48, dig x = true := fun x hx => hd x (trim_mem l x hx)
  have hh := trim_head l
  generalize Lib.trimLeftB l 48 = z at hz hh ⊢
  constructor
  · intro h
    cases z with
    | nil => simp at h
    | cons c t =>
      have hc := (dig_iff c).1 (hz c (List.mem_cons_self ..))
      have hn : c.toNat ≠ 48 := fun e => hh c t rfl (UInt8.toNat_inj.1 e)
      have h1 := valF_lower t (up 0 c)
      rw [List.length_cons] at h
      have h2 : (10 : Nat) ^ 17 ≤ 10 ^ t.length := Nat.pow_le_pow_right (by decide) (by omega)
      have h3 : 1 * 10 ^ t.length ≤ (up 0 c) * 10 ^ t.length := Nat.mul_le_mul_right _ (by unfold up; omega)
      rw [valF_cons]
      omega
  · intro h
    have h1 := valF_upper z 0 hz
    by_cases hl : 18 ≤ z.length
    · exact hl
    · have h2 : (10 : Nat) ^ z.length ≤ 10 ^ 17 := Nat.pow_le_pow_right (by decide) (by omega)
      omega

/-! ### The model's states, from the last one up -/
/-- What the model answers once the exponent's digits are read. -/
def endE (neg : Bool) (sig : List UInt8) (wn : Nat) (en : Bool) (v : Nat) (r : List UInt8) : Ans :=
  if r ≠ [] ∨ 100000000000000000 ≤ v then no else finG neg sig wn (if en then -(v : Int) else (v : Int))
theorem n8 (c : UInt8) : nxt 8 c = if dig c then 8 else 9 := rfl
theorem n7 (c : UInt8) : nxt 7 c = if dig c then 8 else 9 := rfl
theorem mA8_big (neg : Bool) (sig : List UInt8) (wn : Nat) (en : Bool) : ∀ (l : List UInt8) (e : Nat), mA 8 neg sig wn en e true l = no
  | [], e => rfl
  | c :: t, e => by
    rw [mA, n8]
    cases h : dig c
    · rfl
    · simp only [if_true, Bool.true_or]
      simpa using mA8_big neg sig wn en t e
theorem mA8 (neg : Bool) (sig : List UInt8) (wn : Nat) (en : Bool) : ∀ (l : List UInt8) (e : Nat), e < 100000000000000000 → mA 8 neg sig wn en e false l = endE neg sig wn en (valF e (l.takeWhile dig)) (l.dropWhile dig)
  | [], e, he => by
    rw [mA, finM, endE]
    simp [valF_nil, Nat.not_le.2 he]
  | c :: t, e, he => by
    rw [mA, n8]
    cases h : dig c
    · rw [(tw_cons_neg h).1, (tw_cons_neg h).2, endE]
      simp
    · rw [(tw_cons_pos h).1, (tw_cons_pos h).2, valF_cons]
      by_cases hb : 100000000000000000 ≤ up e c
      · have hv := valF_ge (t.takeWhile dig) (up e c)
        have := mA8_big neg sig wn en t (up e c)
        have hE : endE neg sig wn en (valF (up e c) (t.takeWhile dig)) (t.dropWhile dig) = no := if_pos (.inr (by omega))
        rw [hE]
        simpa [hb] using this
      · have := mA8 neg sig wn en t (up e c) (by omega)
        simpa [hb] using this
theorem mA8_first (st : Nat) (hst : st = 6 ∨ st = 7) (neg : Bool) (sig : List UInt8) (wn : Nat) (en : Bool) (c : UInt8) (t : List UInt8) (h : dig c = true) (hn : nxt st c = 8) (h45 : c ≠ 45) :
    mA st neg sig wn en 0 false (c :: t) = endE neg sig wn en (valF 0 ((c :: t).takeWhile dig)) ((c :: t).dropWhile dig) := by
  have hc := (dig_iff c).1 h
  rw [mA, hn, (tw_cons_pos h).1, (tw_cons_pos h).2, valF_cons, ← mA8 neg sig wn en t (up 0 c) (by unfold up; omega)]
  have hb : ¬ 100000000000000000 ≤ up 0 c := by unfold up; omega
  have h0 : (st == 0) = false := by rcases hst with rfl | rfl <;> rfl
  have hc45 : (c == 45) = false := by simpa using h45
  simp [hc45, hb, h0]
theorem mA7 (neg : Bool) (sig : List UInt8) (wn : Nat) (en : Bool) (l : List UInt8) : mA 7 neg sig wn en 0 false l = if l.takeWhile dig = [] then no else endE neg sig wn en (valF 0 (l.takeWhile dig)) (l.dropWhile dig) := by
  cases l with
  | nil => rfl
  | cons c t =>
    cases h : dig c
    · rw [(tw_cons_neg h).1, if_pos rfl, mA, n7, h]; rfl
    · rw [mA8_first 7 (.inr rfl) neg sig wn en c t h (by rw [n7, h]; rfl) (fun e => by rw [e] at h; revert h; decide), if_neg]
      rw [(tw_cons_pos h).1]; simp
/-- Behind the exponent's mark. -/
theorem mA6 (neg : Bool) (sig : List UInt8) (wn : Nat) (l : List UInt8) : mA 6 neg sig wn false 0 false l = Option.elim (expW (negL l) ((signR l).takeWhile dig) ((signR l).dropWhile dig)) no (finG neg sig wn) := by
  have key : ∀ en r, (if List.takeWhile dig r = [] then no else endE neg sig wn en (valF 0 (r.takeWhile dig)) (r.dropWhile dig)) = Option.elim (expW en (r.takeWhile dig) (r.dropWhile dig)) no (finG neg sig wn) := by
    intro en r
    have hb := big_iff (r.takeWhile dig) (all_takeWhile dig r)
    unfold expW endE
    rw [valF_trim]
    generalize r.takeWhile dig = d at hb ⊢
    generalize r.dropWhile dig = q
    by_cases h1 : d = []
    · rw [if_pos h1, if_pos (.inl h1)]; rfl
    · rw [if_neg h1]
      by_cases h2 : q ≠ [] ∨ 100000000000000000 ≤ valF 0 d
      · rw [if_pos h2, if_pos (by rcases h2 with h | h; exact .inr (.inr h); exact .inr (.inl (hb.2 h)))]; rfl
      · have h3 : ¬ (d = [] ∨ 18 ≤ (Lib.trimLeftB d 48).length ∨ q ≠ []) := by
          rintro (h | h | h)
          · exact h1 h
          · exact h2 (.inr (hb.1 h))
          · exact h2 (.inl h)
        rw [if_neg h2, if_neg h3]; rfl
  cases l with
  | nil => rfl
  | cons c t =>
    by_cases h43 : c = 43
    · subst h43
      rw [show signR (43 :: t) = t from rfl, show negL (43 :: t) = false from rfl, ← key, ← mA7, mA, show nxt 6 43 = 7 from rfl]
      simp
    · by_cases h45 : c = 45
      · subst h45
        rw [show signR (45 :: t) = t from rfl, show negL (45 :: t) = true from rfl, ← key, ← mA7, mA, show nxt 6 45 = 7 from rfl]
        simp
      · have hs : signR (c :: t) = c :: t := by rw [signR, if_neg (by rintro (h | h); exact h45 h; exact h43 h)]
        have hg : negL (c :: t) = false := by rw [negL]; simpa using h45
        rw [hs, hg, ← key]
        have hn : nxt 6 c = if dig c then 8 else 9 := by show (if c = 43 then 7 else if c = 45 then 7 else if dig c then 8 else 9) = _; rw [if_neg h43, if_neg h45]
        cases h : dig c
        · rw [(tw_cons_neg h).1, if_pos rfl, mA, hn, h]; rfl
        · rw [mA8_first 6 (.inl rfl) neg sig wn false c t h (by rw [hn, h]; rfl) h45, if_neg]
          rw [(tw_cons_pos h).1]; simp
/-- What the model answers behind the significand. -/
theorem mA_exp (st : Nat) (hst : st = 2 ∨ st = 3 ∨ st = 5) (neg : Bool) (sig : List UInt8) (wn : Nat) (r : List UInt8) (hr : ∀ c t, r = c :: t → nxt st c = if c = 101 ∨ c = 69 then 6 else 9) :
    mA st neg sig wn false 0 false r = Option.elim (expL r) no (finG neg sig wn) := by
  cases r with
  | nil =>
    rw [mA, finM, if_pos (by rcases hst with h | h | h <;> simp [h])]
    rfl
  | cons c t =>
    have hn := hr c t rfl
    rw [mA, hn, expL]
    by_cases h : c = 101 ∨ c = 69
    · rw [if_pos h, if_pos h, ← mA6]
      have h0 : (st == 0) = false := by rcases hst with rfl | rfl | rfl <;> rfl
      have h6 : (st == 6) = false := by rcases hst with rfl | rfl | rfl <;> rfl
      simp [h0, h6]
    · rw [if_neg h, if_neg h]; rfl
theorem dig_no (c : UInt8) (h : dig c = true) : c ≠ 46 ∧ c ≠ 101 ∧ c ≠ 69 ∧ c ≠ 45 ∧ c ≠ 43 := by
  refine ⟨?_, ?_, ?_, ?_, ?_⟩ <;> (intro e; rw [e] at h; revert h; decide)
theorem dw_head (p : UInt8 → Bool) : ∀ (l : List UInt8) (c : UInt8) (t : List UInt8), l.dropWhile p = c :: t → p c = false
  | [], _, _, h => by simp at h
  | a :: l, c, t, h => by
    rw [List.dropWhile_cons] at h
    split at h
    · exact dw_head p l c t h
    · rename_i ha
      obtain ⟨rfl, _⟩ := List.cons.inj h
      simpa using ha
/-- In the fraction's digits. -/
theorem mA5 (neg : Bool) (wn : Nat) : ∀ (l : List UInt8) (sig : List UInt8), mA 5 neg sig wn false 0 false l = Option.elim (expL (l.dropWhile dig)) no (finG neg (sig ++ l.takeWhile dig) wn)
  | [], sig => by rw [mA_exp 5 (.inr (.inr rfl)) neg sig wn [] (fun _ _ h => by cases h)]; simp
  | c :: t, sig => by
    cases h : dig c
    · rw [(tw_cons_neg h).1, (tw_cons_neg h).2, List.append_nil]
      refine mA_exp 5 (.inr (.inr rfl)) neg sig wn (c :: t) (fun c' t' e => ?_)
      obtain ⟨rfl, rfl⟩ := List.cons.inj e
      show (if dig c then 5 else _) = _
      rw [h]; rfl
    · rw [(tw_cons_pos h).1, (tw_cons_pos h).2, mA, show nxt 5 c = 5 by show (if dig c then 5 else _) = _; rw [h]; rfl]
      have := mA5 neg wn t (sig ++ [c])
      simpa using this
/-- Behind the point. -/
theorem mA4 (neg : Bool) (sig : List UInt8) (wn : Nat) (l : List UInt8) : mA 4 neg sig wn false 0 false l = if l.takeWhile dig = [] then no else Option.elim (expL (l.dropWhile dig)) no (finG neg (sig ++ l.takeWhile dig) wn) := by
  cases l with
  | nil => rfl
  | cons c t =>
    cases h : dig c
    · rw [(tw_cons_neg h).1, if_pos rfl, mA, show nxt 4 c = 9 by show (if dig c then 5 else 9) = _; rw [h]; rfl]; rfl
    · rw [(tw_cons_pos h).1, (tw_cons_pos h).2, if_neg (by simp), mA, show nxt 4 c = 5 by show (if dig c then 5 else 9) = _; rw [h]; rfl]
      have := mA5 neg wn t (sig ++ [c])
      simpa using this
/-- Behind the whole digits. -/
theorem mA_whole (st : Nat) (hst : st = 2 ∨ st = 3) (neg : Bool) (wh : List UInt8) (r : List UInt8) (hr : ∀ c t, r = c :: t → nxt st c = if c = 46 then 4 else if c = 101 ∨ c = 69 then 6 else 9) :
    mA st neg wh wh.length false 0 false r = parse2 neg wh r := by
  have he : ∀ q : List UInt8, (∀ c t, q = c :: t → nxt st c = if c = 101 ∨ c = 69 then 6 else 9) → mA st neg wh wh.length false 0 false q = parse3 neg wh [] q := by
    intro q hq
    rw [mA_exp st (by rcases hst with h | h; exact .inl h; exact .inr (.inl h)) neg wh wh.length q hq, parse3, List.append_nil]
  cases r with
  | nil => exact he [] (fun _ _ h => by cases h)
  | cons c t =>
    have hn := hr c t rfl
    rw [parse2]
    by_cases h : c = 46
    · rw [if_pos h] at hn ⊢
      have h0 : (st == 0) = false := by rcases hst with rfl | rfl <;> rfl
      have h6 : (st == 6) = false := by rcases hst with rfl | rfl <;> rfl
      have := mA4 neg wh wh.length t
      rw [mA, hn]
      unfold parse3
      simpa [h0, h6] using this
    · rw [if_neg h] at hn ⊢
      refine he _ (fun c' t' e => ?_)
      obtain ⟨rfl, rfl⟩ := List.cons.inj e
      exact hn
/-- In the whole digits. -/
theorem mA3 (neg : Bool) : ∀ (l : List UInt8) (wh : List UInt8), mA 3 neg wh wh.length false 0 false l = parse2 neg (wh ++ l.takeWhile dig) (l.dropWhile dig)
  | [], wh => by rw [mA_whole 3 (.inr rfl) neg wh [] (fun _ _ h => by cases h)]; simp
  | c :: t, wh => by
    cases h : dig c
    · rw [(tw_cons_neg h).1, (tw_cons_neg h).2, List.append_nil]
      refine mA_whole 3 (.inr rfl) neg wh (c :: t) (fun c' t' e => ?_)
      obtain ⟨rfl, rfl⟩ := List.cons.inj e
      show (if dig c then 3 else _) = _
      rw [h]; rfl
    · rw [(tw_cons_pos h).1, (tw_cons_pos h).2, mA, show nxt 3 c = 3 by show (if dig c then 3 else _) = _; rw [h]; rfl]
      have := mA3 neg t (wh ++ [c])
      rw [List.length_append] at this
      simpa using this
/-- Behind the sign. -/
theorem mA1 (st : Nat) (hst : st = 0 ∨ st = 1) (neg : Bool) (l : List UInt8) (hl : ∀ c t, l = c :: t → nxt st c = (if c = 48 then 2 else if dig c then 3 else 9) ∧ (st = 0 → c ≠ 45)) : mA st neg [] 0 false 0 false l = parse1 neg l := by
  cases l with
  | nil => rcases hst with rfl | rfl <;> rfl
  | cons c t =>
    obtain ⟨hn, h45⟩ := hl c t rfl
    have hneg : (neg || (st == 0 && c == 45)) = neg := by
      rcases hst with rfl | rfl
      · have := h45 rfl
        simp [this]
      · simp
    have h6 : (st == 6) = false := by rcases hst with rfl | rfl <;> rfl
    rw [mA, hn, hneg, h6]
    unfold parse1
    by_cases h48 : c = 48
    · subst h48
      have hd : dig 48 = true := by decide
      rw [(tw_cons_pos hd).1, (tw_cons_pos hd).2]
      have h2 : ∀ q, mA 2 neg [48] 1 false 0 false q = if q.takeWhile dig = [] then parse2 neg [48] q else no := by
        intro q
        cases q with
        | nil => exact mA_whole 2 (.inl rfl) neg [48] [] (fun _ _ h => by cases h)
        | cons a u =>
          cases ha : dig a
          · rw [(tw_cons_neg ha).1, if_pos rfl]
            refine mA_whole 2 (.inl rfl) neg [48] (a :: u) (fun c' t' e => ?_)
            obtain ⟨rfl, rfl⟩ := List.cons.inj e
            rfl
          · rw [(tw_cons_pos ha).1, if_neg (by simp), mA]
            have hz := dig_no a ha
            have : nxt 2 a = 9 := by
              show (if a = 46 then 4 else if a = 101 ∨ a = 69 then 6 else 9) = 9
              rw [if_neg hz.1, if_neg (by rintro (h | h); exact hz.2.1 h; exact hz.2.2.1 h)]
            rw [this]; rfl
      have h3 := h2 t
      cases hq : t.takeWhile dig with
      | nil =>
        rw [hq, if_pos rfl] at h3
        have ht : t.dropWhile dig = t := by rw [dropWhile_eq, hq]; rfl
        rw [ht]
        simpa using h3
      | cons a u =>
        rw [hq, if_neg (by simp)] at h3
        simpa using h3
    · cases h : dig c
      · rw [(tw_cons_neg h).1, if_neg h48]
        simp
      · rw [(tw_cons_pos h).1, (tw_cons_pos h).2, if_neg h48]
        have h3 := mA3 neg t [c]
        have hcond : ¬ ((c :: t.takeWhile dig) = [] ∨ (1 < (c :: t.takeWhile dig).length ∧ (c :: t.takeWhile dig)[0]? = some 48)) := by
          rintro (e | ⟨_, e⟩)
          · cases e
          · exact h48 (by simpa using e)
        rw [if_neg hcond]
        simpa using h3
/-- THE PLAIN LAW: the model answers as Parse does. -/
theorem model_parse (l : List UInt8) : mA 0 false [] 0 false 0 false l = parseL l := by
  unfold parseL
  cases l with
  | nil => rfl
  | cons c t =>
    by_cases h : c = 45
    · subst h
      rw [show negL (45 :: t) = true from rfl, show restL (45 :: t) = t from rfl, ← mA1 1 (.inr rfl) true t (fun c' t' _ => ⟨rfl, fun e => by cases e⟩)]
      rfl
    · rw [show negL (c :: t) = false by rw [negL]; simpa using h, show restL (c :: t) = c :: t by rw [restL, if_neg h]]
      refine mA1 0 (.inl rfl) false (c :: t) (fun c' t' e => ?_)
      obtain ⟨rfl, rfl⟩ := List.cons.inj e
      exact ⟨if_neg h, fun _ => h⟩
end Go.Proofs.Qxb6603906aDoor.Pl
