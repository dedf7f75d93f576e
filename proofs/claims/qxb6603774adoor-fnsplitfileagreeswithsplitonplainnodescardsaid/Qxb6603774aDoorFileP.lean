import Derived.Test.Qxb6603774aDoorFileS
namespace Go.Proofs.Qxb6603774aDoor
open Go.RowKit Pl

def blankB (c : UInt8) : Bool := decide (c = 32 ∨ c = 9 ∨ c = 13)
/-- A node as the law's guard lets it by. -/
structure GoodN (x : List UInt8) : Prop where
  pos : 0 < x.length
  first : ∀ b, x[0]? = some b → blankB b = false ∧ b ≠ 35
  last : ∀ b, x[x.length - 1]? = some b → blankB b = false
theorem blank_set {b : UInt8} (h : blankB b = false) : ([32, 9, 13] : List UInt8).contains b = false := by
  have h' := of_decide_eq_false h
  simp only [not_or] at h'
  simp [h'.1, h'.2.1, h'.2.2]
theorem good_plain {x : List UInt8} (h : GoodN x) : PlainN x where
  trim := by
    have hr : Lib.trimRightS x [32, 9, 13] = x := by
      rw [Lib.trimRightS_take x _ x.length (Nat.le_refl _) (fun j b hj hb => by rw [List.getElem?_eq_none hj] at hb; cases hb) (fun b _ hb => blank_set (h.last b hb)), List.take_of_length_le (Nat.le_refl _)]
    rw [Lib.trimS, hr, Lib.trimLeftS_drop x _ 0 (Nat.zero_le _) (fun j b hj _ => absurd hj (Nat.not_lt_zero _)) (fun b hb => blank_set (h.first b hb).1), List.drop_zero]
  hash := fun b hb => (h.first b hb).2
theorem nil_plain : PlainN [] where
  trim := rfl
  hash := fun b hb => by cases hb

/-- The file's text. -/
def nl (c : UInt8) : UInt8 := if c = 44 then 10 else c
theorem split_map : ∀ l : List UInt8, 10 ∉ l → splitL 10 (l.map nl) = splitL 44 l
  | [], _ => rfl
  | b :: l, h => by
    have ih := split_map l (fun hm => h (List.mem_cons_of_mem _ hm))
    have hb : b ≠ 10 := fun e => h (by rw [e]; exact List.mem_cons_self)
    rw [List.map_cons, splitL, splitL, ih]
    by_cases e : b = 44
    · rw [if_pos e, if_pos (by rw [nl, if_pos e])]
    · have hn : nl b = b := by rw [nl, if_neg e]
      rw [if_neg e, hn, if_neg hb]
/-- No byte-order mark at the list's head. -/
def NoBom (l : List UInt8) : Prop := ¬ (l[0]? = some 239 ∧ l[1]? = some 187 ∧ l[2]? = some 191)
theorem nl_eq {c : UInt8} {k : UInt8} (hk : k ≠ 10) (h : nl c = k) : c = k := by
  unfold nl at h
  split at h
  · exact absurd h.symm hk
  · exact h
theorem bom_map {l : List UInt8} (h : NoBom l) : Lib.trimPrefix (l.map nl) [239, 187, 191] = l.map nl := by
  unfold Lib.trimPrefix
  split
  · rename_i hp
    exfalso
    match l, h, hp with
    | [], _, hp => exact absurd hp (by decide)
    | [a], _, hp => simp [Lib.hasPrefix, List.isPrefixOf] at hp
    | [a, b], _, hp => simp [Lib.hasPrefix, List.isPrefixOf] at hp
    | a :: b :: c :: t, h, hp =>
      simp [Lib.hasPrefix, List.isPrefixOf] at hp
      obtain ⟨h1, h2, h3⟩ := hp
      have e1 := nl_eq (c := a) (k := 239) (by decide) h1.symm
      have e2 := nl_eq (c := b) (k := 187) (by decide) h2.symm
      have e3 := nl_eq (c := c) (k := 191) (by decide) h3.symm
      exact h ⟨by rw [e1]; rfl, by rw [e2]; rfl, by rw [e3]; rfl⟩
  · rfl
theorem outs_all {ls : List (List UInt8)} (h : ∀ x ∈ ls, GoodN x) : outs ls = ls := by
  unfold outs
  apply List.filter_eq_self.2
  intro x hx
  have := (h x hx).pos
  cases x with
  | nil => exact absurd this (by decide)
  | cons a t => rfl

/-! ### The guard's loop -/
/-- At i, the segment begun at p: no line feed so far, no comma in the segment, all segments ahead of it good. -/
structure SegI (l : List UInt8) (p i : Nat) : Prop where
  ple : p ≤ i
  ile : i ≤ l.length
  noNl : ∀ j, j < i → l[j]? ≠ some 10
  noC : ∀ j, p ≤ j → j < i → l[j]? ≠ some 44
  done : ∃ D, (∀ x ∈ D, GoodN x) ∧ splitL 44 l = D ++ splitL 44 (l.drop p)
theorem seg0 (l : List UInt8) : SegI l 0 0 where
  ple := Nat.le_refl _
  ile := Nat.zero_le _
  noNl := fun j h => absurd h (Nat.not_lt_zero _)
  noC := fun j _ h => absurd h (Nat.not_lt_zero _)
  done := ⟨[], fun x hx => (by cases hx), rfl⟩
theorem seg_on {l : List UInt8} {p i : Nat} (h : SegI l p i) {c : UInt8} (hc : l[i]? = some c) (h10 : c ≠ 10) (h44 : c ≠ 44) : SegI l p (i + 1) where
  ple := Nat.le_succ_of_le h.ple
  ile := (List.getElem?_eq_some_iff.1 hc).1
  noNl := fun j hj => by
    by_cases e : j = i
    · subst e; rw [hc]; intro e; exact h10 (Option.some.inj e)
    · exact h.noNl j (by omega)
  noC := fun j hp hj => by
    by_cases e : j = i
    · subst e; rw [hc]; intro e; exact h44 (Option.some.inj e)
    · exact h.noC j hp (by omega)
  done := h.done
theorem seg_good {l : List UInt8} {p i : Nat} (hi : i ≤ l.length) (hp : p < i) {a b : UInt8} (ha : l[p]? = some a) (hb : l[i - 1]? = some b) (ba : blankB a = false) (bb : blankB b = false) (h35 : a ≠ 35) : GoodN ((l.drop p).take (i - p)) where
  pos := by rw [List.length_take, List.length_drop]; omega
  first := fun c hc => by
    rw [List.getElem?_take_of_lt (by omega), List.getElem?_drop, Nat.add_zero, ha] at hc
    cases hc; exact ⟨ba, h35⟩
  last := fun c hc => by
    have hl : ((l.drop p).take (i - p)).length = i - p := by rw [List.length_take, List.length_drop]; omega
    rw [hl, List.getElem?_take_of_lt (by omega), List.getElem?_drop, show p + (i - p - 1) = i - 1 by omega, hb] at hc
    cases hc; exact bb
theorem seg_no44 {l : List UInt8} {p i : Nat} (h : ∀ j, p ≤ j → j < i → l[j]? ≠ some 44) : (44 : UInt8) ∉ (l.drop p).take (i - p) := by
  intro hm
  obtain ⟨j, hj, e⟩ := List.mem_iff_getElem.1 hm
  have hj2 : j < i - p := by rw [List.length_take] at hj; omega
  have h2 : ((l.drop p).take (i - p))[j]? = some 44 := by rw [List.getElem?_eq_getElem hj, e]
  rw [List.getElem?_take_of_lt hj2, List.getElem?_drop] at h2
  exact h (p + j) (by omega) (by omega) h2
theorem seg_comma {l : List UInt8} {p i : Nat} (h : SegI l p i) (hc : l[i]? = some 44) (hg : GoodN ((l.drop p).take (i - p))) : SegI l (i + 1) (i + 1) where
  ple := Nat.le_refl _
  ile := (List.getElem?_eq_some_iff.1 hc).1
  noNl := fun j hj => by
    by_cases e : j = i
    · subst e; rw [hc]; intro e; exact absurd (Option.some.inj e) (by decide)
    · exact h.noNl j (by omega)
  noC := fun j hp hj => by omega
  done := by
    obtain ⟨D, hD, e⟩ := h.done
    have hile := (List.getElem?_eq_some_iff.1 hc).1
    refine ⟨D ++ [(l.drop p).take (i - p)], fun x hx => ?_, ?_⟩
    · rcases List.mem_append.1 hx with hx | hx
      · exact hD x hx
      · rw [List.mem_singleton.1 hx]; exact hg
    · have hpl := h.ple
      have e2 : l.drop p = (l.drop p).take (i - p) ++ 44 :: l.drop (i + 1) := by
        conv => lhs; rw [← List.take_append_drop (i - p) (l.drop p)]
        rw [List.drop_drop, show p + (i - p) = i by omega, List.drop_eq_getElem_cons hile, (List.getElem?_eq_some_iff.1 hc).2]
      rw [e]
      conv => lhs; rw [e2]
      rw [splitL_pre 44 _ (seg_no44 h.noC), List.append_assoc]
      rfl
theorem seg_end {l : List UInt8} {p : Nat} (h : SegI l p l.length) (hg : GoodN ((l.drop p).take (l.length - p))) : (∀ x ∈ splitL 44 l, GoodN x) ∧ 10 ∉ l := by
  constructor
  · obtain ⟨D, hD, e⟩ := h.done
    have ht : (l.drop p).take (l.length - p) = l.drop p := List.take_of_length_le (by rw [List.length_drop]; omega)
    have hn := seg_no44 h.noC
    rw [ht] at hg hn
    rw [e, splitL_none 44 _ hn]
    intro x hx
    rcases List.mem_append.1 hx with hx | hx
    · exact hD x hx
    · rw [List.mem_singleton.1 hx]; exact hg
  · intro hm
    obtain ⟨j, hj, e⟩ := List.mem_iff_getElem.1 hm
    exact h.noNl j hj (by rw [List.getElem?_eq_getElem hj, e])

/-! ### Small contracts -/
theorem eqN (c : UInt8) (n : Nat) (hn : n < 256) : ((c.toNat : Int) == (n : Int)) = true ↔ c = UInt8.ofNat n := by
  rw [beq_iff_eq]
  have hm : (UInt8.ofNat n).toNat = n := by simp [UInt8.toNat_ofNat']; omega
  constructor
  · intro h; apply UInt8.toNat_inj.1; rw [hm]; omega
  · intro h; rw [h, hm]
set_option maxHeartbeats 400000 in
theorem blank_c (c : UInt8) (w : World) : Calls Tryd.prog 11 #[.int .u8 c.toNat] w fun e w' => e = .returned (.bool (blankB c)) ∧ w' = w := by
  have HX : Hid (Unit → (blankB c = (((c.toNat : Int) == 32) || ((c.toNat : Int) == 9) || ((c.toNat : Int) == 13)))) := fun _ => by
    have e1 := eqN c 32 (by decide)
    have e2 := eqN c 9 (by decide)
    have e3 := eqN c 13 (by decide)
    rw [blankB, Bool.eq_iff_iff, decide_eq_true_iff, Bool.or_eq_true, Bool.or_eq_true]
    exact ⟨fun h => by rcases h with h | h | h; exact .inl (.inl (e1.2 h)); exact .inl (.inr (e2.2 h)); exact .inr (e3.2 h), fun h => by rcases h with (h | h) | h; exact .inl (e1.1 h); exact .inr (.inl (e2.1 h)); exact .inr (.inr (e3.1 h))⟩
  go_enter Tryd.func11, Tryd.ntmps11
  cases h1 : ((c.toNat : Int) == 32)
  all_goals
    cases h2 : ((c.toNat : Int) == 9)
    all_goals
      cases h3 : ((c.toNat : Int) == 13)
      all_goals
        go_wp2_with fail
        go_ret
        exact ⟨by rw [HX.out (), h1, h2, h3]; rfl, rfl⟩
end Go.Proofs.Qxb6603774aDoor
