import Derived.Test.Qxb6603097aDoorPlain
namespace Go.Proofs.Qxb6603097aDoor.Pl
open Go

theorem takeWhile_take {α : Type} (p : α → Bool) : ∀ (l : List α) (k : Nat), (∀ j b, j < k → l[j]? = some b → p b = true) → (∀ b, l[k]? = some b → p b = false) → l.takeWhile p = l.take k ∧ l.dropWhile p = l.drop k
  | [], k, _, _ => by simp
  | x :: l, 0, _, h2 => by
    have := h2 x rfl
    simp [this]
  | x :: l, k + 1, h1, h2 => by
    have hx := h1 0 x (Nat.succ_pos _) rfl
    have ih := takeWhile_take p l k (fun j b hj hb => h1 (j + 1) b (by omega) (by simpa using hb)) (fun b hb => h2 b (by simpa using hb))
    rw [List.takeWhile_cons, List.dropWhile_cons, if_pos hx, if_pos hx, List.take_succ_cons, List.drop_succ_cons, ih.1, ih.2]
    exact ⟨rfl, rfl⟩
theorem pos_take (p : UInt8 → Bool) (l : List UInt8) (ws k : Nat) (h1 : ws ≤ k) (hd : ∀ j b, ws ≤ j → j < k → l[j]? = some b → p b = true) (hs : ∀ b, l[k]? = some b → p b = false) :
    (l.drop ws).takeWhile p = (l.drop ws).take (k - ws) ∧ (l.drop ws).dropWhile p = l.drop k := by
  have h := takeWhile_take p (l.drop ws) (k - ws) (fun j b hj hb => by rw [List.getElem?_drop] at hb; exact hd (ws + j) b (by omega) (by omega) hb) (fun b hb => by rw [List.getElem?_drop, show ws + (k - ws) = k by omega] at hb; exact hs b hb)
  refine ⟨h.1, h.2.trans ?_⟩
  rw [List.drop_drop, show ws + (k - ws) = k by omega]
/-- The stretch of l from a to b. -/
def cutL (l : List UInt8) (a b : Nat) : List UInt8 := (l.drop a).take (b - a)
theorem cutL_get (l : List UInt8) (a b j : Nat) (h : j < b - a) : (cutL l a b)[j]? = l[a + j]? := by
  rw [cutL, List.getElem?_take_of_lt h, List.getElem?_drop]
theorem cutL_len (l : List UInt8) (a b : Nat) (hb : b ≤ l.length) : (cutL l a b).length = b - a := by
  rw [cutL, List.length_take, List.length_drop]; omega
theorem trimL_pos (l : List UInt8) (ws a we : Nat) (h1 : ws ≤ a) (h2 : a ≤ we) (hl : we ≤ l.length) (hz : ∀ j b, ws ≤ j → j < a → l[j]? = some b → b = 48) (hs : a < we → ∀ b, l[a]? = some b → b ≠ 48) :
    Lib.trimLeftB (cutL l ws we) 48 = cutL l a we := by
  unfold Lib.trimLeftB
  have h := (takeWhile_take (· == (48 : UInt8)) (cutL l ws we) (a - ws) (fun j b hj hb => by
    rw [cutL_get l ws we j (by omega)] at hb
    simpa using hz (ws + j) b (by omega) (by omega) hb) (fun b hb => by
    by_cases haw : a < we
    · rw [cutL_get l ws we (a - ws) (by omega), show ws + (a - ws) = a by omega] at hb
      simpa using hs haw b hb
    · rw [List.getElem?_eq_none (by rw [cutL_len l ws we hl]; omega)] at hb; cases hb)).2
  rw [h, cutL, cutL, List.drop_take, List.drop_drop, show ws + (a - ws) = a by omega, show we - ws - (a - ws) = we - a by omega]
theorem trimR_take (l : List UInt8) (c : UInt8) (k : Nat) (hk : k ≤ l.length) (h1 : ∀ (j : Nat) b, k ≤ j → l[j]? = some b → b = c) (h2 : ∀ b, 0 < k → l[k - 1]? = some b → b ≠ c) : Lib.trimRightB l c = l.take k := by
  unfold Lib.trimRightB
  have at' : ∀ j, j < l.length → l.reverse[j]? = l[l.length - 1 - j]? := fun j hj => List.getElem?_reverse hj
  have h := (takeWhile_take (· == c) l.reverse (l.length - k) (fun j b hj hb => by
    rw [at' j (by omega)] at hb
    simpa using h1 _ b (by omega) hb) (fun b hb => by
    by_cases hk0 : k = 0
    · subst hk0
      simp at hb
    · rw [at' _ (by omega), show l.length - 1 - (l.length - k) = k - 1 by omega] at hb
      simpa using h2 b (by omega) hb)).2
  rw [h, List.drop_reverse, List.reverse_reverse]
  congr 1; omega
theorem trimR_pos (l : List UInt8) (fs b fe : Nat) (h1 : fs ≤ b) (h2 : b ≤ fe) (hl : fe ≤ l.length) (hz : ∀ j c, b ≤ j → j < fe → l[j]? = some c → c = 48) (hs : fs < b → ∀ c, l[b - 1]? = some c → c ≠ 48) :
    Lib.trimRightB (cutL l fs fe) 48 = cutL l fs b := by
  rw [trimR_take (cutL l fs fe) 48 (b - fs) (by rw [cutL_len l fs fe hl]; omega) (fun j c hj hc => by
    by_cases hjf : j < fe - fs
    · rw [cutL_get l fs fe j hjf] at hc
      exact hz (fs + j) c (by omega) (by omega) hc
    · rw [List.getElem?_eq_none (by rw [cutL_len l fs fe hl]; omega)] at hc; cases hc) (fun c h0 hc => by
    rw [cutL_get l fs fe _ (by omega), show fs + (b - fs - 1) = b - 1 by omega] at hc
    exact hs (by omega) c hc)]
  rw [cutL, cutL, List.take_take]
  congr 1; omega
theorem ext_cutL (s : ByteArray) (a b : Nat) : s.extract a b = B (cutL s.data.toList a b) := B_eq (by rw [Lib.extract_data]; rfl)
theorem eq48 (c : UInt8) : ((c.toNat : Int) == 48) = true ↔ c = 48 := by
  rw [beq_iff_eq]
  constructor
  · intro h; apply UInt8.toNat_inj.1; show c.toNat = 48; omega
  · intro h; rw [h]; rfl
theorem eq46 (c : UInt8) : ((c.toNat : Int) == 46) = true ↔ c = 46 := by
  rw [beq_iff_eq]
  constructor
  · intro h; apply UInt8.toNat_inj.1; show c.toNat = 46; omega
  · intro h; rw [h]; rfl

/-- The model's answer where there is no point. -/
theorem mod_whole (neg : Bool) (l : List UInt8) (ws k : Nat) (h1 : ws < k) (hk : k = l.length) (hd : ∀ j b, ws ≤ j → j < k → l[j]? = some b → dig b = true) :
    modOf neg ((l.drop ws).takeWhile dig) ((l.drop ws).dropWhile dig) = (neg && !(decide (Lib.trimLeftB (cutL l ws k) 48 = [])), Lib.trimLeftB (cutL l ws k) 48, [], true) := by
  obtain ⟨e1, e2⟩ := pos_take dig l ws k (by omega) hd (fun b hb => by rw [List.getElem?_eq_none (by omega)] at hb; cases hb)
  have hne : (l.drop ws).take (k - ws) ≠ [] := by
    intro e
    have := congrArg List.length e
    simp at this; omega
  have hnil : l.drop k = [] := List.drop_eq_nil_of_le (by omega)
  rw [e1, e2, hnil, modOf.eq_def, if_neg hne]
  rfl
/-- .. where there is one. -/
theorem mod_frac (neg : Bool) (l : List UInt8) (ws k j2 : Nat) (h1 : ws < k) (hk : l[k]? = some 46) (hd : ∀ j b, ws ≤ j → j < k → l[j]? = some b → dig b = true)
    (h2 : k + 1 < j2) (hj : j2 = l.length) (hd2 : ∀ j b, k + 1 ≤ j → j < j2 → l[j]? = some b → dig b = true) :
    modOf neg ((l.drop ws).takeWhile dig) ((l.drop ws).dropWhile dig) = (neg && !(decide (Lib.trimLeftB (cutL l ws k) 48 = []) && decide (Lib.trimRightB (cutL l (k + 1) j2) 48 = [])), Lib.trimLeftB (cutL l ws k) 48, Lib.trimRightB (cutL l (k + 1) j2) 48, true) := by
  have hkl : k < l.length := (List.getElem?_eq_some_iff.1 hk).1
  obtain ⟨e1, e2⟩ := pos_take dig l ws k (by omega) hd (fun b hb => by rw [hk] at hb; cases hb; exact dig_46)
  obtain ⟨e3, e4⟩ := pos_take dig l (k + 1) j2 (by omega) hd2 (fun b hb => by rw [List.getElem?_eq_none (by omega)] at hb; cases hb)
  have hne : (l.drop ws).take (k - ws) ≠ [] := by
    intro e
    have := congrArg List.length e
    simp at this; omega
  have hne2 : (l.drop (k + 1)).takeWhile dig ≠ [] := by
    rw [e3]
    intro e
    have := congrArg List.length e
    simp at this; omega
  have hnil : (l.drop (k + 1)).dropWhile dig = [] := by rw [e4]; exact List.drop_eq_nil_of_le (by omega)
  rw [e1, e2, List.drop_eq_getElem_cons hkl, (List.getElem?_eq_some_iff.1 hk).2, modOf.eq_def, if_neg hne]
  show (if (46 : UInt8) = 46 ∧ _ ≠ [] ∧ _ = [] then _ else _) = _
  rw [if_pos ⟨rfl, hne2, hnil⟩, e3]
  rfl
/-- .. where there is no whole digit. -/
theorem mod_no (neg : Bool) (l : List UInt8) (ws : Nat) (hs : ∀ b, l[ws]? = some b → dig b = false) : modOf neg ((l.drop ws).takeWhile dig) ((l.drop ws).dropWhile dig) = (false, [], [], false) := by
  obtain ⟨e1, _⟩ := pos_take dig l ws ws (Nat.le_refl _) (fun j b h1 h2 => by omega) hs
  rw [e1, modOf.eq_def, if_pos (by simp)]
/-- .. where another byte follows the whole digits. -/
theorem mod_other (neg : Bool) (l : List UInt8) (ws k : Nat) (c : UInt8) (h1 : ws ≤ k) (hk : l[k]? = some c) (hc : c ≠ 46) (hcd : dig c = false) (hd : ∀ j b, ws ≤ j → j < k → l[j]? = some b → dig b = true) :
    modOf neg ((l.drop ws).takeWhile dig) ((l.drop ws).dropWhile dig) = (false, [], [], false) := by
  have hkl : k < l.length := (List.getElem?_eq_some_iff.1 hk).1
  obtain ⟨_, e2⟩ := pos_take dig l ws k h1 hd (fun b hb => by rw [hk] at hb; cases hb; exact hcd)
  rw [e2, List.drop_eq_getElem_cons hkl, (List.getElem?_eq_some_iff.1 hk).2, modOf.eq_def]
  split
  · rfl
  · exact if_neg (fun h => hc h.1)
/-- .. where the fraction's digits are none or do not reach the end. -/
theorem mod_bad (neg : Bool) (l : List UInt8) (ws k j2 : Nat) (h1 : ws ≤ k) (hk : l[k]? = some 46) (hd : ∀ j b, ws ≤ j → j < k → l[j]? = some b → dig b = true)
    (h2 : k + 1 ≤ j2) (hd2 : ∀ j b, k + 1 ≤ j → j < j2 → l[j]? = some b → dig b = true) (hs2 : ∀ b, l[j2]? = some b → dig b = false) (hbad : j2 = k + 1 ∨ j2 < l.length) :
    modOf neg ((l.drop ws).takeWhile dig) ((l.drop ws).dropWhile dig) = (false, [], [], false) := by
  have hkl : k < l.length := (List.getElem?_eq_some_iff.1 hk).1
  obtain ⟨_, e2⟩ := pos_take dig l ws k h1 hd (fun b hb => by rw [hk] at hb; cases hb; exact dig_46)
  obtain ⟨e3, e4⟩ := pos_take dig l (k + 1) j2 h2 hd2 hs2
  rw [e2, List.drop_eq_getElem_cons hkl, (List.getElem?_eq_some_iff.1 hk).2, modOf.eq_def]
  split
  · rfl
  · refine if_neg ?_
    rw [e3, e4]
    rintro ⟨_, h3, h4⟩
    rcases hbad with h | h
    · subst h; simp at h3
    · have := congrArg List.length h4
      simp at this; omega
end Go.Proofs.Qxb6603097aDoor.Pl
