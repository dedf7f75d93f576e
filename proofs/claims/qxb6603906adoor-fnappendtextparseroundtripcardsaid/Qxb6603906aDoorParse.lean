import Derived.Test.Qxb6603906aDoorWalkA
import Derived.Test.Qxb6603906aDoorLaw
import Derived.Laws.IdiomStrings
import Derived.Deep.DeepCutAuto
import Derived.Deep.Light
namespace Go.Proofs.Qxb6603906aDoor
open Go.RowKit Pl

/-- Parse's two results. -/
def ansV (d : Ans) : Value := .tuple #[.agg #[.bool d.1, .string (B d.2.1), .int .i64 d.2.2.1], .bool d.2.2.2]

/-- The world while Parse reads: its result's cell holds the sign alone. -/
structure PW (w : World) (neg : Bool) (wc : World) : Prop where
  below : Below w.heap.size w wc
  c0 : wc.cell? ⟨w.heap.size, 0, none⟩ = some (.bool neg)
  c1 : wc.cell? ⟨w.heap.size, 1, none⟩ = some (.string ⟨#[]⟩)
  c2 : wc.cell? ⟨w.heap.size, 2, none⟩ = some (.int .i64 0)
  fz : ∀ i, wc.frozen? ⟨w.heap.size, i, none⟩ = false
  sz : w.heap.size < wc.heap.size

abbrev Z24 : Obj := .cells #[.bool false, .string ⟨#[]⟩, .int .i64 0] 24
theorem dropAt (s : ByteArray) (i : Nat) (h : i < s.size) : s.data.toList.drop i = s[i] :: s.data.toList.drop (i + 1) := by
  rw [List.drop_eq_getElem_cons (by rw [← Lib.size_eq]; exact h)]; rfl
theorem dropEnd (s : ByteArray) (i : Nat) (h : ¬ i < s.size) : s.data.toList.drop i = [] := List.drop_eq_nil_of_le (by rw [← Lib.size_eq]; omega)
theorem negAt (s : ByteArray) (i : Nat) : (∀ h : i < s.size, negL (s.data.toList.drop i) = ((s[i].toNat : Int) == 45)) ∧ (¬ i < s.size → negL (s.data.toList.drop i) = false) := by
  constructor
  · intro h
    rw [dropAt s i h, negL, Bool.eq_iff_iff, eq45]
    simp
  · intro h
    rw [dropEnd s i h]; rfl
theorem restL_no {l : List UInt8} (h : negL l = false) : restL l = l := by
  cases l with
  | nil => rfl
  | cons c t =>
    have hc : c ≠ 45 := by simpa [negL] using h
    rw [restL, if_neg hc]
theorem restL_yes {l : List UInt8} (h : negL l = true) : 1 ≤ l.length ∧ restL l = l.drop 1 := by
  cases l with
  | nil => cases h
  | cons c t =>
    have hc : c = 45 := by simpa [negL] using h
    subst hc
    exact ⟨by simp, rfl⟩
theorem pw0 (w : World) : PW w false (w.alloc Z24) where
  below := by go_grown
  c0 := by go_cell
  c1 := by go_cell
  c2 := by go_cell
  fz := fun i => World.frozen?_alloc_at (hn := rfl) ..
  sz := by simp
theorem pw1 (w : World) : PW w true (w.alloc (.cells #[.bool true, .string ⟨#[]⟩, .int .i64 0] 24)) where
  below := by go_grown
  c0 := by go_cell
  c1 := by go_cell
  c2 := by go_cell
  fz := fun i => World.frozen?_alloc_at (hn := rfl) ..
  sz := by simp

theorem int_eq {a b : Int} (h : a = b) : Value.int .i64 a = Value.int .i64 b := by rw [h]
/-- Is the byte at i this one? -/
def isAt (s : ByteArray) (i : Nat) (c : UInt8) : Bool := decide (s.data.toList[i]? = some c)
theorem isAt_pos (s : ByteArray) (i : Nat) (c : UInt8) {b : Bool} (h : i < s.size) (hb : b = true ↔ s[i] = c) : isAt s i c = b := by
  rw [isAt, Bool.eq_iff_iff, hb, decide_eq_true_iff, get_byte s i h]
  simp
theorem isAt_neg (s : ByteArray) (i : Nat) (c : UInt8) (h : ¬ i < s.size) : isAt s i c = false := by
  rw [isAt, List.getElem?_eq_none (by rw [← Lib.size_eq]; omega)]; rfl
theorem isAt_lt {s : ByteArray} {i : Nat} {c : UInt8} (h : isAt s i c = true) : i < s.size := by
  by_cases hl : i < s.size
  · exact hl
  · rw [isAt_neg s i c hl] at h; cases h
theorem isAt_byte {s : ByteArray} {i : Nat} {c : UInt8} (hl : i < s.size) (h : isAt s i c = true) : s[i] = c := by
  rw [isAt, decide_eq_true_iff, get_byte s i hl] at h
  exact Option.some.inj h
theorem parse2_no (s : ByteArray) (neg : Bool) (wh : List UInt8) (i : Nat) (h : isAt s i 46 = false) : parse2 neg wh (s.data.toList.drop i) = parse3 neg wh [] (s.data.toList.drop i) := by
  by_cases hl : i < s.size
  · rw [dropAt s i hl, parse2, if_neg]
    intro e
    rw [isAt_pos s i 46 (b := true) hl (by simp [e])] at h; cases h
  · rw [dropEnd s i hl]; rfl
/-- The whole digits will not do. -/
def badW (X : ByteArray) : Bool := decide (X.data.toList = [] ∨ (1 < X.size ∧ X.data.toList[0]? = some 48))
theorem badW_iff (X : ByteArray) : badW X = true ↔ X.data.toList = [] ∨ (1 < X.size ∧ X.data.toList[0]? = some 48) := decide_eq_true_iff

/-- A mark of an exponent at i? -/
def isE (s : ByteArray) (i : Nat) : Bool := isAt s i 101 || isAt s i 69
/-- A sign at i? -/
def isS (s : ByteArray) (i : Nat) : Bool := isAt s i 45 || isAt s i 43
theorem isE_lt {s : ByteArray} {i : Nat} (h : isE s i = true) : i < s.size := by
  rw [isE, Bool.or_eq_true] at h
  rcases h with h | h <;> exact isAt_lt h
theorem isS_lt {s : ByteArray} {i : Nat} (h : isS s i = true) : i < s.size := by
  rw [isS, Bool.or_eq_true] at h
  rcases h with h | h <;> exact isAt_lt h
theorem isE_pos (s : ByteArray) (i : Nat) (h : i < s.size) : isE s i = (((s[i].toNat : Int) == 101) || ((s[i].toNat : Int) == 69)) := by
  rw [isE, isAt_pos s i 101 h (eq101 _), isAt_pos s i 69 h (eq69 _)]
theorem isS_pos (s : ByteArray) (i : Nat) (h : i < s.size) : isS s i = (((s[i].toNat : Int) == 45) || ((s[i].toNat : Int) == 43)) := by
  rw [isS, isAt_pos s i 45 h (eq45 _), isAt_pos s i 43 h (eq43 _)]
theorem isE_neg (s : ByteArray) (i : Nat) (h : ¬ i < s.size) : isE s i = false := by rw [isE, isAt_neg s i _ h, isAt_neg s i _ h]; rfl
theorem isS_neg (s : ByteArray) (i : Nat) (h : ¬ i < s.size) : isS s i = false := by rw [isS, isAt_neg s i _ h, isAt_neg s i _ h]; rfl
theorem isAt_iff (s : ByteArray) (i : Nat) (c : UInt8) (h : i < s.size) : isAt s i c = true ↔ s[i] = c := by
  rw [isAt, decide_eq_true_iff, get_byte s i h]; simp
theorem parse3_no (s : ByteArray) (neg : Bool) (wh fr : List UInt8) (i : Nat) (hi : i ≤ s.size) (h : isE s i = false) : parse3 neg wh fr (s.data.toList.drop i) = if i = s.size then finG neg (wh ++ fr) wh.length 0 else no := by
  by_cases hl : i < s.size
  · rw [dropAt s i hl, parse3, expL, if_neg, if_neg (by omega)]
    · rfl
    · intro e
      have : isE s i = true := by
        rw [isE, Bool.or_eq_true, isAt_iff s i _ hl, isAt_iff s i _ hl]; exact e
      rw [this] at h; cases h
  · rw [dropEnd s i hl, if_pos (by omega)]; rfl
theorem parse3_yes (s : ByteArray) (neg : Bool) (wh fr : List UInt8) (i : Nat) (h : isE s i = true) : parse3 neg wh fr (s.data.toList.drop i) =
    (expW (negL (s.data.toList.drop (i + 1))) ((signR (s.data.toList.drop (i + 1))).takeWhile dig) ((signR (s.data.toList.drop (i + 1))).dropWhile dig)).elim no (finG neg (wh ++ fr) wh.length) := by
  have hl := isE_lt h
  rw [isE, Bool.or_eq_true, isAt_iff s i _ hl, isAt_iff s i _ hl] at h
  rw [dropAt s i hl, parse3, expL, if_pos h]
theorem signR_no (s : ByteArray) (i : Nat) (h : isS s i = false) : signR (s.data.toList.drop i) = s.data.toList.drop i := by
  by_cases hl : i < s.size
  · rw [dropAt s i hl, signR, if_neg]
    intro e
    have : isS s i = true := by rw [isS, Bool.or_eq_true, isAt_iff s i _ hl, isAt_iff s i _ hl]; exact e
    rw [this] at h; cases h
  · rw [dropEnd s i hl]; rfl
theorem signR_yes (s : ByteArray) (i : Nat) (h : isS s i = true) : signR (s.data.toList.drop i) = s.data.toList.drop (i + 1) := by
  have hl := isS_lt h
  rw [isS, Bool.or_eq_true, isAt_iff s i _ hl, isAt_iff s i _ hl] at h
  rw [dropAt s i hl, signR, if_pos h]
theorem expW_elim (en : Bool) (wr r : List UInt8) (f : Int → Ans) : (expW en wr r).elim no f =
    if wr = [] then no else if 18 ≤ (Lib.trimLeftB wr 48).length then no else if r = [] then f (if en then -(valF 0 (Lib.trimLeftB wr 48) : Int) else (valF 0 (Lib.trimLeftB wr 48) : Int)) else no := by
  unfold expW
  by_cases h1 : wr = []
  · rw [if_pos (.inl h1), if_pos h1]; rfl
  · rw [if_neg h1]
    by_cases h2 : 18 ≤ (Lib.trimLeftB wr 48).length
    · rw [if_pos (.inr (.inl h2)), if_pos h2]; rfl
    · rw [if_neg h2]
      by_cases h3 : r = []
      · rw [if_neg (by simp [h1, h3]; omega), if_pos h3]; rfl
      · rw [if_pos (.inr (.inr h3)), if_neg h3]; rfl
/-- A row of bytes that the world holds. -/
def Rowd (a : Nat) (T : ByteArray) (w : World) : Prop := ∀ k (h : k < T.size), w.cell? ⟨a, k, none⟩ = some (.int .u8 (T[k].toNat : Int))
theorem rowd_new (w : World) (T : ByteArray) (cap e : Nat) (fr : Nat × Nat) : Rowd w.heap.size T (w.alloc (.cells (bytesRow T cap) e fr)) := by
  intro k h
  rw [World.cell?_alloc_mark]
  exact bytesRow_at T cap k h
theorem PW.drew {w wc : World} {neg : Bool} (h : PW w neg wc) : PW w neg wc.drew := ⟨h.below.drew, h.c0, h.c1, h.c2, h.fz, h.sz⟩
theorem PW.alloc {w wc : World} {neg : Bool} (h : PW w neg wc) (o : Obj) : PW w neg (wc.alloc o) where
  below := h.below.alloc h.below.size _
  c0 := cell_later (by go_grown) h.c0
  c1 := cell_later (by go_grown) h.c1
  c2 := cell_later (by go_grown) h.c2
  fz := fun i => by
    rw [World.frozen?_alloc_past _ _ _ h.sz]; exact h.fz i
  sz := by rw [World.size_alloc]; exact Nat.lt_succ_of_lt h.sz
theorem valF_take (T : ByteArray) (k : Nat) (h : k < T.size) : valF 0 (T.data.toList.take (k + 1)) = up (valF 0 (T.data.toList.take k)) T[k] := by
  rw [List.take_add_one, get_byte T k h]
  unfold valF
  rw [Option.toList_some, List.foldl_append, List.foldl_cons, List.foldl_nil]
theorem valF_small (T : ByteArray) (k : Nat) (hd : ∀ x ∈ T.data.toList, dig x = true) (hT : T.size ≤ 17) : valF 0 (T.data.toList.take k) < 100000000000000000 := by
  have h := valF_upper (T.data.toList.take k) 0 (fun x hx => hd x (List.mem_of_mem_take hx))
  have h2 : (T.data.toList.take k).length ≤ 17 := by
    have := List.length_take_le' k T.data.toList
    rw [← Lib.size_eq] at this; omega
  have h3 : 10 ^ (T.data.toList.take k).length ≤ 10 ^ 17 := Nat.pow_le_pow_right (by decide) h2
  have h4 : (0 + 1) * 10 ^ (T.data.toList.take k).length ≤ 100000000000000000 := by omega
  omega

theorem drop_nil_iff (s : ByteArray) (i : Nat) (h : i ≤ s.size) : (s.data.toList.drop i = []) = (i = s.size) := by
  apply propext
  rw [List.drop_eq_nil_iff, ← Lib.size_eq]
  omega
theorem if_drop (s : ByteArray) (i : Nat) (h : i ≤ s.size) (A C : Ans) : (if s.data.toList.drop i = [] then A else C) = if i = s.size then A else C := by
  have hi := drop_nil_iff s i h
  by_cases e : i = s.size
  · rw [if_pos e, if_pos (hi ▸ e)]
  · rw [if_neg e, if_neg (hi ▸ e)]
theorem has_set {u : World} {q : Addr} (p : Addr) (y : Value) (h : ∃ x, u.cell? q = some x) : ∃ x, (u.setCell p y).cell? q = some x := by
  obtain ⟨x, hx⟩ := h
  by_cases e : p = q
  · subst e; exact ⟨_, World.cell?_setCell_same (h := hx) ..⟩
  · exact ⟨x, by rw [World.cell?_setCell_other (h := e) ..]; exact hx⟩
theorem cells3 {u : World} {n : Nat} (h0 : ∃ x, u.cell? ⟨n, 0, none⟩ = some x) (h1 : ∃ x, u.cell? ⟨n, 1, none⟩ = some x) (h2 : ∃ x, u.cell? ⟨n, 2, none⟩ = some x) (a b c : Value) :
    (((u.setCell ⟨n, 0, none⟩ a).setCell ⟨n, 1, none⟩ b).setCell ⟨n, 2, none⟩ c).cell? ⟨n, 0, none⟩ = some a ∧
    (((u.setCell ⟨n, 0, none⟩ a).setCell ⟨n, 1, none⟩ b).setCell ⟨n, 2, none⟩ c).cell? ⟨n, 1, none⟩ = some b ∧
    (((u.setCell ⟨n, 0, none⟩ a).setCell ⟨n, 1, none⟩ b).setCell ⟨n, 2, none⟩ c).cell? ⟨n, 2, none⟩ = some c := by
  refine ⟨?_, ?_, ?_⟩
  · obtain ⟨x, hx⟩ := h0
    rw [World.cell?_setCell_other (h := by simp) .., World.cell?_setCell_other (h := by simp) ..]; exact World.cell?_setCell_same (h := hx) ..
  · obtain ⟨x, hx⟩ := has_set ⟨n, 0, none⟩ a h1
    rw [World.cell?_setCell_other (h := by simp) ..]; exact World.cell?_setCell_same (h := hx) ..
  · obtain ⟨x, hx⟩ := has_set ⟨n, 1, none⟩ b (has_set ⟨n, 0, none⟩ a h2)
    exact World.cell?_setCell_same (h := hx) ..
theorem ByteArray_app (a b : ByteArray) : (a ++ b).data.toList = a.data.toList ++ b.data.toList := by rw [ByteArray.data_append, Array.toList_append]
theorem lead_le (l : List UInt8) : leadOf l ≤ l.length := by unfold leadOf; omega
theorem lead_eq (l : List UInt8) : (Lib.trimLeftB l 48).length + leadOf l = l.length := by
  have := trimL_le l
  unfold leadOf; omega

set_option maxRecDepth 100000 in
set_option maxHeartbeats 40000000 in
theorem parse_c (s : ByteArray) (w : World) (hs : s.size ≤ 16777216) :
    Calls Tryd.prog 6 #[.string s] w fun e w' => e = .returned (ansV (parseL s.data.toList)) ∧ Below w.heap.size w w' := by
  obtain ⟨d, hd⟩ : ∃ d, d = parseL s.data.toList := ⟨_, rfl⟩
  rw [← hd]
  have HD : Hid (Unit → d = parseL s.data.toList) := fun _ => hd
  clear hd
  go_enter Tryd.func6, Tryd.ntmps6
  go_upto_region 2 with fail
  go_cut [23] (fun s23 wx => s23 = .bool (negL s.data.toList) ∧ wx = w.alloc Z24)
  case first =>
    as_aux_lemma =>
      have hN := negAt s 0
      rw [List.drop_zero] at hN
      have HN : Hid (Unit → _) := fun _ => hN
      clear hN
      by_cases h0 : 0 < s.size
      · cases h45 : ((s[0].toNat : Int) == 45)
        all_goals
          go_wp2_with fail
          go_meet
          exact ⟨by rw [(HN.out ()).1 h0, h45], rfl⟩
      · go_wp2_with fail
        go_meet
        exact ⟨by rw [(HN.out ()).2 h0], rfl⟩
  case rest =>
  obtain ⟨rfl, rfl⟩ := hcut
  obtain ⟨neg, hneg⟩ : ∃ neg, neg = negL s.data.toList := ⟨_, rfl⟩
  rw [← hneg]
  have HNEG : Hid (Unit → neg = negL s.data.toList) := fun _ => hneg
  clear hneg
  go_upto_if 23 with fail
  go_cut [4] (fun s4 wx => ∃ i : Nat, s4 = .int .i64 i ∧ i ≤ s.size ∧ PW w neg wx ∧ Hid (Unit → d = parse1 neg (s.data.toList.drop i)))
  case first =>
    as_aux_lemma =>
      cases neg
      · go_wp2_with fail
        go_meet
        refine ⟨0, rfl, Nat.zero_le _, pw0 w, fun _ => ?_⟩
        rw [HD.out (), parseL, ← HNEG.out (), List.drop_zero, restL_no (HNEG.out ()).symm]
      · go_wp2_with fail
        go_meet
        have h := restL_yes (HNEG.out ()).symm
        refine ⟨1, rfl, ?_, pw1 w, fun _ => ?_⟩
        · rw [Lib.size_eq]; exact h.1
        · rw [HD.out (), parseL, ← HNEG.out (), h.2]
  case rest =>
  obtain ⟨i, rfl, hi, ⟨hbl, g0, g1, g2, gf, gz⟩, HD1⟩ := hcut
  clear HD HNEG
  -- the whole digits
  have hdg := fun W => digitsAt_c s i W hs hi
  have hwl : i + ((s.data.toList.drop i).takeWhile dig).length ≤ s.size := by
    have h := (List.takeWhile_sublist (l := s.data.toList.drop i) dig).length_le
    rw [List.length_drop, ← Lib.size_eq] at h
    omega
  have hrest := dropWhile_eq dig (s.data.toList.drop i)
  rw [List.drop_drop] at hrest
  have hp1 : d = if (s.data.toList.drop i).takeWhile dig = [] ∨ (1 < ((s.data.toList.drop i).takeWhile dig).length ∧ ((s.data.toList.drop i).takeWhile dig)[0]? = some 48) then no else parse2 neg ((s.data.toList.drop i).takeWhile dig) (s.data.toList.drop (i + ((s.data.toList.drop i).takeWhile dig).length)) := by
    rw [HD1.out (), parse1, hrest]
  clear HD1 hrest
  generalize (s.data.toList.drop i).takeWhile dig = wh at hdg hwl hp1
  obtain ⟨X, hX⟩ : ∃ X, X = B wh := ⟨_, rfl⟩
  rw [← hX] at hdg
  have hXl : wh = X.data.toList := by rw [hX]; rfl
  clear hX
  subst hXl
  rw [← Lib.size_eq] at hwl hp1
  have HP1 : Hid (Unit → _) := fun _ => hp1
  clear hp1
  go_upto_region 6 with (go_at_call 13; refine (hdg _).mono ?_; clear hdg; rintro e w1 ⟨rfl, rfl⟩)
  go_cut [41] (fun s41 wx => s41 = .bool (badW X) ∧ wx = w1)
  case first =>
    as_aux_lemma =>
      have HB : Hid (Unit → _) := fun _ => badW_iff X
      by_cases h0 : 0 < X.size
      · have hne := ne_of_pos X h0
        have HG0 : Hid (Unit → _) := fun _ => get_byte X 0 h0
        by_cases h1 : 1 < X.size
        · have h1i : decide ((1 : Int) < (X.size : Int)) = true := by simp; omega
          cases h48 : ((X[0].toNat : Int) == 48)
          · go_wp2_with fail
            go_meet
            refine ⟨?_, rfl⟩
            have : badW X = false := by
              rw [Bool.eq_false_iff]; intro hb
              rcases (HB.out ()).1 hb with h | ⟨_, h⟩
              · rw [Lib.size_eq, h] at h0; simp at h0
              · rw [HG0.out ()] at h
                rw [(eq48 _).2 (Option.some.inj h)] at h48; cases h48
            rw [this]
          · go_wp2_with fail
            go_meet
            refine ⟨?_, rfl⟩
            have : badW X = true := (HB.out ()).2 (.inr ⟨h1, by rw [HG0.out (), (eq48 _).1 h48]⟩)
            rw [this]
        · have h1i : decide ((1 : Int) < (X.size : Int)) = false := by simp; omega
          go_wp2_with fail
          go_meet
          refine ⟨?_, rfl⟩
          have : badW X = false := by
            rw [Bool.eq_false_iff]; intro hb
            rcases (HB.out ()).1 hb with h | ⟨h, _⟩
            · rw [Lib.size_eq, h] at h0; simp at h0
            · exact h1 h
          rw [this]
      · have hnil : X.data.toList = [] := List.eq_nil_of_length_eq_zero (by rw [← Lib.size_eq]; omega)
        have he : X.toList.isEmpty = true := by rw [Lib.toList_data, hnil]; rfl
        have hb : badW X = true := (HB.out ()).2 (.inl hnil)
        have HBB : Hid (Unit → _) := fun _ => hb
        clear hnil hb
        go_wp2_with fail
        go_meet
        exact ⟨by rw [HBB.out ()], rfl⟩
  case rest =>
  obtain ⟨rfl, rfl⟩ := hcut
  cases hbad : badW X
  rotate_left
  · have HE : Hid (Unit → d = no) := fun _ => by rw [HP1.out ()]; exact if_pos ((badW_iff X).1 hbad)
    clear HP1
    as_aux_lemma =>
      go_wp2_with fail
      refine bodyPost_ret (v := ansV no) ?_ rfl ⟨by rw [HE.out ()], ?_⟩
      · simp [results, Tryd.results6, go_sem, ansV, no, g0, g1, g2]; rfl
      · go_grown
  have HP2 : Hid (Unit → d = parse2 neg X.data.toList (s.data.toList.drop (i + X.size))) := fun _ => by
    rw [HP1.out ()]; exact if_neg (fun h => by rw [(badW_iff X).2 h] at hbad; cases hbad)
  clear HP1 hbad
  -- the fraction
  obtain ⟨i1, hi1⟩ : ∃ i1, i1 = i + X.size := ⟨_, rfl⟩
  have hi1i : (i : Int) + (X.size : Int) = (i1 : Int) := by omega
  have hi1l : i1 ≤ s.size := by omega
  rw [← hi1] at HP2
  have hXs : X.size ≤ s.size := by omega
  clear hi1 hwl hi
  go_upto_region 10 with fail
  go_cut [56] (fun s56 wx => s56 = .bool (isAt s i1 46) ∧ wx = wc)
  case first =>
    as_aux_lemma =>
      clear hi1i
      by_cases h0 : i1 < s.size
      · have h0i : decide ((i1 : Int) < (s.size : Int)) = true := by simp; omega
        have HA : Hid (Unit → isAt s i1 46 = ((s[i1].toNat : Int) == 46)) := fun _ => isAt_pos s i1 46 h0 (eq46 _)
        cases h46 : ((s[i1].toNat : Int) == 46)
        all_goals
          go_wp2_with fail
          go_meet
          exact ⟨by rw [HA.out (), h46], rfl⟩
      · have h0i : decide ((i1 : Int) < (s.size : Int)) = false := by simp; omega
        have HA : Hid (Unit → isAt s i1 46 = false) := fun _ => isAt_neg s i1 46 h0
        go_wp2_with fail
        go_meet
        exact ⟨by rw [HA.out ()], rfl⟩
  case rest =>
  obtain ⟨rfl, rfl⟩ := hcut
  clear hi1i
  obtain ⟨pt, hpt⟩ : ∃ pt, pt = isAt s i1 46 := ⟨_, rfl⟩
  rw [← hpt]
  have HPT : Hid (Unit → pt = isAt s i1 46) := fun _ => hpt
  clear hpt
  go_upto_if 56 with fail
  go_cut [4, 6] (fun s4 s6 wx => ∃ (i2 : Nat) (F : ByteArray), s4 = .int .i64 i2 ∧ s6 = .string F ∧ i2 ≤ s.size ∧ F.size ≤ s.size ∧ wx = wc ∧ Hid (Unit → d = parse3 neg X.data.toList F.data.toList (s.data.toList.drop i2)))
  case first =>
    as_aux_lemma =>
      cases pt
      · go_wp2_with fail
        go_meet
        exact ⟨i1, ⟨#[]⟩, rfl, rfl, hi1l, Nat.zero_le _, rfl, fun _ => by rw [HP2.out ()]; exact parse2_no s neg X.data.toList i1 (HPT.out ()).symm⟩
      · have hlt : i1 < s.size := isAt_lt (HPT.out ()).symm
        have hp2 := HP2.out ()
        rw [dropAt s i1 hlt, show s[i1] = 46 from isAt_byte hlt (HPT.out ()).symm] at hp2
        have hdg := fun W => digitsAt_n s (i1 + 1) ((i1 : Int) + 1) (by omega) W hs hlt
        have hfl : i1 + 1 + ((s.data.toList.drop (i1 + 1)).takeWhile dig).length ≤ s.size := by
          have h := (List.takeWhile_sublist (l := s.data.toList.drop (i1 + 1)) dig).length_le
          rw [List.length_drop, ← Lib.size_eq] at h
          omega
        have hrest := dropWhile_eq dig (s.data.toList.drop (i1 + 1))
        rw [List.drop_drop] at hrest
        have hp3 : d = if (s.data.toList.drop (i1 + 1)).takeWhile dig = [] then no else parse3 neg X.data.toList ((s.data.toList.drop (i1 + 1)).takeWhile dig) (s.data.toList.drop (i1 + 1 + ((s.data.toList.drop (i1 + 1)).takeWhile dig).length)) := by
          rw [hp2, parse2, if_pos rfl, hrest]
        clear hp2 HP2 HPT hrest
        generalize (s.data.toList.drop (i1 + 1)).takeWhile dig = fr at hdg hfl hp3
        obtain ⟨F, hF⟩ : ∃ F, F = B fr := ⟨_, rfl⟩
        rw [← hF] at hdg
        have hFl : fr = F.data.toList := by rw [hF]; rfl
        clear hF
        subst hFl
        rw [← Lib.size_eq] at hfl hp3
        have HP3 : Hid (Unit → _) := fun _ => hp3
        clear hp3
        have HWC : Hid (Unit → Below w.heap.size w wc) := fun _ => hbl
        by_cases hF0 : 0 < F.size
        · have hFe := ne_of_pos F hF0
          go_wp2_with (go_at_call 13; refine (hdg _).mono ?_; clear hdg; rintro e w2 ⟨rfl, rfl⟩)
          go_meet
          refine ⟨i1 + 1 + F.size, F, int_eq (by omega), rfl, hfl, by omega, rfl, fun _ => ?_⟩
          rw [HP3.out ()]
          exact if_neg (fun h => by rw [Lib.size_eq, h] at hF0; simp at hF0)
        · have hnil : F.data.toList = [] := List.eq_nil_of_length_eq_zero (by rw [← Lib.size_eq]; omega)
          have hFe : F.toList.isEmpty = true := by rw [Lib.toList_data, hnil]; rfl
          have HE : Hid (Unit → d = no) := fun _ => by rw [HP3.out ()]; exact if_pos hnil
          clear hnil HP3
          go_upto_if 62 with (go_at_call 13; refine (hdg _).mono ?_; clear hdg; rintro e w2 ⟨rfl, rfl⟩)
          go_light
          repeat (first | go_values | go_skip | go_guarded | go_step | go_upon)
          refine bodyPost_ret (v := ansV no) ?_ rfl ⟨by rw [HE.out ()], ?_⟩
          · simp [results, Tryd.results6, go_sem, ansV, no, g0, g1, g2]; rfl
          · go_grown
  case rest =>
  obtain ⟨i2, F, rfl, rfl, hi2, hFs, rfl, HP3⟩ := hcut
  clear HP2 HPT hi1l
  go_upto_region 16 with fail
  go_cut [84] (fun s84 wx => s84 = .bool (isE s i2) ∧ wx = wc)
  case first =>
    as_aux_lemma =>
      by_cases h0 : i2 < s.size
      · have h0i : decide ((i2 : Int) < (s.size : Int)) = true := by simp; omega
        have HA : Hid (Unit → isE s i2 = (((s[i2].toNat : Int) == 101) || ((s[i2].toNat : Int) == 69))) := fun _ => isE_pos s i2 h0
        cases h101 : ((s[i2].toNat : Int) == 101)
        all_goals
          cases h69 : ((s[i2].toNat : Int) == 69)
          all_goals
            go_wp2_with fail
            go_meet
            exact ⟨by rw [HA.out (), h101, h69]; rfl, rfl⟩
      · have h0i : decide ((i2 : Int) < (s.size : Int)) = false := by simp; omega
        have HA : Hid (Unit → isE s i2 = false) := fun _ => isE_neg s i2 h0
        go_wp2_with fail
        go_meet
        exact ⟨by rw [HA.out ()], rfl⟩
  case rest =>
  obtain ⟨rfl, rfl⟩ := hcut
  obtain ⟨ex, hex⟩ : ∃ ex, ex = isE s i2 := ⟨_, rfl⟩
  rw [← hex]
  have HEX : Hid (Unit → ex = isE s i2) := fun _ => hex
  clear hex
  go_upto_if 84 with fail
  go_cut [4, 7] (fun s4 s7 wx => ∃ (i3 : Nat) (x : Int), s4 = .int .i64 i3 ∧ s7 = .int .i64 x ∧ i3 ≤ s.size ∧ -100000000000000000 < x ∧ x < 100000000000000000 ∧ PW w neg wx ∧ Hid (Unit → d = if i3 = s.size then finG neg (X.data.toList ++ F.data.toList) X.size x else no))
  case first =>
    as_aux_lemma =>
      rename_i J1 K1 hJ1 hM1
      cases ex
      · go_wp2_with fail
        go_meet
        refine ⟨i2, 0, rfl, rfl, hi2, by decide, by decide, ⟨hbl, g0, g1, g2, gf, gz⟩, fun _ => ?_⟩
        rw [HP3.out (), parse3_no s neg _ _ i2 hi2 (HEX.out ()).symm, Lib.size_eq X]
      · have hlt : i2 < s.size := isE_lt (HEX.out ()).symm
        obtain ⟨j, hj⟩ : ∃ j, j = i2 + 1 := ⟨_, rfl⟩
        have hji : (i2 : Int) + 1 = (j : Int) := by omega
        have hjl : j ≤ s.size := by omega
        have HP4 : Hid (Unit → _) := fun _ => (HP3.out ()).trans ((parse3_yes s neg X.data.toList F.data.toList i2 (HEX.out ()).symm).trans (expW_elim _ _ _ _))
        rw [← hj] at HP4
        clear HP3 HEX hlt hj hi2
        go_upto_region 18 with fail
        go_cut [8] (fun s8 wx => s8 = .bool (negL (s.data.toList.drop j)) ∧ wx = wc)
        case first =>
          as_aux_lemma =>
            clear hji
            have HN : Hid (Unit → _) := fun _ => negAt s j
            by_cases h0 : j < s.size
            · have h0i : decide ((j : Int) < (s.size : Int)) = true := by simp; omega
              cases h45 : ((s[j].toNat : Int) == 45)
              all_goals
                go_wp2_with fail
                go_meet
                exact ⟨by rw [(HN.out ()).1 h0, h45], rfl⟩
            · have h0i : decide ((j : Int) < (s.size : Int)) = false := by simp; omega
              go_wp2_with fail
              go_meet
              exact ⟨by rw [(HN.out ()).2 h0], rfl⟩
        case rest =>
        obtain ⟨rfl, rfl⟩ := hcut
        clear hji
        obtain ⟨en, hen⟩ : ∃ en, en = negL (s.data.toList.drop j) := ⟨_, rfl⟩
        rw [← hen] at HP4
        rw [← hen]
        clear hen
        go_upto_region 19 with fail
        go_cut [112] (fun s112 wx => s112 = .bool (isS s j) ∧ wx = wc)
        case first =>
          as_aux_lemma =>
            by_cases h0 : j < s.size
            · have h0i : decide ((j : Int) < (s.size : Int)) = true := by simp; omega
              have HA : Hid (Unit → isS s j = (((s[j].toNat : Int) == 45) || ((s[j].toNat : Int) == 43))) := fun _ => isS_pos s j h0
              cases h45 : ((s[j].toNat : Int) == 45)
              all_goals
                cases h43 : ((s[j].toNat : Int) == 43)
                all_goals
                  go_wp2_with fail
                  go_meet
                  exact ⟨by rw [HA.out (), h45, h43]; rfl, rfl⟩
            · have h0i : decide ((j : Int) < (s.size : Int)) = false := by simp; omega
              have HA : Hid (Unit → isS s j = false) := fun _ => isS_neg s j h0
              go_wp2_with fail
              go_meet
              exact ⟨by rw [HA.out ()], rfl⟩
        case rest =>
        obtain ⟨rfl, rfl⟩ := hcut
        obtain ⟨sg, hsg⟩ : ∃ sg, sg = isS s j := ⟨_, rfl⟩
        rw [← hsg]
        have HSG : Hid (Unit → sg = isS s j) := fun _ => hsg
        clear hsg
        go_upto_if 112 with fail
        go_cut [4] (fun s4 wx => ∃ j1 : Nat, s4 = .int .i64 j1 ∧ j1 ≤ s.size ∧ wx = wc ∧ Hid (Unit → signR (s.data.toList.drop j) = s.data.toList.drop j1))
        case first =>
          as_aux_lemma =>
            cases sg
            · go_wp2_with fail
              go_meet
              exact ⟨j, rfl, hjl, rfl, fun _ => signR_no s j (HSG.out ()).symm⟩
            · have hlt : j < s.size := isS_lt (HSG.out ()).symm
              go_wp2_with fail
              go_meet
              exact ⟨j + 1, int_eq (by omega), hlt, rfl, fun _ => signR_yes s j (HSG.out ()).symm⟩
        case rest =>
        obtain ⟨j1, rfl, hj1, rfl, HSR⟩ := hcut
        have hp4 := HP4.out ()
        rw [HSR.out ()] at hp4
        clear HP4 HSR HSG hjl
        have hdg := fun W => digitsAt_c s j1 W hs hj1
        have hwl : j1 + ((s.data.toList.drop j1).takeWhile dig).length ≤ s.size := by
          have h := (List.takeWhile_sublist (l := s.data.toList.drop j1) dig).length_le
          rw [List.length_drop, ← Lib.size_eq] at h
          omega
        have hrest := dropWhile_eq dig (s.data.toList.drop j1)
        rw [List.drop_drop] at hrest
        rw [hrest] at hp4
        clear hrest
        have hall := all_takeWhile dig (s.data.toList.drop j1)
        generalize (s.data.toList.drop j1).takeWhile dig = wr at hdg hwl hp4 hall
        obtain ⟨Z, hZ⟩ : ∃ Z, Z = B wr := ⟨_, rfl⟩
        rw [← hZ] at hdg
        have hZl : wr = Z.data.toList := by rw [hZ]; rfl
        clear hZ
        subst hZl
        have htl := fun W => trimL_c Z W
        have hTs := trimL_le Z.data.toList
        have hTm := fun x hx => hall x (trim_mem Z.data.toList x hx)
        rw [← Lib.size_eq] at hwl hp4 hTs
        generalize Lib.trimLeftB Z.data.toList 48 = tr at htl hp4 hTs hTm
        obtain ⟨T, hT⟩ : ∃ T, T = B tr := ⟨_, rfl⟩
        rw [← hT] at htl
        have hTl : tr = T.data.toList := by rw [hT]; rfl
        clear hT
        subst hTl
        rw [← Lib.size_eq] at hp4 hTs
        have HP5 : Hid (Unit → _) := fun _ => hp4
        have HTM : Hid (Unit → _) := fun _ => hTm
        clear hp4 hall hTm
        by_cases hZ0 : 0 < Z.size
        rotate_left
        · have hnil : Z.data.toList = [] := List.eq_nil_of_length_eq_zero (by rw [← Lib.size_eq]; omega)
          have hFe : Z.toList.isEmpty = true := by rw [Lib.toList_data, hnil]; rfl
          have HE : Hid (Unit → d = no) := fun _ => by rw [HP5.out ()]; exact if_pos hnil
          clear hnil HP5 HTM htl
          as_aux_lemma =>
            go_upto_if 119 with (go_at_call 13; refine (hdg _).mono ?_; clear hdg; rintro e w2 ⟨rfl, rfl⟩)
            go_light
            clear hJ1
            repeat (first | go_values | go_skip | go_guarded | go_step | go_upon)
            refine bodyPost_ret (v := ansV no) ?_ rfl ⟨by rw [HE.out ()], ?_⟩
            · simp [results, Tryd.results6, go_sem, ansV, no, g0, g1, g2]; rfl
            · go_grown
        have hZe := ne_of_pos Z hZ0
        have HP6 : Hid (Unit → _) := fun _ => (HP5.out ()).trans (if_neg (fun h => by rw [Lib.size_eq, h] at hZ0; simp at hZ0))
        clear HP5
        by_cases hbig : 18 ≤ T.size
        · have hbi : decide ((18 : Int) ≤ (T.size : Int)) = true := by simp; omega
          have HE : Hid (Unit → d = no) := fun _ => by rw [HP6.out ()]; exact if_pos hbig
          clear HP6 HTM
          as_aux_lemma =>
            go_upto_if 129 with (first | (go_at_call 13; refine (hdg _).mono ?_; clear hdg; rintro e w2 ⟨rfl, rfl⟩) | (go_at_call 14; refine (htl _).mono ?_; clear htl; rintro e w3 ⟨rfl, rfl⟩))
            go_light
            clear hJ1
            repeat (first | go_values | go_skip | go_guarded | go_step | go_upon)
            refine bodyPost_ret (v := ansV no) ?_ rfl ⟨by rw [HE.out ()], ?_⟩
            · simp [results, Tryd.results6, go_sem, ansV, no, g0, g1, g2]; rfl
            · go_grown
        have hbi : decide ((18 : Int) ≤ (T.size : Int)) = false := by simp; omega
        have HP7 : Hid (Unit → _) := fun _ => (HP6.out ()).trans (if_neg hbig)
        clear HP6
        have kc := fun W => run_bytes_of_string (P := Tryd.prog) W 9 33 5 T Tryd.underlying9 Tryd.underlying33 Tryd.underlying5
        obtain ⟨i3, hi3⟩ : ∃ i3, i3 = j1 + Z.size := ⟨_, rfl⟩
        have hi3i : (j1 : Int) + (Z.size : Int) = (i3 : Int) := by omega
        rw [← hi3] at hwl HP7
        clear hi3
        go_upto_region 28 with (first | (go_at_call 13; refine (hdg _).mono ?_; clear hdg; rintro e w2 ⟨rfl, rfl⟩) | (go_at_call 14; refine (htl _).mono ?_; clear htl; rintro e w3 ⟨rfl, rfl⟩))
        go_cut [132, 133, 134] (fun s132 s133 s134 wx => ∃ (a cap : Nat), s132 = .slice (some ⟨a, 0, none⟩) T.size cap ∧ s133 = .int .i64 T.size ∧ s134 = .int .i64 0 ∧ Rowd a T wx ∧ PW w neg wx)
        case first =>
          as_aux_lemma =>
            go_wp2_with fail
            go_meet
            exact ⟨_, _, rfl, rfl, rfl, rowd_new _ T _ _ _, (PW.drew ⟨hbl, g0, g1, g2, gf, gz⟩).alloc _⟩
        case rest =>
        clear hbl g0 g1 g2 gf gz kc
        obtain ⟨a, cap, rfl, rfl, rfl, hrow, ⟨hbl, g0, g1, g2, gf, gz⟩⟩ := hcut
        have hT17 : T.size ≤ 17 := by clear hJ1 hM1; omega
        clear hbig hbi hZ0 hZe hTs hi3i hj1
        as_aux_lemma =>
          go_wp2_with fail
          go_loop [7, 134] (fun ve vk => ∃ (e0 k : Nat), k ≤ T.size ∧ ve = .int .i64 e0 ∧ vk = .int .i64 k ∧ e0 < 100000000000000000 ∧ Hid (Unit → e0 = valF 0 (T.data.toList.take k))) (fun _ vk => T.size - (intOf vk).toNat)
          case atStart => exact ⟨0, 0, Nat.zero_le _, rfl, rfl, by decide, fun _ => rfl⟩
          case round =>
            obtain ⟨e0, k, hk, rfl, rfl, he0, HV⟩ := hrel
            by_cases hlt : k < T.size
            · have hlti : decide ((k : Int) < (T.size : Int)) = true := by simp; omega
              have hcell := hrow k hlt
              have hdgt := (dig_iff T[k]).1 (HTM.out () T[k] (List.mem_of_getElem? (get_byte T k hlt)))
              have HU : Hid (Unit → _) := fun _ => valF_take T k hlt
              have HSM : Hid (Unit → _) := fun _ => valF_small T (k + 1) (HTM.out ()) hT17
              obtain ⟨c, hc⟩ : ∃ c : Nat, c = T[k].toNat := ⟨_, rfl⟩
              rw [← hc] at hcell hdgt
              have HC : Hid (Unit → _) := fun _ => hc
              clear hc hrow
              obtain ⟨h48, h57⟩ := hdgt
              go_wp2_with fail
              go_round
              case rel =>
                go_light
                have he : valF 0 (T.data.toList.take (k + 1)) = e0 * 10 + (c - 48) := by rw [HU.out (), ← HV.out (), up, ← HC.out ()]
                refine ⟨valF 0 (T.data.toList.take (k + 1)), k + 1, hlt, int_eq ?_, by go_num, HSM.out (), fun _ => rfl⟩
                omega
              case measure => go_light; simp [intOf]; omega
            · have hlti : decide ((k : Int) < (T.size : Int)) = false := by simp; omega
              have HF : Hid (Unit → e0 = valF 0 T.data.toList) := fun _ => by rw [HV.out (), List.take_of_length_le (by rw [← Lib.size_eq]; omega)]
              clear HV hrow
              cases en
              all_goals
                go_wp2_with fail
                go_meet
                go_light
              · refine ⟨i3, (e0 : Int), rfl, rfl, hwl, by omega, by omega, ⟨hbl, g0, g1, g2, gf, gz⟩, fun _ => ?_⟩
                rw [HP7.out (), ← HF.out (), if_drop s i3 hwl, Lib.size_eq X]; rfl
              · refine ⟨i3, -(e0 : Int), rfl, rfl, hwl, by omega, by omega, ⟨hbl, g0, g1, g2, gf, gz⟩, fun _ => ?_⟩
                rw [HP7.out (), ← HF.out (), if_drop s i3 hwl, Lib.size_eq X]; rfl
  case rest =>
  clear hbl g0 g1 g2 gf gz HP3 HEX hi2
  obtain ⟨i3, x, rfl, rfl, hi3, hx1, hx2, ⟨hbl, g0, g1, g2, gf, gz⟩, HP8⟩ := hcut
  by_cases he3 : i3 = s.size
  rotate_left
  · have hne : ((i3 : Int) == (s.size : Int)) = false := by simp; omega
    have hne2 : ((i3 : Int) != (s.size : Int)) = true := by simp; omega
    have HE : Hid (Unit → d = no) := fun _ => by rw [HP8.out ()]; exact if_neg he3
    clear HP8
    as_aux_lemma =>
      repeat (first | go_values | go_skip | go_guarded | go_step | go_upon)
      refine bodyPost_ret (v := ansV no) ?_ rfl ⟨by rw [HE.out ()], ?_⟩
      · simp [results, Tryd.results6, go_sem, ansV, no, g0, g1, g2]; rfl
      · go_grown
  have hp8 := (HP8.out ()).trans (if_pos he3)
  clear HP8 hi3
  subst he3
  rw [← ByteArray_app] at hp8
  obtain ⟨S, hS⟩ : ∃ S, S = X ++ F := ⟨_, rfl⟩
  have hSs : S.size ≤ 33554432 := by rw [hS, ByteArray.size_append]; omega
  rw [← hS] at hp8
  have HS : Hid (Unit → S = X ++ F) := fun _ => hS
  clear hS
  unfold finG at hp8
  have hL := drop_lead S.data.toList
  have hldl := lead_le S.data.toList
  have hlle := lead_eq S.data.toList
  have htl := fun W => trimL_c S W
  have hDl : digsOf S.data.toList = Lib.trimRightB (Lib.trimLeftB S.data.toList 48) 48 := rfl
  rw [hDl] at hp8
  clear hDl
  generalize Lib.trimLeftB S.data.toList 48 = tl at hL htl hp8 hlle
  generalize leadOf S.data.toList = ld at hL hldl hlle hp8
  obtain ⟨L, hLb⟩ : ∃ L, L = B tl := ⟨_, rfl⟩
  rw [← hLb] at htl
  have hLl : tl = L.data.toList := by rw [hLb]; rfl
  clear hLb
  subst hLl
  rw [← Lib.size_eq] at hldl hlle
  have hld : (S.size : Int) - (L.size : Int) = (ld : Int) := by rw [← Lib.size_eq] at hlle; omega
  have hxt : S.extract ld S.size = L := by
    have h : (S.extract ld S.size).data.toList = L.data.toList := by rw [ext_cutL, B_data, cutL, hL, List.take_of_length_le]; rw [← Lib.size_eq] at hlle ⊢; omega
    rw [B_eq h, B_of]
  have htr := fun W => trimR_c L W (by rw [← Lib.size_eq] at hlle; omega)
  generalize Lib.trimRightB L.data.toList 48 = dl at htr hp8
  obtain ⟨D, hDb⟩ : ∃ D, D = B dl := ⟨_, rfl⟩
  rw [← hDb] at htr
  have hDl : dl = D.data.toList := by rw [hDb]; rfl
  clear hDb
  subst hDl
  rw [← hxt] at htr
  clear hL hlle hxt
  obtain ⟨v, hv⟩ : ∃ v : Int, v = (X.size : Int) - ld + x := ⟨_, rfl⟩
  rw [← hv] at hp8
  have HP9 : Hid (Unit → _) := fun _ => hp8
  clear hp8
  have hvi : (X.size : Int) - (ld : Int) + x = v := hv.symm
  clear hv
  go_upto_region 37 with fail
  go_cut [12] (fun s12 wx => s12 = .string S ∧ wx = wc)
  case first =>
    as_aux_lemma =>
      go_wp2_with fail
      go_meet
      exact ⟨by rw [HS.out ()], rfl⟩
  case rest =>
  obtain ⟨rfl, rfl⟩ := hcut
  clear HS
  go_upto_region 38 with fail
  go_cut [13] (fun s13 wx => s13 = .int .i64 ld ∧ wx = wc)
  case first =>
    as_aux_lemma =>
      go_wp2_with (go_at_call 14; refine (htl _).mono ?_; clear htl; rintro e w3 ⟨rfl, rfl⟩)
      go_meet
      exact ⟨by first | rfl | exact int_eq hld, rfl⟩
  case rest =>
  obtain ⟨rfl, rfl⟩ := hcut
  clear htl hld
  by_cases hD0 : 0 < D.size
  rotate_left
  · have hnil : D.data.toList = [] := List.eq_nil_of_length_eq_zero (by rw [← Lib.size_eq]; omega)
    have hDe : D.toList.isEmpty = true := by rw [Lib.toList_data, hnil]; rfl
    have HE : Hid (Unit → d = zr) := fun _ => by rw [HP9.out ()]; exact if_pos hnil
    clear hnil HP9
    as_aux_lemma =>
      go_upto_if 169 with (go_at_call 15; refine (htr _).mono ?_; clear htr; rintro e w3 ⟨rfl, rfl⟩)
      repeat (first | go_values | go_skip | go_guarded | go_step | go_upon)
      refine bodyPost_ret (v := ansV zr) ?_ rfl ⟨by rw [HE.out ()], ?_⟩
      · simp [results, Tryd.results6, go_sem, ansV, zr, g0, g1, g2]; rfl
      · go_grown
  have hDe := ne_of_pos D hD0
  have HP10 : Hid (Unit → _) := fun _ => (HP9.out ()).trans (if_neg (fun h => by rw [Lib.size_eq, h] at hD0; simp at hD0))
  clear HP9
  by_cases hv1 : 10000 < v
  · have HE : Hid (Unit → d = no) := fun _ => by rw [HP10.out ()]; exact if_pos (.inl hv1)
    have hv1i : decide ((10000 : Int) < v) = true := by simp; omega
    clear HP10
    as_aux_lemma =>
      go_upto_if 185 with (go_at_call 15; refine (htr _).mono ?_; clear htr; rintro e w3 ⟨rfl, rfl⟩)
      repeat (first | go_values | go_skip | go_guarded | go_step | go_upon)
      refine bodyPost_ret (v := ansV no) ?_ rfl ⟨by rw [HE.out ()], ?_⟩
      · obtain ⟨c0, c1, c2⟩ := cells3 (has_set ⟨w.heap.size, 2, none⟩ (.int .i64 v) (has_set ⟨w.heap.size, 1, none⟩ (.string D) ⟨_, g0⟩)) (has_set ⟨w.heap.size, 2, none⟩ (.int .i64 v) (has_set ⟨w.heap.size, 1, none⟩ (.string D) ⟨_, g1⟩)) (has_set ⟨w.heap.size, 2, none⟩ (.int .i64 v) (has_set ⟨w.heap.size, 1, none⟩ (.string D) ⟨_, g2⟩)) (.bool false) (.string ⟨#[]⟩) (.int .i64 0)
        simp [results, Tryd.results6, go_sem, ansV, no, c0, c1, c2]; rfl
      · go_grown
  have hv1i : decide ((10000 : Int) < v) = false := by simp; omega
  by_cases hv2 : v < -10000
  · have HE : Hid (Unit → d = no) := fun _ => by rw [HP10.out ()]; exact if_pos (.inr hv2)
    have hv2i : decide (v < (-10000 : Int)) = true := by simp; omega
    clear HP10
    as_aux_lemma =>
      go_upto_if 185 with (go_at_call 15; refine (htr _).mono ?_; clear htr; rintro e w3 ⟨rfl, rfl⟩)
      repeat (first | go_values | go_skip | go_guarded | go_step | go_upon)
      refine bodyPost_ret (v := ansV no) ?_ rfl ⟨by rw [HE.out ()], ?_⟩
      · obtain ⟨c0, c1, c2⟩ := cells3 (has_set ⟨w.heap.size, 2, none⟩ (.int .i64 v) (has_set ⟨w.heap.size, 1, none⟩ (.string D) ⟨_, g0⟩)) (has_set ⟨w.heap.size, 2, none⟩ (.int .i64 v) (has_set ⟨w.heap.size, 1, none⟩ (.string D) ⟨_, g1⟩)) (has_set ⟨w.heap.size, 2, none⟩ (.int .i64 v) (has_set ⟨w.heap.size, 1, none⟩ (.string D) ⟨_, g2⟩)) (.bool false) (.string ⟨#[]⟩) (.int .i64 0)
        simp [results, Tryd.results6, go_sem, ansV, no, c0, c1, c2]; rfl
      · go_grown
  have hv2i : decide (v < (-10000 : Int)) = false := by simp; omega
  have HE : Hid (Unit → d = (neg, D.data.toList, v, true)) := fun _ => by rw [HP10.out ()]; exact if_neg (fun h => h.elim hv1 hv2)
  clear HP10
  as_aux_lemma =>
    go_upto_if 185 with (go_at_call 15; refine (htr _).mono ?_; clear htr; rintro e w3 ⟨rfl, rfl⟩)
    repeat (first | go_values | go_skip | go_guarded | go_step | go_upon)
    refine bodyPost_ret (v := ansV (neg, D.data.toList, v, true)) ?_ rfl ⟨by rw [HE.out ()], ?_⟩
    · obtain ⟨c0, c1, c2⟩ := cells3 (has_set ⟨w.heap.size, 2, none⟩ (.int .i64 v) (has_set ⟨w.heap.size, 1, none⟩ (.string D) ⟨_, g0⟩)) (has_set ⟨w.heap.size, 2, none⟩ (.int .i64 v) (has_set ⟨w.heap.size, 1, none⟩ (.string D) ⟨_, g1⟩)) (has_set ⟨w.heap.size, 2, none⟩ (.int .i64 v) (has_set ⟨w.heap.size, 1, none⟩ (.string D) ⟨_, g2⟩)) (.bool neg) (.string D) (.int .i64 v)
      simp [results, Tryd.results6, go_sem, ansV, B_of, c0, c1, c2]
    · go_grown
end Go.Proofs.Qxb6603906aDoor
