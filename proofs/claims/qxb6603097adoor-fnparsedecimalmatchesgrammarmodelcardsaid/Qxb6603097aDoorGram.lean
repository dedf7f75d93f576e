import Derived.Test.Qxb6603097aDoorWalkB
import Derived.Test.Qxb6603097aDoorModNone
import Derived.Test.Qxb6603097aDoorModMinus
import Derived.Test.Qxb6603097aDoorModPlus
import Derived.Test.Qxb6603097aDoorModEmpty
import Derived.Test.Qxb6603097aDoorLiftGram
import Derived.Shelf.Vars
import Derived.Deep.QuietTactic
import Derived.BigQuiet
namespace Go.Proofs.Qxb6603097aDoor.gram
open Go.RowKit Pl

theorem head_byte (s : ByteArray) (h : 0 < s.size) : ∃ t, s.data.toList = s[0] :: t ∧ (s.extract 1 s.size).data.toList = t := by
  have hg := get_byte s 0 h
  cases hl : s.data.toList with
  | nil => rw [hl] at hg; cases hg
  | cons c t =>
    rw [hl] at hg
    have hc : c = s[0] := by simpa using hg
    refine ⟨t, by rw [hc], ?_⟩
    rw [Lib.extract_data, hl, List.drop_succ_cons, List.drop_zero, List.take_of_length_le]
    rw [Lib.size_eq, hl]; simp
theorem eq_num (c d : UInt8) : ((c.toNat : Int) == (d.toNat : Int)) = true ↔ c = d := by
  rw [beq_iff_eq]
  constructor
  · intro h; apply UInt8.toNat_inj.1; omega
  · intro h; rw [h]

/-- parseDecimal and modelDecimal, at every string. -/
theorem both (s : ByteArray) (m : Int) (w : World) (hs : s.size ≤ 1048576) (hm : w.cell? ⟨0, 0, none⟩ = some (.int .i64 m)) :
    (Calls Tryd.prog 12 #[.string s] w fun e w' => e = .returned (decV (decL s.data.toList)) ∧ Below w.heap.size w w') ∧ (∀ W, Calls Tryd.prog 8 #[.string s] W fun e w' => e = .returned (modV (decL s.data.toList)) ∧ w' = W) := by
  rw [← modL_eq]
  by_cases h0 : 0 < s.size
  · obtain ⟨t, hl, ht⟩ := head_byte s h0
    have hdrop : s.data.toList.drop 1 = t := by rw [hl]; rfl
    cases h45 : ((s[0].toNat : Int) == 45)
    · have n45 : s[0] ≠ 45 := fun e => by rw [e] at h45; exact absurd h45 (by decide)
      have hneg : negL s.data.toList = false := by rw [hl, negL]; simpa using n45
      cases h43 : ((s[0].toNat : Int) == 43)
      · have n43 : s[0] ≠ 43 := fun e => by rw [e] at h43; exact absurd h43 (by decide)
        have hrest : restL s.data.toList = s.data.toList := by rw [hl, restL, if_neg (by rintro (h | h); exact n45 h; exact n43 h)]
        refine ⟨?_, fun W => ?_⟩
        · rw [modL_eq, decL, hneg, hrest]
          exact parse_none s m w hs h0 h45 h43 hm
        · rw [modL, hneg, hrest]
          exact model_none s W hs h0 h45 h43
      · have e43 : s[0] = 43 := (eq_num s[0] 43).1 h43
        have hrest : restL s.data.toList = t := by rw [hl, restL, if_pos (.inr e43)]
        refine ⟨?_, fun W => ?_⟩
        · rw [modL_eq, decL, hneg, hrest, ← ht]
          exact parse_plus s m w hs h0 h45 h43 hm
        · rw [modL, hneg, hrest, ← hdrop]
          exact model_plus s W hs h0 h45 h43
    · have e45 : s[0] = 45 := (eq_num s[0] 45).1 h45
      have hneg : negL s.data.toList = true := by rw [hl, negL, e45]; rfl
      have hrest : restL s.data.toList = t := by rw [hl, restL, if_pos (.inl e45)]
      refine ⟨?_, fun W => ?_⟩
      · rw [modL_eq, decL, hneg, hrest, ← ht]
        exact parse_minus s m w hs h0 h45 hm
      · rw [modL, hneg, hrest, ← hdrop]
        exact model_minus s W hs h0 h45
  · have hl : s.data.toList = [] := List.eq_nil_of_length_eq_zero (by rw [← Lib.size_eq]; omega)
    have hneg : negL s.data.toList = false := by rw [hl]; rfl
    have hrest : restL s.data.toList = s.data.toList := by rw [hl]; rfl
    refine ⟨?_, fun W => ?_⟩
    · rw [modL_eq, decL, hneg, hrest]
      exact parse_empty s m w hs (by rw [Lib.toList_data, hl]; rfl) hm
    · rw [modL, hneg, hrest]
      exact model_empty s W (by omega)

set_option maxHeartbeats 400000 in
theorem zz_any (s : ByteArray) (m : Int) (w : World) (hs : s.size ≤ 1048576) (hm : w.cell? ⟨0, 0, none⟩ = some (.int .i64 m)) :
    Calls Tryd.prog 7 #[.string s] w fun e w' => e = .returned (modV (decL s.data.toList)) ∧ Below w.heap.size w w' := by
  have h := (both s m w hs hm).1
  generalize decL s.data.toList = d at h ⊢
  obtain ⟨n, wh, fr, ok⟩ := d
  unfold decV at h
  unfold modV
  go_enter Tryd.func7, Tryd.ntmps7
  go_wp2_with fail
  refine h.mono ?_
  clear h
  rintro e w1 ⟨rfl, hb⟩
  have hz := hb.size
  go_wp2_with fail
  go_quiet (fail)
  go_wp2_with fail
  refine bodyPost_ret (v := .tuple #[.bool n, .string (B wh), .string (B fr), .bool ok]) (by simp [results, Tryd.results7, go_sem]) rfl ⟨rfl, ?_⟩
  refine below_drewN ?_ _
  go_grown

set_option maxHeartbeats 400000 in
theorem bytes_any (a : ByteArray) (w : World) (ha : a.size ≤ 9223372036854775807) :
    Calls Tryd.prog 6 #[.string a] w fun r w' => (∃ y, r = .returned (.bool y)) ∧ w' = w := by
  go_enter Tryd.func6, Tryd.ntmps6
  go_wp2
  all_goals
    go_ret
    exact ⟨⟨_, rfl⟩, rfl⟩

set_option maxHeartbeats 1000000 in
theorem walk : Walked := by
  intro a0 w hsh l0
  unfold maxLen at l0
  obtain ⟨m, hm⟩ : ∃ m, w.cell? ⟨0, 0, none⟩ = some (.int .i64 m) := cell_of_shapedOpen_int (P := Tryd.prog) (g := 0) (t := 3) (zero := #[.int .i64 0]) hsh (of_decide_eq_true (by kernel_rfl)) (by kernel_rfl) rfl (by kernel_rfl) (by kernel_rfl) Tryd.underlying3
  clear hsh
  by_cases hs : a0.size ≤ 1048576
  · have h1 := zz_any a0 m w hs hm
    have h2 := (both a0 m w hs hm).2
    generalize decL a0.data.toList = d at h1 h2
    obtain ⟨n, wh, fr, ok⟩ := d
    unfold modV at h1 h2
    have H1 : Hid (Unit → _) := fun _ => h1
    have H2 : Hid (Unit → _) := fun _ => h2
    clear h1 h2 hm
    go_enter Tryd.func3, Tryd.ntmps3
    go_wp2_with fail
    refine (bytes_any _ _ l0).mono ?_
    rintro e w' ⟨⟨y, rfl⟩, rfl⟩
    cases y
    · go_wp2_with fail
      go_ret
      exact ⟨rfl, Below.refl _ _⟩
    go_wp2_with fail
    refine (H1.out ()).mono ?_
    clear H1
    rintro e w1 ⟨rfl, hb⟩
    go_wp2_with fail
    refine (H2.out () _).mono ?_
    clear H2
    rintro e w2 ⟨rfl, rfl⟩
    go_wp2_with fail
    go_ret
    exact ⟨rfl, hb⟩
  · go_enter Tryd.func3, Tryd.ntmps3
    go_wp2_with fail
    refine (bytes_any _ _ l0).mono ?_
    rintro e w' ⟨⟨y, rfl⟩, rfl⟩
    cases y
    all_goals
      go_wp2_with fail
      go_ret
      exact ⟨rfl, Below.refl _ _⟩
end Go.Proofs.Qxb6603097aDoor.gram
namespace Go.Proofs.Qxb6603097aDoor
/-- THE STATEMENT. -/
theorem decimalProved : Rows.FnParseDecimalMatchesGrammarModelCardSaid := gram.card_holds gram.walk
end Go.Proofs.Qxb6603097aDoor
