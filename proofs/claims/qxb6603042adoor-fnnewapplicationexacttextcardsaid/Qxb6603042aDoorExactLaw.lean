import Derived.Test.Qxb6603042aDoorExact
namespace Go.Proofs.Qxb6603042aDoor.exact
open Go.RowKit Pl

theorem fresh_a (n x c : ByteArray) (hc : c.data.toList = []) : freshL n.data.toList c.data.toList x.data.toList = (⟨#[97, 112, 112, 108, 105, 99, 97, 116, 105, 111, 110, 32]⟩ ++ n ++ ⟨#[10, 123]⟩ ++ ⟨#[10]⟩ ++ ⟨#[32, 32, 32, 32]⟩ ++ x ++ ⟨#[10]⟩ : ByteArray).data.toList ++ [125] := by
  simp only [app_data]
  rw [freshL, stmtsL, if_pos hc, headL]
  simp
theorem fresh_b (n x c : ByteArray) (hc : c.data.toList ≠ []) : freshL n.data.toList c.data.toList x.data.toList = (⟨#[97, 112, 112, 108, 105, 99, 97, 116, 105, 111, 110, 32]⟩ ++ n ++ ⟨#[10, 123]⟩ ++ ⟨#[10]⟩ ++ ⟨#[32, 32, 32, 32, 35, 32]⟩ ++ c ++ ⟨#[10]⟩ ++ ⟨#[32, 32, 32, 32]⟩ ++ x ++ ⟨#[10]⟩ : ByteArray).data.toList ++ [125] := by
  simp only [app_data]
  rw [freshL, stmtsL, if_neg hc, headL]
  simp
/-- A bound for the model's body. -/
theorem modelL_le (l : List UInt8) : (modelL l).length ≤ 5 * l.length + 20 := by
  obtain ⟨x0, r, hxr⟩ := splitL_cons 10 l
  have hpc := splitL_piece 10 l
  have hjt := joinTail_le 10 _ _ _ hxr
  rw [hxr] at hpc
  have hm : modelL l = bodyOf x0 r := by rw [modelL, hxr]; rfl
  have h1 := indentLines_le r l.length (fun y hy => hpc y (by simp [hy]))
  have h2 := hpc x0 (by simp)
  have h3 := trimS_le x0 [32, 9, 13]
  have h4 : (flatL r.dropLast).length ≤ l.length := by
    rw [List.dropLast_eq_take]
    exact Nat.le_trans (flatL_take_le r _) (by rw [flatL_length]; exact hjt)
  have h5 : (firstL x0 (indentLines r)).length ≤ 2 * l.length + 5 := by
    unfold firstL
    split
    · simp
    · simp; omega
  have h6 : (if r = [] then [] else endL (r.getLastD [])).length ≤ l.length + 1 := by
    split
    · simp
    · rename_i hr
      have hz : (r.getLastD []).length ≤ l.length := by
        rcases List.eq_nil_or_concat r with h | ⟨r', z, h⟩
        · exact absurd h hr
        · rw [h]; simp; exact hpc z (by rw [h]; simp)
      have h7 := trimRightS_le (r.getLastD []) [32, 9, 13]
      unfold endL
      split
      · exact Nat.zero_le _
      · rw [List.length_append, List.length_singleton]; omega
  rw [hm, bodyOf, List.length_append, List.length_append]
  omega
theorem eq_end {F : List UInt8} {X : ByteArray} (h : F = X.data.toList ++ [125]) : (B F).toList = (X ++ ⟨#[125]⟩ : ByteArray).toList := by
  rw [Lib.toList_data, Lib.toList_data, B_data, app_data, h]
theorem eq_more {F nm bd : List UInt8} {X : ByteArray} (a4 : ByteArray) (h : F = X.data.toList ++ [125]) (hn : nm = a4.data.toList) : (B (F.dropLast ++ commentL nm ++ bd ++ [125])).toList = (X ++ ⟨#[32, 32, 32, 32, 35, 32, 84, 104, 101, 32, 115, 116, 97, 116, 101, 109, 101, 110, 116, 115, 32, 111, 102, 32, 97, 112, 112, 108, 105, 99, 97, 116, 105, 111, 110, 32]⟩ ++ a4 ++ ⟨#[58, 10]⟩ ++ B bd ++ ⟨#[125]⟩ : ByteArray).toList := by
  rw [Lib.toList_data, Lib.toList_data, B_data]
  simp only [app_data, B_data]
  rw [h, hn, List.dropLast_concat, commentL]
  simp only [List.append_assoc]

set_option maxRecDepth 100000 in
set_option maxHeartbeats 4000000 in
theorem law_nil (a0 a1 a2 a4 a5 a7 : ByteArray) (a6 a8 : Int) (m : Int) (w : World) (l0 : a0.size ≤ 65536) (l1 : a1.size ≤ 65536) (l2 : a2.size ≤ 65536) (l4 : a4.size ≤ 65536) (l5 : a5.size ≤ 65536) (l7 : a7.size ≤ 65536) (hm : w.cell? ⟨0, 0, none⟩ = some (.int .i64 m)) :
    Calls Tryd.prog 3 #[.string a0, .string a1, .string a2, .bool true, .string a4, .string a5, .int .i64 a6, .string a7, .int .i64 a8] w fun e w' => e = .returned (.bool true) ∧ Below w.heap.size w w' := by
  have hlt : 0 < w.heap.size := World.block_lt_of_cell? _ _ hm
  by_cases hc : a1.data.toList = []
  · have hE := eq_end (fresh_a a0 a2 a1 hc)
    have hc0 : a1.toList.isEmpty = true := by rw [Lib.toList_data, hc]; rfl
    have p1 := fun W hm => app_nil a0 a1 a2 m W (by omega) (by omega) (by omega) hm
    obtain ⟨F, hF⟩ : ∃ F, F = freshL a0.data.toList a1.data.toList a2.data.toList := ⟨_, rfl⟩
    rw [← hF] at p1 hE
    clear hF hc
    have HE : Hid (Unit → _) := fun _ => hE
    clear hE
    have P1 : Hid (Unit → _) := fun _ => p1
    clear p1
    go_enter Tryd.func3, Tryd.ntmps3
    go_wp2_with fail
    refine (bytes9_any _ _ _ _ _ _ _ _ _ _ (by omega) (by omega) (by omega) (by omega) (by omega) (by omega)).mono ?_
    rintro e w' ⟨⟨y, rfl⟩, rfl⟩
    cases y
    · go_wp2_with fail
      go_ret
      exact ⟨rfl, Below.refl _ _⟩
    go_wp2_with fail
    refine (P1.out () _ hm).mono ?_
    rintro e w1 ⟨rfl, hb1⟩
    have hz1 := hb1.size
    clear P1
    have hE := HE.out ()
    go_wp2_with fail
    go_ret
    refine ⟨rfl, ?_⟩
    have hbz := hb1
    go_grown
  · have hE := eq_end (fresh_b a0 a2 a1 hc)
    have hc0 : a1.toList.isEmpty = false := by rw [Lib.toList_data]; cases h : a1.data.toList with | nil => exact absurd h hc | cons _ _ => rfl
    have p1 := fun W hm => app_nil a0 a1 a2 m W (by omega) (by omega) (by omega) hm
    obtain ⟨F, hF⟩ : ∃ F, F = freshL a0.data.toList a1.data.toList a2.data.toList := ⟨_, rfl⟩
    rw [← hF] at p1 hE
    clear hF hc
    have HE : Hid (Unit → _) := fun _ => hE
    clear hE
    have P1 : Hid (Unit → _) := fun _ => p1
    clear p1
    go_enter Tryd.func3, Tryd.ntmps3
    go_wp2_with fail
    refine (bytes9_any _ _ _ _ _ _ _ _ _ _ (by omega) (by omega) (by omega) (by omega) (by omega) (by omega)).mono ?_
    rintro e w' ⟨⟨y, rfl⟩, rfl⟩
    cases y
    · go_wp2_with fail
      go_ret
      exact ⟨rfl, Below.refl _ _⟩
    go_wp2_with fail
    refine (P1.out () _ hm).mono ?_
    rintro e w1 ⟨rfl, hb1⟩
    have hz1 := hb1.size
    clear P1
    have hE := HE.out ()
    go_wp2_with fail
    go_ret
    refine ⟨rfl, ?_⟩
    have hbz := hb1
    go_grown

set_option maxRecDepth 100000 in
set_option maxHeartbeats 4000000 in
theorem law_empty (a0 a1 a2 a4 a5 a7 : ByteArray) (a6 a8 : Int) (m : Int) (w : World) (l0 : a0.size ≤ 65536) (l1 : a1.size ≤ 65536) (l2 : a2.size ≤ 65536) (l4 : a4.size ≤ 65536) (l5 : a5.size ≤ 65536) (l7 : a7.size ≤ 65536) (hm : w.cell? ⟨0, 0, none⟩ = some (.int .i64 m)) (h7 : a7.toList.isEmpty = true) :
    Calls Tryd.prog 3 #[.string a0, .string a1, .string a2, .bool false, .string a4, .string a5, .int .i64 a6, .string a7, .int .i64 a8] w fun e w' => e = .returned (.bool true) ∧ Below w.heap.size w w' := by
  have hlt : 0 < w.heap.size := World.block_lt_of_cell? _ _ hm
  by_cases hc : a1.data.toList = []
  · have hE := eq_end (fresh_a a0 a2 a1 hc)
    have hc0 : a1.toList.isEmpty = true := by rw [Lib.toList_data, hc]; rfl
    have p1 := fun W bl hm k4 => app_empty a0 a1 a2 a7 bl m W (by omega) (by omega) (by omega) hm k4 h7
    obtain ⟨F, hF⟩ : ∃ F, F = freshL a0.data.toList a1.data.toList a2.data.toList := ⟨_, rfl⟩
    rw [← hF] at p1 hE
    clear hF hc
    have HE : Hid (Unit → _) := fun _ => hE
    clear hE
    have P1 : Hid (Unit → _) := fun _ => p1
    clear p1
    go_enter Tryd.func3, Tryd.ntmps3
    go_wp2_with fail
    refine (bytes9_any _ _ _ _ _ _ _ _ _ _ (by omega) (by omega) (by omega) (by omega) (by omega) (by omega)).mono ?_
    rintro e w' ⟨⟨y, rfl⟩, rfl⟩
    cases y
    · go_wp2_with fail
      go_ret
      exact ⟨rfl, Below.refl _ _⟩
    go_wp2_with fail
    refine (P1.out () _ _ ?_ ?_).mono ?_
    · exact cell_later (by go_grown) hm
    · go_cell
    rintro e w1 ⟨rfl, hb1⟩
    have hz1 := hb1.size
    simp only [World.size_alloc] at hz1
    have hb2 : Below w'.heap.size w' w1 := Below.trans (by go_grown) (hb1.mono (by simp only [World.size_alloc]; omega))
    clear P1 hb1
    have hE := HE.out ()
    go_wp2_with fail
    go_ret
    refine ⟨rfl, ?_⟩
    have hbz := hb2
    go_grown
  · have hE := eq_end (fresh_b a0 a2 a1 hc)
    have hc0 : a1.toList.isEmpty = false := by rw [Lib.toList_data]; cases h : a1.data.toList with | nil => exact absurd h hc | cons _ _ => rfl
    have p1 := fun W bl hm k4 => app_empty a0 a1 a2 a7 bl m W (by omega) (by omega) (by omega) hm k4 h7
    obtain ⟨F, hF⟩ : ∃ F, F = freshL a0.data.toList a1.data.toList a2.data.toList := ⟨_, rfl⟩
    rw [← hF] at p1 hE
    clear hF hc
    have HE : Hid (Unit → _) := fun _ => hE
    clear hE
    have P1 : Hid (Unit → _) := fun _ => p1
    clear p1
    go_enter Tryd.func3, Tryd.ntmps3
    go_wp2_with fail
    refine (bytes9_any _ _ _ _ _ _ _ _ _ _ (by omega) (by omega) (by omega) (by omega) (by omega) (by omega)).mono ?_
    rintro e w' ⟨⟨y, rfl⟩, rfl⟩
    cases y
    · go_wp2_with fail
      go_ret
      exact ⟨rfl, Below.refl _ _⟩
    go_wp2_with fail
    refine (P1.out () _ _ ?_ ?_).mono ?_
    · exact cell_later (by go_grown) hm
    · go_cell
    rintro e w1 ⟨rfl, hb1⟩
    have hz1 := hb1.size
    simp only [World.size_alloc] at hz1
    have hb2 : Below w'.heap.size w' w1 := Below.trans (by go_grown) (hb1.mono (by simp only [World.size_alloc]; omega))
    clear P1 hb1
    have hE := HE.out ()
    go_wp2_with fail
    go_ret
    refine ⟨rfl, ?_⟩
    have hbz := hb2
    go_grown

set_option maxRecDepth 100000 in
set_option maxHeartbeats 4000000 in
theorem law_like (a0 a1 a2 a4 a5 a7 : ByteArray) (a6 : Int) (ol : Nat) (m : Int) (w : World) (l0 : a0.size ≤ 65536) (l1 : a1.size ≤ 65536) (l2 : a2.size ≤ 65536) (l4 : a4.size ≤ 65536) (l5 : a5.size ≤ 65536) (l7 : a7.size ≤ 65536) (hm : w.cell? ⟨0, 0, none⟩ = some (.int .i64 m)) (h7 : a7.toList.isEmpty = false) (hol : ol + 1 ≤ a7.size) :
    Calls Tryd.prog 3 #[.string a0, .string a1, .string a2, .bool false, .string a4, .string a5, .int .i64 a6, .string a7, .int .i64 ol] w fun e w' => e = .returned (.bool true) ∧ Below w.heap.size w w' := by
  have hlt : 0 < w.heap.size := World.block_lt_of_cell? _ _ hm
  have hsz : (a7.extract ol (a7.size - 1)).size ≤ 65536 := by rw [ByteArray.size_extract]; omega
  have p7 := fun W => copied_any (a7.extract ol (a7.size - 1)) W (by omega)
  have p1 := fun W bl hm k0 k2 k3 k4 k5 => app_like a0 a1 a2 a4 a5 a7 a6 ol bl m W (by omega) (by omega) (by omega) (by omega) (by omega) hol hm k0 k2 k3 k4 k5
  have hml : (B (modelL (a7.extract ol (a7.size - 1)).data.toList)).size ≤ 1000000 := by
    rw [B_size]; exact Nat.le_trans (modelL_le _) (by rw [← Lib.size_eq]; omega)
  obtain ⟨bd, hbd⟩ : ∃ bd, bd = modelL (a7.extract ol (a7.size - 1)).data.toList := ⟨_, rfl⟩
  rw [← hbd] at p7 p1 hml
  clear hbd
  by_cases hc : a1.data.toList = []
  · have hf := fresh_a a0 a2 a1 hc
    have hc0 : a1.toList.isEmpty = true := by rw [Lib.toList_data, hc]; rfl
    obtain ⟨F, hF⟩ : ∃ F, F = freshL a0.data.toList a1.data.toList a2.data.toList := ⟨_, rfl⟩
    rw [← hF] at p1 hf
    clear hF hc
    have HF : Hid (Unit → _) := fun _ => hf
    have P1 : Hid (Unit → _) := fun _ => p1
    have P7 : Hid (Unit → _) := fun _ => p7
    clear hf p1 p7
    go_enter Tryd.func3, Tryd.ntmps3
    go_wp2_with fail
    refine (bytes9_any _ _ _ _ _ _ _ _ _ _ (by omega) (by omega) (by omega) (by omega) (by omega) (by omega)).mono ?_
    rintro e w' ⟨⟨y, rfl⟩, rfl⟩
    cases y
    · go_wp2_with fail
      go_ret
      exact ⟨rfl, Below.refl _ _⟩
    go_wp2_with fail
    refine (P1.out () _ _ ?_ ?_ ?_ ?_ ?_ ?_).mono ?_
    · exact cell_later (by go_grown) hm
    · go_cell
    · go_cell
    · go_cell
    · go_cell
    · go_cell
    rintro e w1 ⟨rfl, hb1⟩
    have hz1 := hb1.size
    simp only [World.size_alloc] at hz1
    have hb2 : Below w'.heap.size w' w1 := Below.trans (by go_grown) (hb1.mono (by simp only [World.size_alloc]; omega))
    clear P1 hb1
    cases hmo : moreB bd
    · simp only [Bool.false_eq_true, if_false]
      go_wp2_with fail
      refine (P7.out () _).mono ?_
      clear P7
      rintro e w2 ⟨rfl, hb3⟩
      rw [hmo]
      obtain ⟨c3, f3⟩ := bcell hb3
      have hz3 := hb3.size
      simp only [World.size_alloc] at c3 hz3
      have u0 := (c3 w1.heap.size 0 (by omega)).trans (show _ = some (.string ⟨#[]⟩) by go_cell)
      have u1 := (c3 w1.heap.size 1 (by omega)).trans (show _ = some (.int .i64 0) by go_cell)
      have u2 := (c3 w1.heap.size 2 (by omega)).trans (show _ = some (.string (B F)) by go_cell)
      have u3 := (c3 w1.heap.size 3 (by omega)).trans (show _ = some (.int .i64 (12 + a0.size + 2)) by go_cell)
      have hb4 : Below w'.heap.size w' w2 := hb2.trans (Below.trans (by go_grown) (hb3.mono (by simp only [World.size_alloc]; omega)))
      clear c3 f3 hb3
      have hE := eq_end (HF.out ())
      go_wp2_with fail
      go_ret
      exact ⟨rfl, hb4⟩
    · simp only [if_true]
      obtain ⟨F2, hF2⟩ : ∃ F2, F2 = F.dropLast ++ commentL a4.data.toList ++ bd ++ [125] := ⟨_, rfl⟩
      rw [← hF2]
      have HF2 : Hid (Unit → _) := fun _ => hF2
      clear hF2
      go_wp2_with fail
      refine (P7.out () _).mono ?_
      clear P7
      rintro e w2 ⟨rfl, hb3⟩
      rw [hmo]
      obtain ⟨c3, f3⟩ := bcell hb3
      have hz3 := hb3.size
      simp only [World.size_alloc] at c3 hz3
      have u0 := (c3 w1.heap.size 0 (by omega)).trans (show _ = some (.string ⟨#[]⟩) by go_cell)
      have u1 := (c3 w1.heap.size 1 (by omega)).trans (show _ = some (.int .i64 0) by go_cell)
      have u2 := (c3 w1.heap.size 2 (by omega)).trans (show _ = some (.string (B F2)) by go_cell)
      have u3 := (c3 w1.heap.size 3 (by omega)).trans (show _ = some (.int .i64 (12 + a0.size + 2)) by go_cell)
      have hb4 : Below w'.heap.size w' w2 := hb2.trans (Below.trans (by go_grown) (hb3.mono (by simp only [World.size_alloc]; omega)))
      clear c3 f3 hb3
      have hE := eq_more (bd := bd) a4 (HF.out ()) rfl
      rw [← HF2.out ()] at hE
      go_wp2_with fail
      go_ret
      exact ⟨rfl, hb4⟩
  · have hf := fresh_b a0 a2 a1 hc
    have hc0 : a1.toList.isEmpty = false := by rw [Lib.toList_data]; cases h : a1.data.toList with | nil => exact absurd h hc | cons _ _ => rfl
    obtain ⟨F, hF⟩ : ∃ F, F = freshL a0.data.toList a1.data.toList a2.data.toList := ⟨_, rfl⟩
    rw [← hF] at p1 hf
    clear hF hc
    have HF : Hid (Unit → _) := fun _ => hf
    have P1 : Hid (Unit → _) := fun _ => p1
    have P7 : Hid (Unit → _) := fun _ => p7
    clear hf p1 p7
    go_enter Tryd.func3, Tryd.ntmps3
    go_wp2_with fail
    refine (bytes9_any _ _ _ _ _ _ _ _ _ _ (by omega) (by omega) (by omega) (by omega) (by omega) (by omega)).mono ?_
    rintro e w' ⟨⟨y, rfl⟩, rfl⟩
    cases y
    · go_wp2_with fail
      go_ret
      exact ⟨rfl, Below.refl _ _⟩
    go_wp2_with fail
    refine (P1.out () _ _ ?_ ?_ ?_ ?_ ?_ ?_).mono ?_
    · exact cell_later (by go_grown) hm
    · go_cell
    · go_cell
    · go_cell
    · go_cell
    · go_cell
    rintro e w1 ⟨rfl, hb1⟩
    have hz1 := hb1.size
    simp only [World.size_alloc] at hz1
    have hb2 : Below w'.heap.size w' w1 := Below.trans (by go_grown) (hb1.mono (by simp only [World.size_alloc]; omega))
    clear P1 hb1
    cases hmo : moreB bd
    · simp only [Bool.false_eq_true, if_false]
      go_wp2_with fail
      refine (P7.out () _).mono ?_
      clear P7
      rintro e w2 ⟨rfl, hb3⟩
      rw [hmo]
      obtain ⟨c3, f3⟩ := bcell hb3
      have hz3 := hb3.size
      simp only [World.size_alloc] at c3 hz3
      have u0 := (c3 w1.heap.size 0 (by omega)).trans (show _ = some (.string ⟨#[]⟩) by go_cell)
      have u1 := (c3 w1.heap.size 1 (by omega)).trans (show _ = some (.int .i64 0) by go_cell)
      have u2 := (c3 w1.heap.size 2 (by omega)).trans (show _ = some (.string (B F)) by go_cell)
      have u3 := (c3 w1.heap.size 3 (by omega)).trans (show _ = some (.int .i64 (12 + a0.size + 2)) by go_cell)
      have hb4 : Below w'.heap.size w' w2 := hb2.trans (Below.trans (by go_grown) (hb3.mono (by simp only [World.size_alloc]; omega)))
      clear c3 f3 hb3
      have hE := eq_end (HF.out ())
      go_wp2_with fail
      go_ret
      exact ⟨rfl, hb4⟩
    · simp only [if_true]
      obtain ⟨F2, hF2⟩ : ∃ F2, F2 = F.dropLast ++ commentL a4.data.toList ++ bd ++ [125] := ⟨_, rfl⟩
      rw [← hF2]
      have HF2 : Hid (Unit → _) := fun _ => hF2
      clear hF2
      go_wp2_with fail
      refine (P7.out () _).mono ?_
      clear P7
      rintro e w2 ⟨rfl, hb3⟩
      rw [hmo]
      obtain ⟨c3, f3⟩ := bcell hb3
      have hz3 := hb3.size
      simp only [World.size_alloc] at c3 hz3
      have u0 := (c3 w1.heap.size 0 (by omega)).trans (show _ = some (.string ⟨#[]⟩) by go_cell)
      have u1 := (c3 w1.heap.size 1 (by omega)).trans (show _ = some (.int .i64 0) by go_cell)
      have u2 := (c3 w1.heap.size 2 (by omega)).trans (show _ = some (.string (B F2)) by go_cell)
      have u3 := (c3 w1.heap.size 3 (by omega)).trans (show _ = some (.int .i64 (12 + a0.size + 2)) by go_cell)
      have hb4 : Below w'.heap.size w' w2 := hb2.trans (Below.trans (by go_grown) (hb3.mono (by simp only [World.size_alloc]; omega)))
      clear c3 f3 hb3
      have hE := eq_more (bd := bd) a4 (HF.out ()) rfl
      rw [← HF2.out ()] at hE
      go_wp2_with fail
      go_ret
      exact ⟨rfl, hb4⟩

set_option maxRecDepth 100000 in
set_option maxHeartbeats 4000000 in
/-- Where a guard of the law's own turns the input away. -/
theorem law_out (a0 a1 a2 a4 a5 a7 : ByteArray) (a3 : Bool) (a6 a8 : Int) (w : World) (l0 : a0.size ≤ 9223372036854775807) (l1 : a1.size ≤ 9223372036854775807) (l2 : a2.size ≤ 9223372036854775807) (l4 : a4.size ≤ 9223372036854775807) (l5 : a5.size ≤ 9223372036854775807) (l7 : a7.size ≤ 9223372036854775807)
    (h : 65536 < a0.size ∨ (a0.size ≤ 65536 ∧ (65536 < a1.size ∨ (a1.size ≤ 65536 ∧ (65536 < a2.size ∨ (a2.size ≤ 65536 ∧ (65536 < a4.size ∨ (a4.size ≤ 65536 ∧ (65536 < a5.size ∨ (a5.size ≤ 65536 ∧ 65536 < a7.size)))))))))) :
    Calls Tryd.prog 3 #[.string a0, .string a1, .string a2, .bool a3, .string a4, .string a5, .int .i64 a6, .string a7, .int .i64 a8] w fun e w' => e = .returned (.bool true) ∧ Below w.heap.size w w' := by
  rcases h with h | ⟨h0, h | ⟨h1, h | ⟨h2, h | ⟨h4, h | ⟨h5, h⟩⟩⟩⟩⟩
  all_goals
    go_enter Tryd.func3, Tryd.ntmps3
    go_wp2_with fail
    refine (bytes9_any _ _ _ _ _ _ _ _ _ _ l0 l1 l2 l4 l5 l7).mono ?_
    rintro e w' ⟨⟨y, rfl⟩, rfl⟩
    cases y
    all_goals
      go_wp2_with fail
      go_ret
      exact ⟨rfl, Below.refl _ _⟩

set_option maxRecDepth 100000 in
set_option maxHeartbeats 4000000 in
/-- Where like's opening brace is said to lie outside its text. -/
theorem law_open (a0 a1 a2 a4 a5 a7 : ByteArray) (a6 a8 : Int) (w : World) (l0 : a0.size ≤ 65536) (l1 : a1.size ≤ 65536) (l2 : a2.size ≤ 65536) (l4 : a4.size ≤ 65536) (l5 : a5.size ≤ 65536) (l7 : a7.size ≤ 65536) (h7 : a7.toList.isEmpty = false) (h8 : a8 < 0 ∨ (0 ≤ a8 ∧ (a7.size : Int) - 1 < a8)) :
    Calls Tryd.prog 3 #[.string a0, .string a1, .string a2, .bool false, .string a4, .string a5, .int .i64 a6, .string a7, .int .i64 a8] w fun e w' => e = .returned (.bool true) ∧ Below w.heap.size w w' := by
  rcases h8 with h8 | ⟨h80, h8⟩
  · have hd : decide (a8 < 0) = true := by simpa using h8
    go_enter Tryd.func3, Tryd.ntmps3
    go_wp2_with fail
    refine (bytes9_any _ _ _ _ _ _ _ _ _ _ (by omega) (by omega) (by omega) (by omega) (by omega) (by omega)).mono ?_
    rintro e w' ⟨⟨y, rfl⟩, rfl⟩
    cases y
    all_goals
      go_wp2_with fail
      go_ret
      exact ⟨rfl, Below.refl _ _⟩
  · have hd : decide (a8 < 0) = false := by simpa using h80
    go_enter Tryd.func3, Tryd.ntmps3
    go_wp2_with fail
    refine (bytes9_any _ _ _ _ _ _ _ _ _ _ (by omega) (by omega) (by omega) (by omega) (by omega) (by omega)).mono ?_
    rintro e w' ⟨⟨y, rfl⟩, rfl⟩
    cases y
    all_goals
      go_wp2_with fail
      go_ret
      exact ⟨rfl, Below.refl _ _⟩

theorem walk : Walked := by
  intro a0 a1 a2 a3 a4 a5 a6 a7 a8 w hsh l0 l1 l2 l4 l5 _ l7 _
  unfold maxLen at l0 l1 l2 l4 l5 l7
  obtain ⟨m, hm⟩ : ∃ m, w.cell? ⟨0, 0, none⟩ = some (.int .i64 m) := cell_of_shapedOpen_int (P := Tryd.prog) (g := 0) (t := 3) (zero := #[.int .i64 0]) hsh (of_decide_eq_true (by kernel_rfl)) (by kernel_rfl) rfl (by kernel_rfl) (by kernel_rfl) Tryd.underlying3
  by_cases hin : a0.size ≤ 65536 ∧ a1.size ≤ 65536 ∧ a2.size ≤ 65536 ∧ a4.size ≤ 65536 ∧ a5.size ≤ 65536 ∧ a7.size ≤ 65536
  · obtain ⟨k0, k1, k2, k4, k5, k7⟩ := hin
    cases a3
    · cases h7 : a7.toList.isEmpty
      · by_cases h8 : a8 < 0 ∨ (0 ≤ a8 ∧ (a7.size : Int) - 1 < a8)
        · exact law_open a0 a1 a2 a4 a5 a7 a6 a8 w k0 k1 k2 k4 k5 k7 h7 h8
        · obtain ⟨ol, rfl⟩ : ∃ ol : Nat, a8 = ol := ⟨a8.toNat, by omega⟩
          exact law_like a0 a1 a2 a4 a5 a7 a6 ol m w k0 k1 k2 k4 k5 k7 hm h7 (by omega)
      · exact law_empty a0 a1 a2 a4 a5 a7 a6 a8 m w k0 k1 k2 k4 k5 k7 hm h7
    · exact law_nil a0 a1 a2 a4 a5 a7 a6 a8 m w k0 k1 k2 k4 k5 k7 hm
  · exact law_out a0 a1 a2 a4 a5 a7 a3 a6 a8 w l0 l1 l2 l4 l5 l7 (by omega)
end Go.Proofs.Qxb6603042aDoor.exact
namespace Go.Proofs.Qxb6603042aDoor
/-- THE STATEMENT. -/
theorem exactTextProved : Rows.FnNewApplicationExactTextCardSaid := exact.card_holds exact.walk
end Go.Proofs.Qxb6603042aDoor
