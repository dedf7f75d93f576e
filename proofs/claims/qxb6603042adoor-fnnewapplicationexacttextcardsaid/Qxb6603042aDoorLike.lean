import Derived.Test.Qxb6603042aDoorApp
namespace Go.Proofs.Qxb6603042aDoor
open Go.RowKit Pl

set_option maxHeartbeats 4000000 in
theorem app_like_a (name c x nm fl tl : ByteArray) (ln : Int) (ol bl : Nat) (m : Int) (w : World) (hn : name.size ≤ 4000000) (hc : c.size ≤ 4000000) (hx : x.size ≤ 4000000) (hnm : nm.size ≤ 4000000) (htl : tl.size ≤ 4000000) (hol : ol + 1 ≤ tl.size)
    (hm : w.cell? ⟨0, 0, none⟩ = some (.int .i64 m)) (k0 : w.cell? ⟨bl, 0, none⟩ = some (.string nm)) (k2 : w.cell? ⟨bl, 2, none⟩ = some (.string fl)) (k3 : w.cell? ⟨bl, 3, none⟩ = some (.int .i64 ln)) (k4 : w.cell? ⟨bl, 4, none⟩ = some (.string tl)) (k5 : w.cell? ⟨bl, 5, none⟩ = some (.int .i64 ol))
    (x0 : List UInt8) (r : List (List UInt8)) (hsp : splitL 10 (Lib.trimRightS (tl.extract ol (tl.size - 1)).data.toList [32, 9, 13]) = x0 :: r) (hx0 : Lib.trimS x0 [32, 9, 13] = []) :
    Calls Tryd.prog 6 #[.string name, .agg #[.string c, .string x], .pointer (some ⟨bl, 0, none⟩)] w fun e w' =>
      e = .returned (.agg #[.string ⟨#[]⟩, .int .i64 0, .string (B (appL (freshL name.data.toList c.data.toList x.data.toList) nm.data.toList (copyL (tl.extract ol (tl.size - 1)).data.toList))), .int .i64 (12 + name.size + 2)]) ∧ Below w.heap.size w w' := by
  have hlt : 0 < w.heap.size := World.block_lt_of_cell? _ _ hm
  have hbl : bl < w.heap.size := World.block_lt_of_cell? _ _ k0
  have ht0 : tl.toList.isEmpty = false := by
    rw [Lib.toList_data]
    cases h : tl.data.toList with
    | nil => rw [Lib.size_eq, h] at hol; simp at hol
    | cons _ _ => rfl
  have HM : Hid _ := hm; have HK0 : Hid _ := k0; have HK2 : Hid _ := k2; have HK3 : Hid _ := k3; have HK4 : Hid _ := k4; have HK5 : Hid _ := k5
  clear hm k0 k2 k3 k4 k5
  have HSP : Hid (Unit → _) := fun _ => hsp
  have HX0 : Hid (Unit → _) := fun _ => hx0
  clear hsp hx0
  go_enter Tryd.func6, Tryd.ntmps6
  go_wp2_with fail
  refine (extended_fresh name c x _ _ _ m _ (by rw [app_data, app_data]; rfl) hn hc hx (by omega) ?_ ?_ ?_).mono ?_
  · have hm := HM.out; go_cell
  · go_cell
  · go_cell
  rintro e w1 ⟨rfl, hb1⟩
  obtain ⟨hcl, hfz⟩ := bcell hb1
  have hz := hb1.size
  simp only [World.size_alloc] at hz hcl hfz
  have hb0 : Below w.heap.size w w1 := by
    refine Below.trans ?_ (hb1.mono (by simp only [World.size_alloc]; omega))
    go_grown
  clear hb1
  have kk2 := cell_later hb0 HK2.out; have kk3 := cell_later hb0 HK3.out; have kk4 := cell_later hb0 HK4.out; have kk5 := cell_later hb0 HK5.out
  go_wp2_with fail
  obtain ⟨F, hF⟩ : ∃ F, F = freshL name.data.toList c.data.toList x.data.toList := ⟨_, rfl⟩
  rw [← hF]
  have hFl : F.length ≤ 20000000 := by
    have e1 := Lib.size_eq name; have e2 := Lib.size_eq c; have e3 := Lib.size_eq x
    rw [hF, freshL, stmtsL, headL]
    split <;> simp <;> omega
  have hF1 : 1 ≤ (B F).size := by rw [B_size, hF, freshL]; simp; omega
  have hF2 : (B F).size ≤ 20000000 := by rw [B_size]; exact hFl
  have HF : Hid (Unit → _) := fun _ => hF
  clear hF hFl
  obtain ⟨W2, hW2⟩ : ∃ W2, W2 = ((w1.setCell ⟨w.heap.size + 1 + 1, 2, Option.none⟩ (.string (B F))).alloc (.cells #[.string fl, .int .i64 ln, .string tl, .int .i64 ol] 27)) := ⟨_, rfl⟩
  rw [← hW2]
  have hz2 : W2.heap.size = w1.heap.size + 1 := by rw [hW2]; simp
  have hbW : Below w.heap.size w W2 := by rw [hW2]; go_grown
  have b0 := (hcl (w.heap.size + 1 + 1) 0 (by omega)).trans (show _ = some (.string ⟨#[]⟩) by go_cell)
  have b1 := (hcl (w.heap.size + 1 + 1) 1 (by omega)).trans (show _ = some (.int .i64 0) by go_cell)
  have b2 := (hcl (w.heap.size + 1 + 1) 2 (by omega)).trans (show _ = some (.string (⟨#[97, 112, 112, 108, 105, 99, 97, 116, 105, 111, 110, 32]⟩ ++ name ++ ⟨#[10, 123]⟩ ++ ⟨#[10, 125]⟩)) by go_cell)
  have b3 := (hcl (w.heap.size + 1 + 1) 3 (by omega)).trans (show _ = some (.int .i64 (12 + name.size + 2)) by go_cell)
  have s0 : W2.cell? ⟨w.heap.size + 1 + 1, 0, Option.none⟩ = some (.string ⟨#[]⟩) := by
    rw [hW2, World.cell?_alloc_old _ _ _ (by show w.heap.size + 1 + 1 ≠ _; simp only [World.size_setCell]; omega)]; go_cell
  have s1 : W2.cell? ⟨w.heap.size + 1 + 1, 1, Option.none⟩ = some (.int .i64 0) := by
    rw [hW2, World.cell?_alloc_old _ _ _ (by show w.heap.size + 1 + 1 ≠ _; simp only [World.size_setCell]; omega)]; go_cell
  have s2 : W2.cell? ⟨w.heap.size + 1 + 1, 2, Option.none⟩ = some (.string (B F)) := by
    rw [hW2, World.cell?_alloc_old _ _ _ (by show w.heap.size + 1 + 1 ≠ _; simp only [World.size_setCell]; omega)]; go_cell
  have s3 : W2.cell? ⟨w.heap.size + 1 + 1, 3, Option.none⟩ = some (.int .i64 (12 + name.size + 2)) := by
    rw [hW2, World.cell?_alloc_old _ _ _ (by show w.heap.size + 1 + 1 ≠ _; simp only [World.size_setCell]; omega)]; go_cell
  have f0 : ∀ i, W2.frozen? ⟨w.heap.size + 1 + 1, i, Option.none⟩ = false := fun i => by
    rw [hW2, frozen?_alloc_cells, World.frozen?_setCell, hfz _ _ (by omega), frozen?_alloc_cells]
    exact World.frozen?_alloc_at (hn := by simp) ..
  have f1 : ∀ i, W2.frozen? ⟨w.heap.size + 1, i, Option.none⟩ = false := fun i => by
    rw [hW2, frozen?_alloc_cells, World.frozen?_setCell, hfz _ _ (by omega), frozen?_alloc_cells, frozen?_alloc_cells]
    exact World.frozen?_alloc_at (hn := by simp) ..
  have q0 := (hcl (w.heap.size + 1) 0 (by omega)).trans (show _ = some (.string ⟨#[]⟩) by go_cell)
  have q1 := (hcl (w.heap.size + 1) 1 (by omega)).trans (show _ = some (.int .i64 0) by go_cell)
  have q2 := (hcl (w.heap.size + 1) 2 (by omega)).trans (show _ = some (.string ⟨#[]⟩) by go_cell)
  have q3 := (hcl (w.heap.size + 1) 3 (by omega)).trans (show _ = some (.int .i64 0) by go_cell)
  have r0 : W2.cell? ⟨w.heap.size + 1, 0, Option.none⟩ = some (.string ⟨#[]⟩) := by
    rw [hW2, World.cell?_alloc_old _ _ _ (by show w.heap.size + 1 ≠ _; simp only [World.size_setCell]; omega)]; go_cell
  have r1 : W2.cell? ⟨w.heap.size + 1, 1, Option.none⟩ = some (.int .i64 0) := by
    rw [hW2, World.cell?_alloc_old _ _ _ (by show w.heap.size + 1 ≠ _; simp only [World.size_setCell]; omega)]; go_cell
  have r2 : W2.cell? ⟨w.heap.size + 1, 2, Option.none⟩ = some (.string ⟨#[]⟩) := by
    rw [hW2, World.cell?_alloc_old _ _ _ (by show w.heap.size + 1 ≠ _; simp only [World.size_setCell]; omega)]; go_cell
  have r3 : W2.cell? ⟨w.heap.size + 1, 3, Option.none⟩ = some (.int .i64 0) := by
    rw [hW2, World.cell?_alloc_old _ _ _ (by show w.heap.size + 1 ≠ _; simp only [World.size_setCell]; omega)]; go_cell
  clear b0 b1 b2 b3 q0 q1 q2 q3 hcl hfz kk2 kk3 kk4 kk5 hb0
  clear hW2
  have HS0 : Hid _ := s0; have HS1 : Hid _ := s1; have HS2 : Hid _ := s2; have HS3 : Hid _ := s3; have HF0 : Hid _ := f0; have HF1 : Hid _ := f1
  have HR0 : Hid _ := r0; have HR1 : Hid _ := r1; have HR2 : Hid _ := r2; have HR3 : Hid _ := r3
  clear s0 s1 s2 s3 f0 f1 r0 r1 r2 r3
  have hisz : (tl.extract ol (tl.size - 1)).size ≤ 4000000 := by rw [ByteArray.size_extract]; omega
  refine (trimRight_c _ _ (by omega)).mono ?_
  rintro e w3 ⟨rfl, hb3⟩
  have hz3 := hb3.size
  have htr := trimRightS_le (tl.extract ol (tl.size - 1)).data.toList [32, 9, 13]
  rw [← Lib.size_eq] at htr
  have hsl := splitL_pieces_le 10 (Lib.trimRightS (tl.extract ol (tl.size - 1)).data.toList [32, 9, 13])
  have hpl := splitL_piece 10 (Lib.trimRightS (tl.extract ol (tl.size - 1)).data.toList [32, 9, 13])
  rw [HSP.out ()] at hsl hpl
  have hcp : copyLines (tl.extract ol (tl.size - 1)).data.toList = r := by
    rw [copyLines, HSP.out ()]; simp [HX0.out ()]
  have hspl := split_c (B (Lib.trimRightS (tl.extract ol (tl.size - 1)).data.toList [32, 9, 13])) 10 m w3 (by rw [B_size]; omega) (cell_later (hbW.trans (hb3.mono (by omega))) HM.out)
  rw [B_data, HSP.out ()] at hspl
  have hjt := joinTail_le 10 _ _ _ (HSP.out ())
  generalize Lib.trimRightS (tl.extract ol (tl.size - 1)).data.toList [32, 9, 13] = tr at *
  have HCP : Hid (Unit → _) := fun _ => hcp
  clear hcp
  have hx0l := hpl x0 (by simp)
  clear hpl
  go_wp2_with fail
  refine hspl.mono ?_
  clear hspl
  rintro e w4 ⟨rfl, hw4⟩
  have hz4 : w4.heap.size = w3.heap.size + 1 := by rw [hw4]; simp
  have hb4 : Below w3.heap.size w3 w4 := by rw [hw4]; go_grown
  have hp : ∀ (j : Nat) y, ((x0 :: r).map B)[j]? = some y → w4.cell? ⟨w3.heap.size, j, none⟩ = some (.string y) := by rw [hw4]; exact Lib.pieces_cell_at _ _ _
  have hpf : ∀ j, w4.frozen? ⟨w3.heap.size, j, none⟩ = false := by rw [hw4]; exact Lib.pieces_frozen _ _ _
  clear hw4
  have hp0 : w4.cell? ⟨w3.heap.size, 0, none⟩ = some (.string (B x0)) := hp 0 _ rfl
  have hrl : r.length ≤ 4000000 := by rw [List.length_cons] at hsl; omega
  have hk4 : Below W2.heap.size W2 w4 := hb3.trans (hb4.mono hz3)
  have HP : Hid _ := hp; clear hp
  go_wp2_with fail
  clear hp0
  refine (trim_c _ _ (by rw [B_size]; omega)).mono ?_
  rintro e w5 ⟨rfl, hb5⟩
  have hz5 := hb5.size
  have hp5 : w5.cell? ⟨w3.heap.size, 0, none⟩ = some (.string (B x0)) := (hb5.cell (p := ⟨w3.heap.size, 0, none⟩) (by show w3.heap.size < _; omega)).trans (HP.out 0 _ rfl)
  have hf5 : w5.frozen? ⟨w3.heap.size, 0, none⟩ = false := (hb5.frozen (p := ⟨w3.heap.size, 0, none⟩) (by show w3.heap.size < _; omega)).trans (hpf 0)
  rw [B_data, HX0.out ()]
  have hE : (B []).toList.isEmpty = true := isEmpty_B []
  have hk5 : Below W2.heap.size W2 (w5.setCell ⟨w3.heap.size, 0, none⟩ (.string (B []))) := (hk4.trans (hb5.mono (by omega))).setCell (by show W2.heap.size ≤ w3.heap.size; omega) _
  have hPr : ∀ (j : Nat) y, (r.map B)[j]? = some y → (w5.setCell ⟨w3.heap.size, 0, none⟩ (.string (B []))).cell? ⟨w3.heap.size, 1 + j, none⟩ = some (.string y) := fun j y h => by
    rw [World.cell?_setCell_other _ _ _ _ (by intro e; simp at e)]
    rw [hb5.cell (p := ⟨w3.heap.size, 1 + j, none⟩) (by show w3.heap.size < _; omega)]
    exact HP.out (1 + j) y (by rw [Nat.add_comm 1 j]; simpa using h)
  have HK5 : Hid _ := hk5; have HPr : Hid _ := hPr
  clear hk5 hPr
  have hjl := join_le_tail 10 r
  obtain ⟨J, hJ⟩ : ∃ J, J = Lib.join r [10] := ⟨_, rfl⟩
  have hJl : J.length ≤ 4000000 := by rw [hJ]; omega
  have HJ : Hid (Unit → _) := fun _ => hJ
  clear hJ
  have hst : Calls Tryd.prog 16 #[if r = [] then .slice (some ⟨w3.heap.size, 0, none⟩) 0 0 else .slice (some ⟨w3.heap.size, 1, none⟩) r.length r.length, .string ⟨#[10]⟩] (w5.setCell ⟨w3.heap.size, 0, none⟩ (.string (B []))) fun e w' => e = .returned (.string (B J)) ∧ Below (w5.setCell ⟨w3.heap.size, 0, none⟩ (.string (B []))).heap.size (w5.setCell ⟨w3.heap.size, 0, none⟩ (.string (B []))) w' := by
    by_cases hr : r = []
    · rw [if_pos hr]
      refine (join0_c _ _ _).mono ?_
      rintro e w' ⟨rfl, rfl⟩
      refine ⟨ret_string ?_, Below.refl _ _⟩
      rw [HJ.out (), hr]; rfl
    · rw [if_neg hr]
      have hj := join_c w3.heap.size 1 r.length (r.map B) (w5.setCell ⟨w3.heap.size, 0, none⟩ (.string (B []))) HPr.out (by simp; omega) (by simp; omega) (by simp)
        (by rw [List.map_map, show ((fun x => x.data.toList) ∘ B) = id from rfl, List.map_id]; omega)
      rw [List.map_map, show ((fun x => x.data.toList) ∘ B) = id from rfl, List.map_id, List.length_map, ← HJ.out ()] at hj
      exact hj
  clear HPr hjl hjt HP
  by_cases hr : r = []
  all_goals
    first
      | rw [if_pos hr] at hst; subst hr
      | rw [if_neg hr] at hst
    go_wp2_with fail
    refine hst.mono ?_
    clear hst
    rintro e w6 ⟨rfl, hb6⟩
    have hz6 := hb6.size
    simp only [World.size_setCell] at hz6
    have hk6 := HK5.out.trans (hb6.mono (by simp only [World.size_setCell]; omega))
    clear hb6 hp5 hf5 hE hk4 hb3 hb4 hb5
    go_wp2_with fail
    refine (trimSuffix_c _ _ (by rw [B_size]; omega)).mono ?_
    rintro e w7 ⟨rfl, rfl⟩
    obtain ⟨S, hS⟩ : ∃ S, S = Lib.trimSuffix J [10] := ⟨_, rfl⟩
    rw [B_data, ← hS]
    have hSl : (B S).size ≤ 4000000 := by rw [B_size, hS]; exact Nat.le_trans (trimSuffix_le _ _) hJl
    have HB : Hid (Unit → copyL (tl.extract ol (tl.size - 1)).data.toList = (B S ++ ⟨#[10]⟩ : ByteArray).data.toList) := by
      intro _
      rw [copyL, HCP.out (), app_data, B_data, hS, HJ.out ()]
    clear hS HSP HCP HJ
    have h10 : (B S ++ ⟨#[10]⟩ : ByteArray).size = (B S).size + 1 := by rw [app_size]; rfl
    have ht4 := fun W => trim4_c (B S ++ ⟨#[10]⟩) W (by omega)
    clear h10
    go_wp2_with fail
    refine (ht4 _).mono ?_
    clear ht4
    rintro e w8 ⟨rfl, hb8⟩
    have hz8 := hb8.size
    have hk8 := hk6.trans (hb8.mono (by omega))
    clear hb8 hk6
    have c1 := fun W (h : Below W2.heap.size W2 W) => (bcell h).1
    have e0 := (c1 _ hk8 _ 0 (by omega)).trans HS0.out
    have e1 := (c1 _ hk8 _ 1 (by omega)).trans HS1.out
    have e2 := (c1 _ hk8 _ 2 (by omega)).trans HS2.out
    have e3 := (c1 _ hk8 _ 3 (by omega)).trans HS3.out
    have g0 := (c1 _ hk8 _ 0 (by omega)).trans HR0.out
    have g1 := (c1 _ hk8 _ 1 (by omega)).trans HR1.out
    have g2 := (c1 _ hk8 _ 2 (by omega)).trans HR2.out
    have g3 := (c1 _ hk8 _ 3 (by omega)).trans HR3.out
    have j0 : ∀ i, w8.frozen? ⟨w.heap.size + 1 + 1, i, none⟩ = false := fun i => ((bcell hk8).2 _ i (by omega)).trans (HF0.out i)
    have j1 : ∀ i, w8.frozen? ⟨w.heap.size + 1, i, none⟩ = false := fun i => ((bcell hk8).2 _ i (by omega)).trans (HF1.out i)
    have n0 := cell_later (hbW.trans (hk8.mono (by omega))) HK0.out
    clear c1
    obtain ⟨T, hT⟩ : ∃ T, T = Lib.trimS (B S ++ ⟨#[10]⟩ : ByteArray).data.toList [32, 9, 13, 10] := ⟨_, rfl⟩
    rw [← hT]
    have HT : Hid (Unit → _) := fun _ => hT
    clear hT
    by_cases hT1 : T = []
    · have hT0 : (B T).toList.isEmpty = true := by rw [isEmpty_B, hT1]; rfl
      have HT1 : Hid (Unit → _) := fun _ => hT1
      clear hT1
      go_wp2_with fail
      refine bodyPost_ret (v := .agg #[.string ⟨#[]⟩, .int .i64 0, .string (B F), .int .i64 (12 + name.size + 2)]) ?_ rfl ⟨?_, ?_⟩
      · simp [results, Tryd.results6, go_sem, g0, g1, g2, g3]
      · have e : appL (freshL name.data.toList c.data.toList x.data.toList) nm.data.toList (copyL (tl.extract ol (tl.size - 1)).data.toList) = F := by
          rw [appL, HB.out (), ← HT.out (), if_pos (HT1.out ()), HF.out ()]
        rw [e]
      · have := hbW.trans (hk8.mono (by omega))
        go_grown
    · have hT0 : (B T).toList.isEmpty = false := by rw [isEmpty_B]; cases T with | nil => exact absurd rfl hT1 | cons _ _ => rfl
      have HT1 : Hid (Unit → _) := fun _ => hT1
      clear hT1
      go_wp2_with fail
      refine bodyPost_ret (v := .agg #[.string ⟨#[]⟩, .int .i64 0, .string ((B F).extract 0 ((B F).size - 1) ++ (⟨#[32, 32, 32, 32, 35, 32, 84, 104, 101, 32, 115, 116, 97, 116, 101, 109, 101, 110, 116, 115, 32, 111, 102, 32, 97, 112, 112, 108, 105, 99, 97, 116, 105, 111, 110, 32]⟩ ++ nm ++ ⟨#[58, 10]⟩) ++ (B S ++ ⟨#[10]⟩) ++ ⟨#[125]⟩), .int .i64 (12 + name.size + 2)]) ?_ rfl ⟨?_, ?_⟩
      · simp [results, Tryd.results6, go_sem, g0, g1, g2, g3]
      · have e : appL (freshL name.data.toList c.data.toList x.data.toList) nm.data.toList (copyL (tl.extract ol (tl.size - 1)).data.toList) = F.dropLast ++ commentL nm.data.toList ++ (B S ++ ⟨#[10]⟩ : ByteArray).data.toList ++ [125] := by
          rw [appL, HB.out (), ← HT.out (), if_neg (HT1.out ()), HF.out ()]
        rw [e]
        have e4 : ∀ {a b : ByteArray}, a = b → Ending.returned (.agg #[.string ⟨#[]⟩, .int .i64 0, .string a, .int .i64 (12 + name.size + 2)]) = .returned (.agg #[.string ⟨#[]⟩, .int .i64 0, .string b, .int .i64 (12 + name.size + 2)]) := fun h => by rw [h]
        refine e4 (B_eq ?_)
        rw [app_data, app_data, app_data, app_data (_ ++ nm), app_data _ nm, Lib.extract_data, B_data, B_size, List.drop_zero, Nat.sub_zero, List.dropLast_eq_take]
        rfl
      · have := hbW.trans (hk8.mono (by omega))
        go_grown
end Go.Proofs.Qxb6603042aDoor
