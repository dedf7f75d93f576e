import Derived.Test.Qxb6603042aDoorApp
import Derived.Deep.RegionWith
namespace Go.Proofs.Qxb6603042aDoor
open Go.RowKit Pl

set_option maxHeartbeats 4000000 in
theorem app_like_b (name c x nm fl tl : ByteArray) (ln : Int) (ol bl : Nat) (m : Int) (w : World) (hn : name.size ≤ 4000000) (hc : c.size ≤ 4000000) (hx : x.size ≤ 4000000) (hnm : nm.size ≤ 4000000) (htl : tl.size ≤ 4000000) (hol : ol + 1 ≤ tl.size)
    (hm : w.cell? ⟨0, 0, none⟩ = some (.int .i64 m)) (k0 : w.cell? ⟨bl, 0, none⟩ = some (.string nm)) (k2 : w.cell? ⟨bl, 2, none⟩ = some (.string fl)) (k3 : w.cell? ⟨bl, 3, none⟩ = some (.int .i64 ln)) (k4 : w.cell? ⟨bl, 4, none⟩ = some (.string tl)) (k5 : w.cell? ⟨bl, 5, none⟩ = some (.int .i64 ol))
    (x0 : List UInt8) (r : List (List UInt8)) (hsp : splitL 10 (Lib.trimRightS (tl.extract ol (tl.size - 1)).data.toList [32, 9, 13]) = x0 :: r) (hx0 : Lib.trimS x0 [32, 9, 13] ≠ []) :
    Calls Tryd.prog 6 #[.string name, .agg #[.string c, .string x], .pointer (some ⟨bl, 0, none⟩)] w fun e w' =>
      e = .returned (.agg #[.string ⟨#[]⟩, .int .i64 0, .string (B (appL (freshL name.data.toList c.data.toList x.data.toList) nm.data.toList (copyL (tl.extract ol (tl.size - 1)).data.toList))), .int .i64 (12 + name.size + 2)]) ∧ Below w.heap.size w w' := by
  have hlt : 0 < w.heap.size := World.block_lt_of_cell? _ _ hm
  have hbl : bl < w.heap.size := World.block_lt_of_cell? _ _ k0
  have ht0 : tl.toList.isEmpty = false := by
    rw [Lib.toList_data]
    cases h : tl.data.toList with
    | nil => rw [Lib.size_eq, h] at hol; simp at hol
    | cons _ _ => rfl
  have HM : Hid _ := hm; have HK0 : Hid _ := k0; have HK2 : Hid _ := k2; have HK3 : Hid _ := k3; have HK4 : Hid _ := k4; have HK5 : Hid _ := k5
  clear hm k0 k2 k3 k4 k5
  have HSP : Hid (Unit → _) := fun _ => hsp
  have HX0 : Hid (Unit → _) := fun _ => hx0
  clear hsp hx0
  go_enter Tryd.func6, Tryd.ntmps6
  go_wp2_with fail
  refine (extended_fresh name c x _ _ _ m _ (by rw [app_data, app_data]; rfl) hn hc hx (by omega) ?_ ?_ ?_).mono ?_
  · have hm := HM.out; go_cell
  · go_cell
  · go_cell
  rintro e w1 ⟨rfl, hb1⟩
  obtain ⟨hcl, hfz⟩ := bcell hb1
  have hz := hb1.size
  simp only [World.size_alloc] at hz hcl hfz
  have hb0 : Below w.heap.size w w1 := by
    refine Below.trans ?_ (hb1.mono (by simp only [World.size_alloc]; omega))
    go_grown
  clear hb1
  have kk2 := cell_later hb0 HK2.out; have kk3 := cell_later hb0 HK3.out; have kk4 := cell_later hb0 HK4.out; have kk5 := cell_later hb0 HK5.out
  go_wp2_with fail
  obtain ⟨F, hF⟩ : ∃ F, F = freshL name.data.toList c.data.toList x.data.toList := ⟨_, rfl⟩
  rw [← hF]
  have hFl : F.length ≤ 20000000 := by
    have e1 := Lib.size_eq name; have e2 := Lib.size_eq c; have e3 := Lib.size_eq x
    rw [hF, freshL, stmtsL, headL]
    split <;> simp <;> omega
  have hF1 : 1 ≤ (B F).size := by rw [B_size, hF, freshL]; simp; omega
  have hF2 : (B F).size ≤ 20000000 := by rw [B_size]; exact hFl
  have HF : Hid (Unit → _) := fun _ => hF
  clear hF hFl
  obtain ⟨W2, hW2⟩ : ∃ W2, W2 = ((w1.setCell ⟨w.heap.size + 1 + 1, 2, Option.none⟩ (.string (B F))).alloc (.cells #[.string fl, .int .i64 ln, .string tl, .int .i64 ol] 27)) := ⟨_, rfl⟩
  rw [← hW2]
  have hz2 : W2.heap.size = w1.heap.size + 1 := by rw [hW2]; simp
  have hbW : Below w.heap.size w W2 := by rw [hW2]; go_grown
  have b0 := (hcl (w.heap.size + 1 + 1) 0 (by omega)).trans (show _ = some (.string ⟨#[]⟩) by go_cell)
  have b1 := (hcl (w.heap.size + 1 + 1) 1 (by omega)).trans (show _ = some (.int .i64 0) by go_cell)
  have b2 := (hcl (w.heap.size + 1 + 1) 2 (by omega)).trans (show _ = some (.string (⟨#[97, 112, 112, 108, 105, 99, 97, 116, 105, 111, 110, 32]⟩ ++ name ++ ⟨#[10, 123]⟩ ++ ⟨#[10, 125]⟩)) by go_cell)
  have b3 := (hcl (w.heap.size + 1 + 1) 3 (by omega)).trans (show _ = some (.int .i64 (12 + name.size + 2)) by go_cell)
  have s0 : W2.cell? ⟨w.heap.size + 1 + 1, 0, Option.none⟩ = some (.string ⟨#[]⟩) := by
    rw [hW2, World.cell?_alloc_old _ _ _ (by show w.heap.size + 1 + 1 ≠ _; simp only [World.size_setCell]; omega)]; go_cell
  have s1 : W2.cell? ⟨w.heap.size + 1 + 1, 1, Option.none⟩ = some (.int .i64 0) := by
    rw [hW2, World.cell?_alloc_old _ _ _ (by show w.heap.size + 1 + 1 ≠ _; simp only [World.size_setCell]; omega)]; go_cell
  have s2 : W2.cell? ⟨w.heap.size + 1 + 1, 2, Option.none⟩ = some (.string (B F)) := by
    rw [hW2, World.cell?_alloc_old _ _ _ (by show w.heap.size + 1 + 1 ≠ _; simp only [World.size_setCell]; omega)]; go_cell
  have s3 : W2.cell? ⟨w.heap.size + 1 + 1, 3, Option.none⟩ = some (.int .i64 (12 + name.size + 2)) := by
    rw [hW2, World.cell?_alloc_old _ _ _ (by show w.heap.size + 1 + 1 ≠ _; simp only [World.size_setCell]; omega)]; go_cell
  have f0 : ∀ i, W2.frozen? ⟨w.heap.size + 1 + 1, i, Option.none⟩ = false := fun i => by
    rw [hW2, frozen?_alloc_cells, World.frozen?_setCell, hfz _ _ (by omega), frozen?_alloc_cells]
    exact World.frozen?_alloc_at (hn := by simp) ..
  have f1 : ∀ i, W2.frozen? ⟨w.heap.size + 1, i, Option.none⟩ = false := fun i => by
    rw [hW2, frozen?_alloc_cells, World.frozen?_setCell, hfz _ _ (by omega), frozen?_alloc_cells, frozen?_alloc_cells]
    exact World.frozen?_alloc_at (hn := by simp) ..
  have q0 := (hcl (w.heap.size + 1) 0 (by omega)).trans (show _ = some (.string ⟨#[]⟩) by go_cell)
  have q1 := (hcl (w.heap.size + 1) 1 (by omega)).trans (show _ = some (.int .i64 0) by go_cell)
  have q2 := (hcl (w.heap.size + 1) 2 (by omega)).trans (show _ = some (.string ⟨#[]⟩) by go_cell)
  have q3 := (hcl (w.heap.size + 1) 3 (by omega)).trans (show _ = some (.int .i64 0) by go_cell)
  have r0 : W2.cell? ⟨w.heap.size + 1, 0, Option.none⟩ = some (.string ⟨#[]⟩) := by
    rw [hW2, World.cell?_alloc_old _ _ _ (by show w.heap.size + 1 ≠ _; simp only [World.size_setCell]; omega)]; go_cell
  have r1 : W2.cell? ⟨w.heap.size + 1, 1, Option.none⟩ = some (.int .i64 0) := by
    rw [hW2, World.cell?_alloc_old _ _ _ (by show w.heap.size + 1 ≠ _; simp only [World.size_setCell]; omega)]; go_cell
  have r2 : W2.cell? ⟨w.heap.size + 1, 2, Option.none⟩ = some (.string ⟨#[]⟩) := by
    rw [hW2, World.cell?_alloc_old _ _ _ (by show w.heap.size + 1 ≠ _; simp only [World.size_setCell]; omega)]; go_cell
  have r3 : W2.cell? ⟨w.heap.size + 1, 3, Option.none⟩ = some (.int .i64 0) := by
    rw [hW2, World.cell?_alloc_old _ _ _ (by show w.heap.size + 1 ≠ _; simp only [World.size_setCell]; omega)]; go_cell
  clear b0 b1 b2 b3 q0 q1 q2 q3 hcl hfz kk2 kk3 kk4 kk5 hb0
  have o0 : W2.cell? ⟨w1.heap.size, 0, Option.none⟩ = some (.string fl) := by rw [hW2, World.cell?_alloc_at _ _ _ _ (by simp)]; rfl
  have o1 : W2.cell? ⟨w1.heap.size, 1, Option.none⟩ = some (.int .i64 ln) := by rw [hW2, World.cell?_alloc_at _ _ _ _ (by simp)]; rfl
  have o2 : W2.cell? ⟨w1.heap.size, 2, Option.none⟩ = some (.string tl) := by rw [hW2, World.cell?_alloc_at _ _ _ _ (by simp)]; rfl
  have o3 : W2.cell? ⟨w1.heap.size, 3, Option.none⟩ = some (.int .i64 ol) := by rw [hW2, World.cell?_alloc_at _ _ _ _ (by simp)]; rfl
  have HO : Hid (Unit → _) := fun _ => And.intro o0 (And.intro o1 (And.intro o2 o3))
  clear hW2 o0 o1 o2 o3
  have HS0 : Hid _ := s0; have HS1 : Hid _ := s1; have HS2 : Hid _ := s2; have HS3 : Hid _ := s3; have HF0 : Hid _ := f0; have HF1 : Hid _ := f1
  have HR0 : Hid _ := r0; have HR1 : Hid _ := r1; have HR2 : Hid _ := r2; have HR3 : Hid _ := r3
  clear s0 s1 s2 s3 f0 f1 r0 r1 r2 r3
  have hisz : (tl.extract ol (tl.size - 1)).size ≤ 4000000 := by rw [ByteArray.size_extract]; omega
  refine (trimRight_c _ _ (by omega)).mono ?_
  rintro e w3 ⟨rfl, hb3⟩
  have hz3 := hb3.size
  have htr := trimRightS_le (tl.extract ol (tl.size - 1)).data.toList [32, 9, 13]
  rw [← Lib.size_eq] at htr
  have hsl := splitL_pieces_le 10 (Lib.trimRightS (tl.extract ol (tl.size - 1)).data.toList [32, 9, 13])
  have hpl := splitL_piece 10 (Lib.trimRightS (tl.extract ol (tl.size - 1)).data.toList [32, 9, 13])
  rw [HSP.out ()] at hsl hpl
  have hil := indentL_le (tl.extract ol (tl.size - 1)).data.toList
  rw [← Lib.size_eq] at hil
  have hin := fun W hm => indent_any fl tl ln ol m W (by omega) hol hm
  have hcp : copyLines (tl.extract ol (tl.size - 1)).data.toList = (indentL (tl.extract ol (tl.size - 1)).data.toList ++ Lib.trimS x0 [32, 9, 13]) :: r := by
    rw [copyLines, HSP.out (), List.headD_cons, List.tail_cons, if_neg (HX0.out ())]
  generalize indentL (tl.extract ol (tl.size - 1)).data.toList = ind at hil hin hcp
  have hspl := split_c (B (Lib.trimRightS (tl.extract ol (tl.size - 1)).data.toList [32, 9, 13])) 10 m w3 (by rw [B_size]; omega) (cell_later (hbW.trans (hb3.mono (by omega))) HM.out)
  rw [B_data, HSP.out ()] at hspl
  have hjt := joinTail_le 10 _ _ _ (HSP.out ())
  generalize Lib.trimRightS (tl.extract ol (tl.size - 1)).data.toList [32, 9, 13] = tr at *
  have HCP : Hid (Unit → _) := fun _ => hcp
  clear hcp
  have hx0l := hpl x0 (by simp)
  clear hpl
  go_wp2_with fail
  refine hspl.mono ?_
  clear hspl
  rintro e w4 ⟨rfl, hw4⟩
  have hz4 : w4.heap.size = w3.heap.size + 1 := by rw [hw4]; simp
  have hb4 : Below w3.heap.size w3 w4 := by rw [hw4]; go_grown
  have hp : ∀ (j : Nat) y, ((x0 :: r).map B)[j]? = some y → w4.cell? ⟨w3.heap.size, j, none⟩ = some (.string y) := by rw [hw4]; exact Lib.pieces_cell_at _ _ _
  have hpf : ∀ j, w4.frozen? ⟨w3.heap.size, j, none⟩ = false := by rw [hw4]; exact Lib.pieces_frozen _ _ _
  clear hw4
  have hp0 : w4.cell? ⟨w3.heap.size, 0, none⟩ = some (.string (B x0)) := hp 0 _ rfl
  have hrl : r.length ≤ 4000000 := by rw [List.length_cons] at hsl; omega
  have hk4 : Below W2.heap.size W2 w4 := hb3.trans (hb4.mono hz3)
  have HP : Hid _ := hp; clear hp
  go_wp2_with fail
  clear hp0
  refine (trim_c _ _ (by rw [B_size]; omega)).mono ?_
  rintro e w5 ⟨rfl, hb5⟩
  have hz5 := hb5.size
  have hp5 : w5.cell? ⟨w3.heap.size, 0, none⟩ = some (.string (B x0)) := (hb5.cell (p := ⟨w3.heap.size, 0, none⟩) (by show w3.heap.size < _; omega)).trans (HP.out 0 _ rfl)
  have hf5 : w5.frozen? ⟨w3.heap.size, 0, none⟩ = false := (hb5.frozen (p := ⟨w3.heap.size, 0, none⟩) (by show w3.heap.size < _; omega)).trans (hpf 0)
  rw [B_data]
  have hl0 := trimS_le x0 [32, 9, 13]
  have hE : (B (Lib.trimS x0 [32, 9, 13])).toList.isEmpty = false := by
    rw [isEmpty_B]
    cases hq : Lib.trimS x0 [32, 9, 13] with
    | nil => exact absurd hq (HX0.out ())
    | cons _ _ => rfl
  have hcp := HCP.out ()
  generalize Lib.trimS x0 [32, 9, 13] = l0 at hl0 hE hcp ⊢
  have HCP2 : Hid (Unit → _) := fun _ => hcp
  clear hcp HCP HX0
  obtain ⟨W6, hW6⟩ : ∃ W6, W6 = w5.setCell ⟨w3.heap.size, 0, none⟩ (.string (B l0)) := ⟨_, rfl⟩
  have hz6 : W6.heap.size = w5.heap.size := by rw [hW6]; simp
  have hk6 : Below W2.heap.size W2 W6 := by rw [hW6]; exact (hk4.trans (hb5.mono (by omega))).setCell (by show W2.heap.size ≤ w3.heap.size; omega) _
  have p6 : W6.cell? ⟨w3.heap.size, 0, none⟩ = some (.string (B l0)) := by rw [hW6]; go_cell
  have f6 : W6.frozen? ⟨w3.heap.size, 0, none⟩ = false := by rw [hW6, World.frozen?_setCell]; exact hf5
  have hPr : ∀ (j : Nat) y, (r.map B)[j]? = some y → W6.cell? ⟨w3.heap.size, j + 1, none⟩ = some (.string y) := fun j y h => by
    rw [hW6, World.cell?_setCell_other _ _ _ _ (by intro e; simp at e)]
    rw [hb5.cell (p := ⟨w3.heap.size, j + 1, none⟩) (by show w3.heap.size < _; omega)]
    exact HP.out (j + 1) y (by simpa using h)
  have HPr : Hid (Unit → _) := fun _ => hPr
  clear hPr
  have go := fun o (ho : _) => (bcell hk6).1 w1.heap.size o ho
  have o0 := (go 0 (by omega)).trans (HO.out ()).1
  have o1 := (go 1 (by omega)).trans (HO.out ()).2.1
  have o2 := (go 2 (by omega)).trans (HO.out ()).2.2.1
  have o3 := (go 3 (by omega)).trans (HO.out ()).2.2.2
  have m6 := cell_later (hbW.trans (hk6.mono (by omega))) HM.out
  clear go HO
  have HW6 : Hid (Unit → _) := fun _ => hW6
  clear hW6
  go_wp2_with fail
  rw [← HW6.out ()]
  have f7 : ∀ W', Below W6.heap.size W6 W' → W'.frozen? ⟨w3.heap.size, 0, none⟩ = false := fun W' h => ((bcell h).2 _ _ (by omega)).trans f6
  have F7 : Hid (Unit → _) := fun _ => f7
  clear f7 HW6 hp5 hf5 hk4 hb3 hb4 hb5
  have hbl0 : (B l0).size ≤ 4000000 := by rw [B_size]; omega
  have hbin : (B ind).size ≤ 4000004 := by rw [B_size]; omega
  have HIN : Hid (Unit → _) := fun _ => hin
  clear hin
  obtain ⟨J, hJ⟩ : ∃ J, J = Lib.join ((ind ++ l0) :: r) [10] := ⟨_, rfl⟩
  have hJl : J.length ≤ 16000000 := by rw [hJ, Lib.join_cons]; rw [B_size] at hbl0 hbin; simp; omega
  have hj : ∀ W7, Below W6.heap.size W6 W7 → W7.cell? ⟨w3.heap.size, 0, none⟩ = some (.string (B l0)) →
      Calls Tryd.prog 16 #[.slice (some ⟨w3.heap.size, 0, none⟩) (r.length + 1) (r.length + 1), .string ⟨#[10]⟩] (W7.setCell ⟨w3.heap.size, 0, none⟩ (.string (B ind ++ B l0))) fun e w' => e = .returned (.string (B J)) ∧ Below (W7.setCell ⟨w3.heap.size, 0, none⟩ (.string (B ind ++ B l0))).heap.size (W7.setCell ⟨w3.heap.size, 0, none⟩ (.string (B ind ++ B l0))) w' := fun W7 hW hc => by
    have hsz := hW.size
    have hcells : ∀ (j : Nat) y, ((B ind ++ B l0) :: r.map B)[j]? = some y → (W7.setCell ⟨w3.heap.size, 0, none⟩ (.string (B ind ++ B l0))).cell? ⟨w3.heap.size, 0 + j, none⟩ = some (.string y) := fun j y h => by
      rw [Nat.zero_add]
      cases j with
      | zero =>
        obtain rfl : (B ind ++ B l0) = y := by simpa using h
        exact World.cell?_setCell_same _ _ _ hc
      | succ j =>
        rw [World.cell?_setCell_other _ _ _ _ (by intro e; simp at e)]
        rw [hW.cell (p := ⟨w3.heap.size, j + 1, none⟩) (by show w3.heap.size < _; omega)]
        exact HPr.out () j y (by simpa using h)
    have em : ((B ind ++ B l0) :: r.map B).map (fun x => x.data.toList) = (ind ++ l0) :: r := by
      rw [List.map_cons, List.map_map, show ((fun x => x.data.toList) ∘ B) = id from rfl, List.map_id, app_data, B_data, B_data]
    have h := join_c w3.heap.size 0 (r.length + 1) ((B ind ++ B l0) :: r.map B) _ hcells (by simp; omega) (by simp; omega) (by simp) (by rw [em, ← hJ]; omega)
    rw [em, ← hJ, List.length_cons, List.length_map] at h
    exact h
  have HST : Hid (Unit → _) := fun _ => hj
  have HJ : Hid (Unit → _) := fun _ => hJ
  clear hj hJ HPr
  go_region_with (go_at_call 14; refine (HIN.out () _ ?_).mono ?_; (first | exact m6 | (show World.cell? _ _ = _; simpa using m6)); rintro e w7 ⟨rfl, hb7⟩; have hb8 : Below W6.heap.size W6 w7 := ⟨hb7.os, hb7.tape, hb7.output, hb7.size, hb7.block⟩; have p7 := cell_later hb8 p6; have f7 := F7.out () _ hb8; clear hb7)
  all_goals
    go_wp2_with fail
    refine (HST.out () _ hb8 p7).mono ?_
    clear HST
    rintro e w9 ⟨rfl, hb9⟩
    have hz7 := hb8.size
    have hz9 := hb9.size
    simp only [World.size_setCell] at hz9
    have hk6 : Below W2.heap.size W2 w9 := (((hk6.trans (hb8.mono (by omega))).setCell (by show W2.heap.size ≤ w3.heap.size; omega) _).trans (hb9.mono (by simp only [World.size_setCell]; omega)))
    clear hb9 hb8 p7 f7 p6 f6 hE o0 o1 o2 o3 m6 F7 HIN
    go_wp2_with fail
    refine (trimSuffix_c _ _ (by rw [B_size]; omega)).mono ?_
    rintro e w7 ⟨rfl, rfl⟩
    obtain ⟨S, hS⟩ : ∃ S, S = Lib.trimSuffix J [10] := ⟨_, rfl⟩
    rw [B_data, ← hS]
    have hSl : (B S).size ≤ 16000000 := by rw [B_size, hS]; exact Nat.le_trans (trimSuffix_le _ _) hJl
    have HB : Hid (Unit → copyL (tl.extract ol (tl.size - 1)).data.toList = (B S ++ ⟨#[10]⟩ : ByteArray).data.toList) := by
      intro _
      rw [copyL, HCP2.out (), app_data, B_data, hS, HJ.out ()]
    clear hS HSP HCP2 HJ
    have h10 : (B S ++ ⟨#[10]⟩ : ByteArray).size = (B S).size + 1 := by rw [app_size]; rfl
    have ht4 := fun W => trim4_c (B S ++ ⟨#[10]⟩) W (by omega)
    clear h10
    go_wp2_with fail
    refine (ht4 _).mono ?_
    clear ht4
    rintro e w8 ⟨rfl, hb8⟩
    have hz8 := hb8.size
    have hk8 := hk6.trans (hb8.mono (by omega))
    clear hb8 hk6
    have c1 := fun W (h : Below W2.heap.size W2 W) => (bcell h).1
    have e0 := (c1 _ hk8 _ 0 (by omega)).trans HS0.out
    have e1 := (c1 _ hk8 _ 1 (by omega)).trans HS1.out
    have e2 := (c1 _ hk8 _ 2 (by omega)).trans HS2.out
    have e3 := (c1 _ hk8 _ 3 (by omega)).trans HS3.out
    have g0 := (c1 _ hk8 _ 0 (by omega)).trans HR0.out
    have g1 := (c1 _ hk8 _ 1 (by omega)).trans HR1.out
    have g2 := (c1 _ hk8 _ 2 (by omega)).trans HR2.out
    have g3 := (c1 _ hk8 _ 3 (by omega)).trans HR3.out
    have j0 : ∀ i, w8.frozen? ⟨w.heap.size + 1 + 1, i, none⟩ = false := fun i => ((bcell hk8).2 _ i (by omega)).trans (HF0.out i)
    have j1 : ∀ i, w8.frozen? ⟨w.heap.size + 1, i, none⟩ = false := fun i => ((bcell hk8).2 _ i (by omega)).trans (HF1.out i)
    have n0 := cell_later (hbW.trans (hk8.mono (by omega))) HK0.out
    clear c1
    obtain ⟨T, hT⟩ : ∃ T, T = Lib.trimS (B S ++ ⟨#[10]⟩ : ByteArray).data.toList [32, 9, 13, 10] := ⟨_, rfl⟩
    rw [← hT]
    have HT : Hid (Unit → _) := fun _ => hT
    clear hT
    by_cases hT1 : T = []
    · have hT0 : (B T).toList.isEmpty = true := by rw [isEmpty_B, hT1]; rfl
      have HT1 : Hid (Unit → _) := fun _ => hT1
      clear hT1
      go_wp2_with fail
      refine bodyPost_ret (v := .agg #[.string ⟨#[]⟩, .int .i64 0, .string (B F), .int .i64 (12 + name.size + 2)]) ?_ rfl ⟨?_, ?_⟩
      · simp [results, Tryd.results6, go_sem, g0, g1, g2, g3]
      · have e : appL (freshL name.data.toList c.data.toList x.data.toList) nm.data.toList (copyL (tl.extract ol (tl.size - 1)).data.toList) = F := by
          rw [appL, HB.out (), ← HT.out (), if_pos (HT1.out ()), HF.out ()]
        rw [e]
      · have := hbW.trans (hk8.mono (by omega))
        go_grown
    · have hT0 : (B T).toList.isEmpty = false := by rw [isEmpty_B]; cases T with | nil => exact absurd rfl hT1 | cons _ _ => rfl
      have HT1 : Hid (Unit → _) := fun _ => hT1
      clear hT1
      go_wp2_with fail
      refine bodyPost_ret (v := .agg #[.string ⟨#[]⟩, .int .i64 0, .string ((B F).extract 0 ((B F).size - 1) ++ (⟨#[32, 32, 32, 32, 35, 32, 84, 104, 101, 32, 115, 116, 97, 116, 101, 109, 101, 110, 116, 115, 32, 111, 102, 32, 97, 112, 112, 108, 105, 99, 97, 116, 105, 111, 110, 32]⟩ ++ nm ++ ⟨#[58, 10]⟩) ++ (B S ++ ⟨#[10]⟩) ++ ⟨#[125]⟩), .int .i64 (12 + name.size + 2)]) ?_ rfl ⟨?_, ?_⟩
      · simp [results, Tryd.results6, go_sem, g0, g1, g2, g3]
      · have e : appL (freshL name.data.toList c.data.toList x.data.toList) nm.data.toList (copyL (tl.extract ol (tl.size - 1)).data.toList) = F.dropLast ++ commentL nm.data.toList ++ (B S ++ ⟨#[10]⟩ : ByteArray).data.toList ++ [125] := by
          rw [appL, HB.out (), ← HT.out (), if_neg (HT1.out ()), HF.out ()]
        rw [e]
        have e4 : ∀ {a b : ByteArray}, a = b → Ending.returned (.agg #[.string ⟨#[]⟩, .int .i64 0, .string a, .int .i64 (12 + name.size + 2)]) = .returned (.agg #[.string ⟨#[]⟩, .int .i64 0, .string b, .int .i64 (12 + name.size + 2)]) := fun h => by rw [h]
        refine e4 (B_eq ?_)
        rw [app_data, app_data, app_data, app_data (_ ++ nm), app_data _ nm, Lib.extract_data, B_data, B_size, List.drop_zero, Nat.sub_zero, List.dropLast_eq_take]
        rfl
      · have := hbW.trans (hk8.mono (by omega))
        go_grown
end Go.Proofs.Qxb6603042aDoor
