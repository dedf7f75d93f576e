import Derived.Test.Qxb6603042aDoorIndent
namespace Go.Proofs.Qxb6603042aDoor
open Go.RowKit Pl

theorem alloc_new (w : World) (o : Obj) : (w.alloc o).heap[w.heap.size]? = some o := by
  show (w.heap.push o)[w.heap.size]? = some o
  simp

theorem builder_below {T e : TypeId} {B b : Nat} {bs : List Value} {W W' : World} (h : Lib.IsBuilderF T e B b bs W) (hb : Below W.heap.size W W') : Lib.IsBuilderF T e B b bs W' := by
  have key : ∀ p, Lib.BuilderAtF T e B b p bs W → Lib.BuilderAtF T e B b p bs W' := fun p h => by
    have hlt := h.lt
    obtain ⟨hB, v, h1, h2, h3⟩ := h
    refine ⟨hB, v, (hb.block b hlt).trans h1, ?_, h3⟩
    exact h2.kept (row := Option.none) ⟨hb.os, hb.tape, hb.output, hb.size, fun k hk _ => hb.block k hk⟩ (by
      cases hv : v.ownBlock with
      | none => exact .inl rfl
      | some _ => exact .inr (by simp))
  exact h.elim (fun x => .inl (key _ x)) (fun x => .inr (key _ x))

set_option maxHeartbeats 4000000 in
theorem extended_any (fl t c x : ByteArray) (ln : Int) (o bs : Nat) (m : Int) (w : World) (ht : t.size ≤ 4294967) (hc : c.size ≤ 4294967) (hx : x.size ≤ 4294967) (ho : o + 1 ≤ t.size)
    (hm : w.cell? ⟨0, 0, none⟩ = some (.int .i64 m)) (h0 : w.cell? ⟨bs, 0, none⟩ = some (.string c)) (h1 : w.cell? ⟨bs, 1, none⟩ = some (.string x))
    (hsuf : Lib.hasSuffix (Lib.trimRightS (t.extract 0 (t.size - 1)).data.toList [32, 9, 13]) [10] = true) :
    Calls Tryd.prog 10 #[.agg #[.string fl, .int .i64 ln, .string t, .int .i64 o], .slice (some ⟨bs, 0, none⟩) 1 1] w fun e w' =>
      e = .returned (.string (B (extL (Lib.trimRightS (t.extract 0 (t.size - 1)).data.toList [32, 9, 13]) (indentL (t.extract o (t.size - 1)).data.toList) c.data.toList x.data.toList))) ∧ Below w.heap.size w w' := by
  have htr := fun W => trimRight_c (t.extract 0 (t.size - 1)) W (by rw [ByteArray.size_extract]; omega)
  have hil := indentL_le (t.extract o (t.size - 1)).data.toList
  rw [← Lib.size_eq, ByteArray.size_extract] at hil
  have hhl := trimRightS_le (t.extract 0 (t.size - 1)).data.toList [32, 9, 13]
  rw [← Lib.size_eq, ByteArray.size_extract] at hhl
  have hin := fun W hm => indent_any fl t ln o m W ht ho hm
  generalize Lib.trimRightS (t.extract 0 (t.size - 1)).data.toList [32, 9, 13] = hd at htr hsuf hhl ⊢
  generalize indentL (t.extract o (t.size - 1)).data.toList = ind at hil hin ⊢
  have hbs : bs < w.heap.size := World.block_lt_of_cell? _ _ h0
  have h0lt : 0 < w.heap.size := World.block_lt_of_cell? _ _ hm
  obtain ⟨W0, hW0⟩ : ∃ W0, W0 = (w.alloc (.cells #[.string fl, .int .i64 ln, .string t, .int .i64 o] 27)).alloc (.cells #[.pointer Option.none, .slice Option.none 0 0] 57) := ⟨_, rfl⟩
  have hs0 : W0.heap.size = w.heap.size + 2 := by rw [hW0]; simp
  have hbW : Below w.heap.size w W0 := by rw [hW0]; exact ((Below.refl _ _).alloc (Nat.le_refl _) _).alloc (by simp) _
  have hN : W0.cell? ⟨w.heap.size, 0, none⟩ = some (.string fl) ∧ W0.cell? ⟨w.heap.size, 1, none⟩ = some (.int .i64 ln) ∧ W0.cell? ⟨w.heap.size, 2, none⟩ = some (.string t) ∧ W0.cell? ⟨w.heap.size, 3, none⟩ = some (.int .i64 o) := by
    rw [hW0]; refine ⟨?_, ?_, ?_, ?_⟩ <;> go_cell
  have hBu : Lib.IsBuilderF 57 5 (w.heap.size + 1) (w.heap.size + 1) (Lib.byteCells []) W0 := by
    refine .inl ⟨Nat.le_refl _, .slice Option.none 0 0, ?_, World.ownsRowF_nil _ _ _ _, by simp [Value.ownBlock]⟩
    rw [hW0]
    have h := alloc_new (w.alloc (.cells #[.string fl, .int .i64 ln, .string t, .int .i64 o] 27)) (.cells #[.pointer Option.none, .slice Option.none 0 0] 57)
    simpa using h
  have cells : ∀ W, Below (w.heap.size + 1) W0 W → W.cell? ⟨0, 0, none⟩ = some (.int .i64 m) ∧ W.cell? ⟨bs, 0, none⟩ = some (.string c) ∧ W.cell? ⟨bs, 1, none⟩ = some (.string x) ∧
      W.cell? ⟨w.heap.size, 0, none⟩ = some (.string fl) ∧ W.cell? ⟨w.heap.size, 1, none⟩ = some (.int .i64 ln) ∧ W.cell? ⟨w.heap.size, 2, none⟩ = some (.string t) ∧ W.cell? ⟨w.heap.size, 3, none⟩ = some (.int .i64 o) := fun W hb => by
    have hw := hbW.trans (hb.mono (Nat.le_succ _))
    refine ⟨cell_later hw hm, cell_later hw h0, cell_later hw h1, ?_, ?_, ?_, ?_⟩
    · exact (hb.cell (p := ⟨w.heap.size, 0, none⟩) (by show w.heap.size < _; omega)).trans hN.1
    · exact (hb.cell (p := ⟨w.heap.size, 1, none⟩) (by show w.heap.size < _; omega)).trans hN.2.1
    · exact (hb.cell (p := ⟨w.heap.size, 2, none⟩) (by show w.heap.size < _; omega)).trans hN.2.2.1
    · exact (hb.cell (p := ⟨w.heap.size, 3, none⟩) (by show w.heap.size < _; omega)).trans hN.2.2.2
  have HCells : Hid _ := cells
  clear cells hN hm h0 h1
  go_enter Tryd.func10, Tryd.ntmps10
  go_wp2_with fail
  rw [← hW0]
  have HW0 : Hid _ := hW0
  clear hW0
  refine (htr _).mono ?_
  rintro e w1 ⟨rfl, hb1⟩
  have hz1 := hb1.size
  have hBu1 := builder_below hBu hb1
  have hk1 : Below (w.heap.size + 1) W0 w1 := hb1.mono (by omega)
  clear htr hb1 hBu
  go_wp2_with fail
  refine (write_c _ _ _ (B hd) _ hBu1 (by rw [B_size]; simp; omega) (by omega)).mono ?_
  rintro e w2 ⟨rfl, hBu2, hb2, -⟩
  rw [B_data, List.nil_append] at hBu2
  have hz2 := hb2.size
  have hk2 := hk1.trans hb2
  clear hBu1 hb2 hk1
  go_wp2_with fail
  refine (hasSuffix_c (B hd) _ (by rw [B_size]; omega)).mono ?_
  rintro e w3 ⟨rfl, rfl⟩
  rw [B_data, hsuf]
  obtain ⟨c0, c1, c2, c3, c4, c5, c6⟩ := HCells.out _ hk2
  clear c1 c2
  go_wp2_with fail
  clear c3 c4 c5 c6
  refine (hin _ c0).mono ?_
  rintro e w4 ⟨rfl, hb4⟩
  have hz4 := hb4.size
  have hBu4 := builder_below hBu2 hb4
  have hk4 := hk2.trans (hb4.mono (by omega))
  clear hBu2 hb4 hk2 hin c0
  obtain ⟨-, c1, c2, -, -, -, -⟩ := HCells.out _ hk4
  have hil2 : (B ind).size ≤ 4294971 := by rw [B_size]; omega
  have hhl2 : hd.length ≤ 4294967 := by omega
  have hst : (w4.alloc (.cells #[.string c, .string x] 39)).heap[w4.heap.size]? = some (.cells #[.string c, .string x] 39) := alloc_new _ _
  have hBu5 := hBu4.alloc (.cells #[.string c, .string x] 39)
  have hk5 : Below (w.heap.size + 1) W0 (w4.alloc (.cells #[.string c, .string x] 39)) := hk4.alloc (by omega) _
  have HS : Hid _ := hst
  have HBu5 : Hid _ := hBu5
  have HK5 : Hid _ := hk5
  clear hst hBu4 hk4 hBu5 hk5
  have h10 : (⟨#[10]⟩ : ByteArray).size = 1 := rfl
  have h35 : (⟨#[35, 32]⟩ : ByteArray).size = 2 := rfl
  have h125 : (⟨#[125]⟩ : ByteArray).size = 1 := rfl
  have hl1 : ∀ l : List UInt8, l.length ≤ 17179880 → l.length + (B ind ++ x ++ ⟨#[10]⟩).size ≤ 140737488355328 := fun l hl => by
    rw [app_size, app_size]; omega
  have hl2 : hd.length + (B ind ++ ⟨#[35, 32]⟩ ++ c ++ ⟨#[10]⟩).size ≤ 140737488355328 := by
    rw [app_size, app_size, app_size]; omega
  have hl3 : (hd ++ (B ind ++ ⟨#[35, 32]⟩ ++ c ++ ⟨#[10]⟩).data.toList).length ≤ 17179880 := by
    rw [List.length_append, ← Lib.size_eq, app_size, app_size, app_size]; omega
  have hl4 : (hd ++ (B ind ++ x ++ ⟨#[10]⟩).data.toList).length + (⟨#[125]⟩ : ByteArray).size ≤ 140737488355328 := by
    rw [List.length_append, ← Lib.size_eq, app_size, app_size]; omega
  have hl5 : (hd ++ (B ind ++ ⟨#[35, 32]⟩ ++ c ++ ⟨#[10]⟩).data.toList ++ (B ind ++ x ++ ⟨#[10]⟩).data.toList).length + (⟨#[125]⟩ : ByteArray).size ≤ 140737488355328 := by
    rw [List.length_append, ← Lib.size_eq (B ind ++ x ++ ⟨#[10]⟩), app_size, app_size]; omega
  have HL1 : Hid _ := hl1; have HL2 : Hid _ := hl2; have HL3 : Hid _ := hl3; have HL4 : Hid _ := hl4; have HL5 : Hid _ := hl5
  clear h10 h35 h125 hl1 hl2 hl3 hl4 hl5
  by_cases hce : c.data.toList = []
  · have hc0 : c.toList.isEmpty = true := by rw [Lib.toList_data, hce]; rfl
    have HCE : Hid _ := hce; clear hce
    go_wp2_with fail
    refine wp_loop_rounds 2 ?_
    rw [rounds_succ]
    go_wp2_with fail
    refine (write_c _ _ _ _ _ HBu5.out (HL1.out _ (by omega)) ?_).mono ?_
    · simp only [World.size_alloc]; omega
    rintro e w6 ⟨rfl, hBu6, hb6, -⟩
    have hz6 := hb6.size
    have hk6 := HK5.out.trans hb6
    simp only [World.size_alloc] at hz6
    clear HBu5 hb6 HK5
    have HBu6 : Hid _ := hBu6; clear hBu6
    go_wp2_with fail
    rw [rounds_succ]
    go_wp2_with fail
    refine (write_c _ _ _ _ _ HBu6.out HL4.out (by omega)).mono ?_
    rintro e w7 ⟨rfl, hBu7, hb7, -⟩
    have hz7 := hb7.size
    go_wp2_with fail
    refine (string_c _ _ _ _ hBu7 (by omega)).mono ?_
    rintro e w8 ⟨rfl, hb8⟩
    go_wp2_with fail
    go_ret
    refine ⟨ret_string ?_, hbW.trans (((hk6.trans hb7).trans hb8).mono (by omega))⟩
    rw [extL, if_pos HCE.out]; simp [B_data]
  · have hc0 : c.toList.isEmpty = false := by rw [Lib.toList_data]; cases h : c.data.toList with | nil => exact absurd h hce | cons _ _ => rfl
    have HCE : Hid _ := hce; clear hce
    go_wp2_with fail
    refine wp_loop_rounds 2 ?_
    rw [rounds_succ]
    go_wp2_with fail
    refine (write_c _ _ _ _ _ HBu5.out HL2.out ?_).mono ?_
    · simp only [World.size_alloc]; omega
    rintro e wa ⟨rfl, hBua, hba, hoa⟩
    have hza := hba.size
    have hka := HK5.out.trans hba
    simp only [World.size_alloc] at hza
    have hsa := hoa w4.heap.size _ HS.out (by simp; omega) (fun _ _ h => by cases h)
    have hca : wa.cell? ⟨w4.heap.size, 1, none⟩ = some (.string x) := by simp [World.cell?, hsa]
    clear HBu5 hba HK5 hsa hoa
    have HBua : Hid _ := hBua; clear hBua
    go_wp2_with fail
    refine (write_c _ _ _ _ _ HBua.out (HL1.out _ HL3.out) (by omega)).mono ?_
    rintro e w6 ⟨rfl, hBu6, hb6, -⟩
    have hz6 := hb6.size
    have hk6 := hka.trans hb6
    clear HBua hb6 hka hca
    have HBu6 : Hid _ := hBu6; clear hBu6
    go_wp2_with fail
    rw [rounds_succ]
    go_wp2_with fail
    refine (write_c _ _ _ _ _ HBu6.out HL5.out (by omega)).mono ?_
    rintro e w7 ⟨rfl, hBu7, hb7, -⟩
    have hz7 := hb7.size
    go_wp2_with fail
    refine (string_c _ _ _ _ hBu7 (by omega)).mono ?_
    rintro e w8 ⟨rfl, hb8⟩
    go_wp2_with fail
    go_ret
    refine ⟨ret_string ?_, hbW.trans (((hk6.trans hb7).trans hb8).mono (by omega))⟩
    rw [extL, if_neg HCE.out]; simp [B_data]
end Go.Proofs.Qxb6603042aDoor
