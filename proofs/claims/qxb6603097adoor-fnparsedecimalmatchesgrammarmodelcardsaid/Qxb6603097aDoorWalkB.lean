import Derived.Test.Qxb6603097aDoorWalkA
namespace Go.Proofs.Qxb6603097aDoor
open Go.RowKit Pl

theorem bcell {n : Nat} {W w1 : World} (hb : Below n W w1) : (∀ b o, b < n → w1.cell? ⟨b, o, none⟩ = W.cell? ⟨b, o, none⟩) ∧ (∀ b o, b < n → w1.frozen? ⟨b, o, none⟩ = W.frozen? ⟨b, o, none⟩) :=
  ⟨fun b o h => hb.cell (p := ⟨b, o, none⟩) h, fun b o h => hb.frozen (p := ⟨b, o, none⟩) h⟩
theorem trimL_le (l : List UInt8) : (Lib.trimLeftB l 48).length ≤ l.length := (List.dropWhile_sublist _).length_le

/-- parseDecimal's two results. -/
def decV (d : Bool × List UInt8 × List UInt8 × Bool) : Value := .tuple #[.agg #[.bool d.1, .string (B d.2.1), .string (B d.2.2.1)], .bool d.2.2.2]
theorem ne_of_pos (s : ByteArray) (h : 0 < s.size) : s.toList.isEmpty = false := by
  rw [Lib.toList_data]
  rw [Lib.size_eq] at h
  cases hq : s.data.toList with
  | nil => rw [hq] at h; simp at h
  | cons _ _ => rfl

set_option maxRecDepth 100000 in
set_option maxHeartbeats 2000000 in
theorem parse_minus (s : ByteArray) (m : Int) (w : World) (hs : s.size ≤ 1048576) (h0 : 0 < s.size) (h45 : ((s[0].toNat : Int) == 45) = true) (hm : w.cell? ⟨0, 0, none⟩ = some (.int .i64 m)) :
    Calls Tryd.prog 12 #[.string s] w fun e w' => e = .returned (decV (decOf true (Lib.cut (s.extract 1 s.size).data.toList [46]).1 (Lib.cut (s.extract 1 s.size).data.toList [46]).2.1 (Lib.cut (s.extract 1 s.size).data.toList [46]).2.2)) ∧ Below w.heap.size w w' := by
  have hlt : 0 < w.heap.size := World.block_lt_of_cell? _ _ hm
  have hne : s.toList.isEmpty = false := ne_of_pos s h0
  have hR : (s.extract 1 s.size).size ≤ 1048576 := by first | exact hs | (rw [ByteArray.size_extract]; omega)
  have hcut := fun W hm => cut_c (s.extract 1 s.size) m W (by omega) hm
  have hl1 : (Lib.cut (s.extract 1 s.size).data.toList [46]).1.length ≤ 1048576 ∧ (Lib.cut (s.extract 1 s.size).data.toList [46]).2.1.length ≤ 1048576 := by
    rw [Lib.size_eq] at hR
    rw [Lib.cut]
    split <;> simp <;> omega
  generalize (Lib.cut (s.extract 1 s.size).data.toList [46]).1 = wh at hcut hl1 ⊢
  generalize (Lib.cut (s.extract 1 s.size).data.toList [46]).2.1 = fr at hcut hl1 ⊢
  generalize (Lib.cut (s.extract 1 s.size).data.toList [46]).2.2 = pt at hcut ⊢
  obtain ⟨d, hd⟩ : ∃ d, d = decOf true wh fr pt := ⟨_, rfl⟩
  rw [← hd]
  have hw1 : (B wh).size ≤ 1048576 := by rw [B_size]; exact hl1.1
  have hf1 : (B fr).size ≤ 1048576 := by rw [B_size]; exact hl1.2
  have ha1 := fun W => allD_any (B wh) W (by omega)
  have ha2 := fun W => allD_any (B fr) W (by omega)
  have ht1 := fun W => trimL_c (B wh) W
  have ht2 := fun W => trimR_c (B fr) W (by omega)
  simp only [B_data] at ha1 ha2 ht1 ht2
  cases b1 : allD wh
  · have HD : Hid (Unit → d = (false, [], [], false)) := fun _ => by rw [hd, decOf, b1]; rfl
    clear hd
    rw [b1] at ha1
    go_enter Tryd.func12, Tryd.ntmps12
    go_wp2_with fail
    refine (hcut _ ?_).mono ?_
    · exact cell_later (by go_grown) hm
    rintro e w1 ⟨rfl, n, hw1'⟩
    have g0 : w1.cell? ⟨w.heap.size, 0, none⟩ = some (.bool false) := by rw [hw1', World.cell?_drewN]; go_cell
    have g1 : w1.cell? ⟨w.heap.size, 1, none⟩ = some (.string ⟨#[]⟩) := by rw [hw1', World.cell?_drewN]; go_cell
    have g2 : w1.cell? ⟨w.heap.size, 2, none⟩ = some (.string ⟨#[]⟩) := by rw [hw1', World.cell?_drewN]; go_cell
    have k0 : w1.cell? ⟨w.heap.size + 1, 0, none⟩ = some (.bool true) := by rw [hw1', World.cell?_drewN]; go_cell
    have k1 : w1.cell? ⟨w.heap.size + 1, 1, none⟩ = some (.string ⟨#[]⟩) := by rw [hw1', World.cell?_drewN]; go_cell
    have k2 : w1.cell? ⟨w.heap.size + 1, 2, none⟩ = some (.string ⟨#[]⟩) := by rw [hw1', World.cell?_drewN]; go_cell
    have fz0 : ∀ i, w1.frozen? ⟨w.heap.size, i, none⟩ = false := fun i => by rw [hw1', World.frozen?_drewN, frozen?_alloc_cells]; exact World.frozen?_alloc_at (hn := rfl) ..
    have fz1 : ∀ i, w1.frozen? ⟨w.heap.size + 1, i, none⟩ = false := fun i => by rw [hw1', World.frozen?_drewN]; exact World.frozen?_alloc_at (hn := by simp) ..
    have hbW : Below w.heap.size w w1 := by rw [hw1']; refine below_drewN ?_ n; go_grown
    have hzW : w.heap.size + 1 < w1.heap.size := by rw [hw1']; simp
    have hzW2 : w.heap.size < w1.heap.size := by omega
    clear hw1' hcut
    go_wp2_with fail
    refine (ha1 _).mono ?_
    clear ha1
    rintro e w2 ⟨rfl, rfl⟩
    go_wp2_with fail
    refine bodyPost_ret (v := decV (false, [], [], false)) ?_ rfl ⟨by rw [HD.out ()], ?_⟩
    · simp [results, Tryd.results12, go_sem, decV, g0, g1, g2]; rfl
    · have hbz := hbW
      go_grown

  · rw [b1] at ha1
    cases pt
    · have HDK : Hid (Unit → d = (true && !(decide (Lib.trimLeftB wh 48 = []) && decide (Lib.trimRightB fr 48 = [])), Lib.trimLeftB wh 48, Lib.trimRightB fr 48, true)) := fun _ => by rw [hd, decOf, b1]; rfl
      clear hd
      go_enter Tryd.func12, Tryd.ntmps12
      go_wp2_with fail
      refine (hcut _ ?_).mono ?_
      · exact cell_later (by go_grown) hm
      rintro e w1 ⟨rfl, n, hw1'⟩
      have g0 : w1.cell? ⟨w.heap.size, 0, none⟩ = some (.bool false) := by rw [hw1', World.cell?_drewN]; go_cell
      have g1 : w1.cell? ⟨w.heap.size, 1, none⟩ = some (.string ⟨#[]⟩) := by rw [hw1', World.cell?_drewN]; go_cell
      have g2 : w1.cell? ⟨w.heap.size, 2, none⟩ = some (.string ⟨#[]⟩) := by rw [hw1', World.cell?_drewN]; go_cell
      have k0 : w1.cell? ⟨w.heap.size + 1, 0, none⟩ = some (.bool true) := by rw [hw1', World.cell?_drewN]; go_cell
      have k1 : w1.cell? ⟨w.heap.size + 1, 1, none⟩ = some (.string ⟨#[]⟩) := by rw [hw1', World.cell?_drewN]; go_cell
      have k2 : w1.cell? ⟨w.heap.size + 1, 2, none⟩ = some (.string ⟨#[]⟩) := by rw [hw1', World.cell?_drewN]; go_cell
      have fz0 : ∀ i, w1.frozen? ⟨w.heap.size, i, none⟩ = false := fun i => by rw [hw1', World.frozen?_drewN, frozen?_alloc_cells]; exact World.frozen?_alloc_at (hn := rfl) ..
      have fz1 : ∀ i, w1.frozen? ⟨w.heap.size + 1, i, none⟩ = false := fun i => by rw [hw1', World.frozen?_drewN]; exact World.frozen?_alloc_at (hn := by simp) ..
      have hbW : Below w.heap.size w w1 := by rw [hw1']; refine below_drewN ?_ n; go_grown
      have hzW : w.heap.size + 1 < w1.heap.size := by rw [hw1']; simp
      have hzW2 : w.heap.size < w1.heap.size := by omega
      clear hw1' hcut
      go_wp2_with fail
      refine (ha1 _).mono ?_
      clear ha1
      rintro e w2 ⟨rfl, rfl⟩
      go_wp2_with fail
      refine (ht1 _).mono ?_
      clear ht1
      rintro e w3 ⟨rfl, rfl⟩
      go_wp2_with fail
      refine (ht2 _).mono ?_
      clear ht2
      rintro e w4 ⟨rfl, rfl⟩
      have HD : Hid (Unit → d = (true && !(decide (Lib.trimLeftB wh 48 = []) && decide (Lib.trimRightB fr 48 = [])), Lib.trimLeftB wh 48, Lib.trimRightB fr 48, true)) := HDK
      generalize Lib.trimLeftB wh 48 = W at HD ⊢
      generalize Lib.trimRightB fr 48 = F at HD ⊢
      clear HDK
      by_cases hW : W = []
      · have hW0 : (B W).toList.isEmpty = true := by rw [isEmpty_B, hW]; rfl
        by_cases hF : F = []
        · have hF0 : (B F).toList.isEmpty = true := by rw [isEmpty_B, hF]; rfl
          have HD2 : Hid (Unit → d = (false, W, F, true)) := fun _ => by rw [HD.out (), hW, hF]; rfl
          clear HD hW hF
          go_wp2_with fail
          refine bodyPost_ret (v := decV (false, W, F, true)) ?_ rfl ⟨by rw [HD2.out ()], ?_⟩
          · simp [results, Tryd.results12, go_sem, decV, g0, g1, g2]
          · have hbz := hbW
            go_grown
        · have hF0 : (B F).toList.isEmpty = false := by rw [isEmpty_B]; cases F with | nil => exact absurd rfl hF | cons _ _ => rfl
          have HD2 : Hid (Unit → d = (true, W, F, true)) := fun _ => by rw [HD.out (), decide_eq_false hF]; simp
          clear HD hW hF
          go_wp2_with fail
          refine bodyPost_ret (v := decV (true, W, F, true)) ?_ rfl ⟨by rw [HD2.out ()], ?_⟩
          · simp [results, Tryd.results12, go_sem, decV, g0, g1, g2]
          · have hbz := hbW
            go_grown
      · have hW0 : (B W).toList.isEmpty = false := by rw [isEmpty_B]; cases W with | nil => exact absurd rfl hW | cons _ _ => rfl
        have HD2 : Hid (Unit → d = (true, W, F, true)) := fun _ => by rw [HD.out (), decide_eq_false hW]; simp
        clear HD hW
        go_wp2_with fail
        refine bodyPost_ret (v := decV (true, W, F, true)) ?_ rfl ⟨by rw [HD2.out ()], ?_⟩
        · simp [results, Tryd.results12, go_sem, decV, g0, g1, g2]
        · have hbz := hbW
          go_grown

    · cases b3 : allD fr
      · have HD : Hid (Unit → d = (false, [], [], false)) := fun _ => by rw [hd, decOf, b1, b3]; rfl
        clear hd
        rw [b3] at ha2
        go_enter Tryd.func12, Tryd.ntmps12
        go_wp2_with fail
        refine (hcut _ ?_).mono ?_
        · exact cell_later (by go_grown) hm
        rintro e w1 ⟨rfl, n, hw1'⟩
        have g0 : w1.cell? ⟨w.heap.size, 0, none⟩ = some (.bool false) := by rw [hw1', World.cell?_drewN]; go_cell
        have g1 : w1.cell? ⟨w.heap.size, 1, none⟩ = some (.string ⟨#[]⟩) := by rw [hw1', World.cell?_drewN]; go_cell
        have g2 : w1.cell? ⟨w.heap.size, 2, none⟩ = some (.string ⟨#[]⟩) := by rw [hw1', World.cell?_drewN]; go_cell
        have k0 : w1.cell? ⟨w.heap.size + 1, 0, none⟩ = some (.bool true) := by rw [hw1', World.cell?_drewN]; go_cell
        have k1 : w1.cell? ⟨w.heap.size + 1, 1, none⟩ = some (.string ⟨#[]⟩) := by rw [hw1', World.cell?_drewN]; go_cell
        have k2 : w1.cell? ⟨w.heap.size + 1, 2, none⟩ = some (.string ⟨#[]⟩) := by rw [hw1', World.cell?_drewN]; go_cell
        have fz0 : ∀ i, w1.frozen? ⟨w.heap.size, i, none⟩ = false := fun i => by rw [hw1', World.frozen?_drewN, frozen?_alloc_cells]; exact World.frozen?_alloc_at (hn := rfl) ..
        have fz1 : ∀ i, w1.frozen? ⟨w.heap.size + 1, i, none⟩ = false := fun i => by rw [hw1', World.frozen?_drewN]; exact World.frozen?_alloc_at (hn := by simp) ..
        have hbW : Below w.heap.size w w1 := by rw [hw1']; refine below_drewN ?_ n; go_grown
        have hzW : w.heap.size + 1 < w1.heap.size := by rw [hw1']; simp
        have hzW2 : w.heap.size < w1.heap.size := by omega
        clear hw1' hcut
        go_wp2_with fail
        refine (ha1 _).mono ?_
        clear ha1
        rintro e w2 ⟨rfl, rfl⟩
        go_wp2_with fail
        refine (ha2 _).mono ?_
        rintro e w3 ⟨rfl, rfl⟩
        go_wp2_with fail
        refine bodyPost_ret (v := decV (false, [], [], false)) ?_ rfl ⟨by rw [HD.out ()], ?_⟩
        · simp [results, Tryd.results12, go_sem, decV, g0, g1, g2]; rfl
        · have hbz := hbW
          go_grown

      · have HDK : Hid (Unit → d = (true && !(decide (Lib.trimLeftB wh 48 = []) && decide (Lib.trimRightB fr 48 = [])), Lib.trimLeftB wh 48, Lib.trimRightB fr 48, true)) := fun _ => by rw [hd, decOf, b1, b3]; rfl
        clear hd
        rw [b3] at ha2
        go_enter Tryd.func12, Tryd.ntmps12
        go_wp2_with fail
        refine (hcut _ ?_).mono ?_
        · exact cell_later (by go_grown) hm
        rintro e w1 ⟨rfl, n, hw1'⟩
        have g0 : w1.cell? ⟨w.heap.size, 0, none⟩ = some (.bool false) := by rw [hw1', World.cell?_drewN]; go_cell
        have g1 : w1.cell? ⟨w.heap.size, 1, none⟩ = some (.string ⟨#[]⟩) := by rw [hw1', World.cell?_drewN]; go_cell
        have g2 : w1.cell? ⟨w.heap.size, 2, none⟩ = some (.string ⟨#[]⟩) := by rw [hw1', World.cell?_drewN]; go_cell
        have k0 : w1.cell? ⟨w.heap.size + 1, 0, none⟩ = some (.bool true) := by rw [hw1', World.cell?_drewN]; go_cell
        have k1 : w1.cell? ⟨w.heap.size + 1, 1, none⟩ = some (.string ⟨#[]⟩) := by rw [hw1', World.cell?_drewN]; go_cell
        have k2 : w1.cell? ⟨w.heap.size + 1, 2, none⟩ = some (.string ⟨#[]⟩) := by rw [hw1', World.cell?_drewN]; go_cell
        have fz0 : ∀ i, w1.frozen? ⟨w.heap.size, i, none⟩ = false := fun i => by rw [hw1', World.frozen?_drewN, frozen?_alloc_cells]; exact World.frozen?_alloc_at (hn := rfl) ..
        have fz1 : ∀ i, w1.frozen? ⟨w.heap.size + 1, i, none⟩ = false := fun i => by rw [hw1', World.frozen?_drewN]; exact World.frozen?_alloc_at (hn := by simp) ..
        have hbW : Below w.heap.size w w1 := by rw [hw1']; refine below_drewN ?_ n; go_grown
        have hzW : w.heap.size + 1 < w1.heap.size := by rw [hw1']; simp
        have hzW2 : w.heap.size < w1.heap.size := by omega
        clear hw1' hcut
        go_wp2_with fail
        refine (ha1 _).mono ?_
        clear ha1
        rintro e w2 ⟨rfl, rfl⟩
        go_wp2_with fail
        refine (ha2 _).mono ?_
        rintro e w3 ⟨rfl, rfl⟩
        go_wp2_with fail
        refine (ht1 _).mono ?_
        clear ht1
        rintro e w3 ⟨rfl, rfl⟩
        go_wp2_with fail
        refine (ht2 _).mono ?_
        clear ht2
        rintro e w4 ⟨rfl, rfl⟩
        have HD : Hid (Unit → d = (true && !(decide (Lib.trimLeftB wh 48 = []) && decide (Lib.trimRightB fr 48 = [])), Lib.trimLeftB wh 48, Lib.trimRightB fr 48, true)) := HDK
        generalize Lib.trimLeftB wh 48 = W at HD ⊢
        generalize Lib.trimRightB fr 48 = F at HD ⊢
        clear HDK
        by_cases hW : W = []
        · have hW0 : (B W).toList.isEmpty = true := by rw [isEmpty_B, hW]; rfl
          by_cases hF : F = []
          · have hF0 : (B F).toList.isEmpty = true := by rw [isEmpty_B, hF]; rfl
            have HD2 : Hid (Unit → d = (false, W, F, true)) := fun _ => by rw [HD.out (), hW, hF]; rfl
            clear HD hW hF
            go_wp2_with fail
            refine bodyPost_ret (v := decV (false, W, F, true)) ?_ rfl ⟨by rw [HD2.out ()], ?_⟩
            · simp [results, Tryd.results12, go_sem, decV, g0, g1, g2]
            · have hbz := hbW
              go_grown
          · have hF0 : (B F).toList.isEmpty = false := by rw [isEmpty_B]; cases F with | nil => exact absurd rfl hF | cons _ _ => rfl
            have HD2 : Hid (Unit → d = (true, W, F, true)) := fun _ => by rw [HD.out (), decide_eq_false hF]; simp
            clear HD hW hF
            go_wp2_with fail
            refine bodyPost_ret (v := decV (true, W, F, true)) ?_ rfl ⟨by rw [HD2.out ()], ?_⟩
            · simp [results, Tryd.results12, go_sem, decV, g0, g1, g2]
            · have hbz := hbW
              go_grown
        · have hW0 : (B W).toList.isEmpty = false := by rw [isEmpty_B]; cases W with | nil => exact absurd rfl hW | cons _ _ => rfl
          have HD2 : Hid (Unit → d = (true, W, F, true)) := fun _ => by rw [HD.out (), decide_eq_false hW]; simp
          clear HD hW
          go_wp2_with fail
          refine bodyPost_ret (v := decV (true, W, F, true)) ?_ rfl ⟨by rw [HD2.out ()], ?_⟩
          · simp [results, Tryd.results12, go_sem, decV, g0, g1, g2]
          · have hbz := hbW
            go_grown

set_option maxRecDepth 100000 in
set_option maxHeartbeats 2000000 in
theorem parse_plus (s : ByteArray) (m : Int) (w : World) (hs : s.size ≤ 1048576) (h0 : 0 < s.size) (h45 : ((s[0].toNat : Int) == 45) = false) (h43 : ((s[0].toNat : Int) == 43) = true) (hm : w.cell? ⟨0, 0, none⟩ = some (.int .i64 m)) :
    Calls Tryd.prog 12 #[.string s] w fun e w' => e = .returned (decV (decOf false (Lib.cut (s.extract 1 s.size).data.toList [46]).1 (Lib.cut (s.extract 1 s.size).data.toList [46]).2.1 (Lib.cut (s.extract 1 s.size).data.toList [46]).2.2)) ∧ Below w.heap.size w w' := by
  have hlt : 0 < w.heap.size := World.block_lt_of_cell? _ _ hm
  have hne : s.toList.isEmpty = false := ne_of_pos s h0
  have hR : (s.extract 1 s.size).size ≤ 1048576 := by first | exact hs | (rw [ByteArray.size_extract]; omega)
  have hcut := fun W hm => cut_c (s.extract 1 s.size) m W (by omega) hm
  have hl1 : (Lib.cut (s.extract 1 s.size).data.toList [46]).1.length ≤ 1048576 ∧ (Lib.cut (s.extract 1 s.size).data.toList [46]).2.1.length ≤ 1048576 := by
    rw [Lib.size_eq] at hR
    rw [Lib.cut]
    split <;> simp <;> omega
  generalize (Lib.cut (s.extract 1 s.size).data.toList [46]).1 = wh at hcut hl1 ⊢
  generalize (Lib.cut (s.extract 1 s.size).data.toList [46]).2.1 = fr at hcut hl1 ⊢
  generalize (Lib.cut (s.extract 1 s.size).data.toList [46]).2.2 = pt at hcut ⊢
  obtain ⟨d, hd⟩ : ∃ d, d = decOf false wh fr pt := ⟨_, rfl⟩
  rw [← hd]
  have hw1 : (B wh).size ≤ 1048576 := by rw [B_size]; exact hl1.1
  have hf1 : (B fr).size ≤ 1048576 := by rw [B_size]; exact hl1.2
  have ha1 := fun W => allD_any (B wh) W (by omega)
  have ha2 := fun W => allD_any (B fr) W (by omega)
  have ht1 := fun W => trimL_c (B wh) W
  have ht2 := fun W => trimR_c (B fr) W (by omega)
  simp only [B_data] at ha1 ha2 ht1 ht2
  cases b1 : allD wh
  · have HD : Hid (Unit → d = (false, [], [], false)) := fun _ => by rw [hd, decOf, b1]; rfl
    clear hd
    rw [b1] at ha1
    go_enter Tryd.func12, Tryd.ntmps12
    go_wp2_with fail
    refine (hcut _ ?_).mono ?_
    · exact cell_later (by go_grown) hm
    rintro e w1 ⟨rfl, n, hw1'⟩
    have g0 : w1.cell? ⟨w.heap.size, 0, none⟩ = some (.bool false) := by rw [hw1', World.cell?_drewN]; go_cell
    have g1 : w1.cell? ⟨w.heap.size, 1, none⟩ = some (.string ⟨#[]⟩) := by rw [hw1', World.cell?_drewN]; go_cell
    have g2 : w1.cell? ⟨w.heap.size, 2, none⟩ = some (.string ⟨#[]⟩) := by rw [hw1', World.cell?_drewN]; go_cell
    have k0 : w1.cell? ⟨w.heap.size + 1, 0, none⟩ = some (.bool false) := by rw [hw1', World.cell?_drewN]; go_cell
    have k1 : w1.cell? ⟨w.heap.size + 1, 1, none⟩ = some (.string ⟨#[]⟩) := by rw [hw1', World.cell?_drewN]; go_cell
    have k2 : w1.cell? ⟨w.heap.size + 1, 2, none⟩ = some (.string ⟨#[]⟩) := by rw [hw1', World.cell?_drewN]; go_cell
    have fz0 : ∀ i, w1.frozen? ⟨w.heap.size, i, none⟩ = false := fun i => by rw [hw1', World.frozen?_drewN, frozen?_alloc_cells]; exact World.frozen?_alloc_at (hn := rfl) ..
    have fz1 : ∀ i, w1.frozen? ⟨w.heap.size + 1, i, none⟩ = false := fun i => by rw [hw1', World.frozen?_drewN]; exact World.frozen?_alloc_at (hn := by simp) ..
    have hbW : Below w.heap.size w w1 := by rw [hw1']; refine below_drewN ?_ n; go_grown
    have hzW : w.heap.size + 1 < w1.heap.size := by rw [hw1']; simp
    have hzW2 : w.heap.size < w1.heap.size := by omega
    clear hw1' hcut
    go_wp2_with fail
    refine (ha1 _).mono ?_
    clear ha1
    rintro e w2 ⟨rfl, rfl⟩
    go_wp2_with fail
    refine bodyPost_ret (v := decV (false, [], [], false)) ?_ rfl ⟨by rw [HD.out ()], ?_⟩
    · simp [results, Tryd.results12, go_sem, decV, g0, g1, g2]; rfl
    · have hbz := hbW
      go_grown

  · rw [b1] at ha1
    cases pt
    · have HDK : Hid (Unit → d = (false && !(decide (Lib.trimLeftB wh 48 = []) && decide (Lib.trimRightB fr 48 = [])), Lib.trimLeftB wh 48, Lib.trimRightB fr 48, true)) := fun _ => by rw [hd, decOf, b1]; rfl
      clear hd
      go_enter Tryd.func12, Tryd.ntmps12
      go_wp2_with fail
      refine (hcut _ ?_).mono ?_
      · exact cell_later (by go_grown) hm
      rintro e w1 ⟨rfl, n, hw1'⟩
      have g0 : w1.cell? ⟨w.heap.size, 0, none⟩ = some (.bool false) := by rw [hw1', World.cell?_drewN]; go_cell
      have g1 : w1.cell? ⟨w.heap.size, 1, none⟩ = some (.string ⟨#[]⟩) := by rw [hw1', World.cell?_drewN]; go_cell
      have g2 : w1.cell? ⟨w.heap.size, 2, none⟩ = some (.string ⟨#[]⟩) := by rw [hw1', World.cell?_drewN]; go_cell
      have k0 : w1.cell? ⟨w.heap.size + 1, 0, none⟩ = some (.bool false) := by rw [hw1', World.cell?_drewN]; go_cell
      have k1 : w1.cell? ⟨w.heap.size + 1, 1, none⟩ = some (.string ⟨#[]⟩) := by rw [hw1', World.cell?_drewN]; go_cell
      have k2 : w1.cell? ⟨w.heap.size + 1, 2, none⟩ = some (.string ⟨#[]⟩) := by rw [hw1', World.cell?_drewN]; go_cell
      have fz0 : ∀ i, w1.frozen? ⟨w.heap.size, i, none⟩ = false := fun i => by rw [hw1', World.frozen?_drewN, frozen?_alloc_cells]; exact World.frozen?_alloc_at (hn := rfl) ..
      have fz1 : ∀ i, w1.frozen? ⟨w.heap.size + 1, i, none⟩ = false := fun i => by rw [hw1', World.frozen?_drewN]; exact World.frozen?_alloc_at (hn := by simp) ..
      have hbW : Below w.heap.size w w1 := by rw [hw1']; refine below_drewN ?_ n; go_grown
      have hzW : w.heap.size + 1 < w1.heap.size := by rw [hw1']; simp
      have hzW2 : w.heap.size < w1.heap.size := by omega
      clear hw1' hcut
      go_wp2_with fail
      refine (ha1 _).mono ?_
      clear ha1
      rintro e w2 ⟨rfl, rfl⟩
      go_wp2_with fail
      refine (ht1 _).mono ?_
      clear ht1
      rintro e w3 ⟨rfl, rfl⟩
      go_wp2_with fail
      refine (ht2 _).mono ?_
      clear ht2
      rintro e w4 ⟨rfl, rfl⟩
      have HD : Hid (Unit → d = (false && !(decide (Lib.trimLeftB wh 48 = []) && decide (Lib.trimRightB fr 48 = [])), Lib.trimLeftB wh 48, Lib.trimRightB fr 48, true)) := HDK
      generalize Lib.trimLeftB wh 48 = W at HD ⊢
      generalize Lib.trimRightB fr 48 = F at HD ⊢
      clear HDK
      by_cases hW : W = []
      · have hW0 : (B W).toList.isEmpty = true := by rw [isEmpty_B, hW]; rfl
        by_cases hF : F = []
        · have hF0 : (B F).toList.isEmpty = true := by rw [isEmpty_B, hF]; rfl
          have HD2 : Hid (Unit → d = (false, W, F, true)) := fun _ => by rw [HD.out (), hW, hF]; rfl
          clear HD hW hF
          go_wp2_with fail
          refine bodyPost_ret (v := decV (false, W, F, true)) ?_ rfl ⟨by rw [HD2.out ()], ?_⟩
          · simp [results, Tryd.results12, go_sem, decV, g0, g1, g2]
          · have hbz := hbW
            go_grown
        · have hF0 : (B F).toList.isEmpty = false := by rw [isEmpty_B]; cases F with | nil => exact absurd rfl hF | cons _ _ => rfl
          have HD2 : Hid (Unit → d = (false, W, F, true)) := fun _ => by rw [HD.out (), decide_eq_false hF]; simp
          clear HD hW hF
          go_wp2_with fail
          refine bodyPost_ret (v := decV (false, W, F, true)) ?_ rfl ⟨by rw [HD2.out ()], ?_⟩
          · simp [results, Tryd.results12, go_sem, decV, g0, g1, g2]
          · have hbz := hbW
            go_grown
      · have hW0 : (B W).toList.isEmpty = false := by rw [isEmpty_B]; cases W with | nil => exact absurd rfl hW | cons _ _ => rfl
        have HD2 : Hid (Unit → d = (false, W, F, true)) := fun _ => by rw [HD.out (), decide_eq_false hW]; simp
        clear HD hW
        go_wp2_with fail
        refine bodyPost_ret (v := decV (false, W, F, true)) ?_ rfl ⟨by rw [HD2.out ()], ?_⟩
        · simp [results, Tryd.results12, go_sem, decV, g0, g1, g2]
        · have hbz := hbW
          go_grown

    · cases b3 : allD fr
      · have HD : Hid (Unit → d = (false, [], [], false)) := fun _ => by rw [hd, decOf, b1, b3]; rfl
        clear hd
        rw [b3] at ha2
        go_enter Tryd.func12, Tryd.ntmps12
        go_wp2_with fail
        refine (hcut _ ?_).mono ?_
        · exact cell_later (by go_grown) hm
        rintro e w1 ⟨rfl, n, hw1'⟩
        have g0 : w1.cell? ⟨w.heap.size, 0, none⟩ = some (.bool false) := by rw [hw1', World.cell?_drewN]; go_cell
        have g1 : w1.cell? ⟨w.heap.size, 1, none⟩ = some (.string ⟨#[]⟩) := by rw [hw1', World.cell?_drewN]; go_cell
        have g2 : w1.cell? ⟨w.heap.size, 2, none⟩ = some (.string ⟨#[]⟩) := by rw [hw1', World.cell?_drewN]; go_cell
        have k0 : w1.cell? ⟨w.heap.size + 1, 0, none⟩ = some (.bool false) := by rw [hw1', World.cell?_drewN]; go_cell
        have k1 : w1.cell? ⟨w.heap.size + 1, 1, none⟩ = some (.string ⟨#[]⟩) := by rw [hw1', World.cell?_drewN]; go_cell
        have k2 : w1.cell? ⟨w.heap.size + 1, 2, none⟩ = some (.string ⟨#[]⟩) := by rw [hw1', World.cell?_drewN]; go_cell
        have fz0 : ∀ i, w1.frozen? ⟨w.heap.size, i, none⟩ = false := fun i => by rw [hw1', World.frozen?_drewN, frozen?_alloc_cells]; exact World.frozen?_alloc_at (hn := rfl) ..
        have fz1 : ∀ i, w1.frozen? ⟨w.heap.size + 1, i, none⟩ = false := fun i => by rw [hw1', World.frozen?_drewN]; exact World.frozen?_alloc_at (hn := by simp) ..
        have hbW : Below w.heap.size w w1 := by rw [hw1']; refine below_drewN ?_ n; go_grown
        have hzW : w.heap.size + 1 < w1.heap.size := by rw [hw1']; simp
        have hzW2 : w.heap.size < w1.heap.size := by omega
        clear hw1' hcut
        go_wp2_with fail
        refine (ha1 _).mono ?_
        clear ha1
        rintro e w2 ⟨rfl, rfl⟩
        go_wp2_with fail
        refine (ha2 _).mono ?_
        rintro e w3 ⟨rfl, rfl⟩
        go_wp2_with fail
        refine bodyPost_ret (v := decV (false, [], [], false)) ?_ rfl ⟨by rw [HD.out ()], ?_⟩
        · simp [results, Tryd.results12, go_sem, decV, g0, g1, g2]; rfl
        · have hbz := hbW
          go_grown

      · have HDK : Hid (Unit → d = (false && !(decide (Lib.trimLeftB wh 48 = []) && decide (Lib.trimRightB fr 48 = [])), Lib.trimLeftB wh 48, Lib.trimRightB fr 48, true)) := fun _ => by rw [hd, decOf, b1, b3]; rfl
        clear hd
        rw [b3] at ha2
        go_enter Tryd.func12, Tryd.ntmps12
        go_wp2_with fail
        refine (hcut _ ?_).mono ?_
        · exact cell_later (by go_grown) hm
        rintro e w1 ⟨rfl, n, hw1'⟩
        have g0 : w1.cell? ⟨w.heap.size, 0, none⟩ = some (.bool false) := by rw [hw1', World.cell?_drewN]; go_cell
        have g1 : w1.cell? ⟨w.heap.size, 1, none⟩ = some (.string ⟨#[]⟩) := by rw [hw1', World.cell?_drewN]; go_cell
        have g2 : w1.cell? ⟨w.heap.size, 2, none⟩ = some (.string ⟨#[]⟩) := by rw [hw1', World.cell?_drewN]; go_cell
        have k0 : w1.cell? ⟨w.heap.size + 1, 0, none⟩ = some (.bool false) := by rw [hw1', World.cell?_drewN]; go_cell
        have k1 : w1.cell? ⟨w.heap.size + 1, 1, none⟩ = some (.string ⟨#[]⟩) := by rw [hw1', World.cell?_drewN]; go_cell
        have k2 : w1.cell? ⟨w.heap.size + 1, 2, none⟩ = some (.string ⟨#[]⟩) := by rw [hw1', World.cell?_drewN]; go_cell
        have fz0 : ∀ i, w1.frozen? ⟨w.heap.size, i, none⟩ = false := fun i => by rw [hw1', World.frozen?_drewN, frozen?_alloc_cells]; exact World.frozen?_alloc_at (hn := rfl) ..
        have fz1 : ∀ i, w1.frozen? ⟨w.heap.size + 1, i, none⟩ = false := fun i => by rw [hw1', World.frozen?_drewN]; exact World.frozen?_alloc_at (hn := by simp) ..
        have hbW : Below w.heap.size w w1 := by rw [hw1']; refine below_drewN ?_ n; go_grown
        have hzW : w.heap.size + 1 < w1.heap.size := by rw [hw1']; simp
        have hzW2 : w.heap.size < w1.heap.size := by omega
        clear hw1' hcut
        go_wp2_with fail
        refine (ha1 _).mono ?_
        clear ha1
        rintro e w2 ⟨rfl, rfl⟩
        go_wp2_with fail
        refine (ha2 _).mono ?_
        rintro e w3 ⟨rfl, rfl⟩
        go_wp2_with fail
        refine (ht1 _).mono ?_
        clear ht1
        rintro e w3 ⟨rfl, rfl⟩
        go_wp2_with fail
        refine (ht2 _).mono ?_
        clear ht2
        rintro e w4 ⟨rfl, rfl⟩
        have HD : Hid (Unit → d = (false && !(decide (Lib.trimLeftB wh 48 = []) && decide (Lib.trimRightB fr 48 = [])), Lib.trimLeftB wh 48, Lib.trimRightB fr 48, true)) := HDK
        generalize Lib.trimLeftB wh 48 = W at HD ⊢
        generalize Lib.trimRightB fr 48 = F at HD ⊢
        clear HDK
        by_cases hW : W = []
        · have hW0 : (B W).toList.isEmpty = true := by rw [isEmpty_B, hW]; rfl
          by_cases hF : F = []
          · have hF0 : (B F).toList.isEmpty = true := by rw [isEmpty_B, hF]; rfl
            have HD2 : Hid (Unit → d = (false, W, F, true)) := fun _ => by rw [HD.out (), hW, hF]; rfl
            clear HD hW hF
            go_wp2_with fail
            refine bodyPost_ret (v := decV (false, W, F, true)) ?_ rfl ⟨by rw [HD2.out ()], ?_⟩
            · simp [results, Tryd.results12, go_sem, decV, g0, g1, g2]
            · have hbz := hbW
              go_grown
          · have hF0 : (B F).toList.isEmpty = false := by rw [isEmpty_B]; cases F with | nil => exact absurd rfl hF | cons _ _ => rfl
            have HD2 : Hid (Unit → d = (false, W, F, true)) := fun _ => by rw [HD.out (), decide_eq_false hF]; simp
            clear HD hW hF
            go_wp2_with fail
            refine bodyPost_ret (v := decV (false, W, F, true)) ?_ rfl ⟨by rw [HD2.out ()], ?_⟩
            · simp [results, Tryd.results12, go_sem, decV, g0, g1, g2]
            · have hbz := hbW
              go_grown
        · have hW0 : (B W).toList.isEmpty = false := by rw [isEmpty_B]; cases W with | nil => exact absurd rfl hW | cons _ _ => rfl
          have HD2 : Hid (Unit → d = (false, W, F, true)) := fun _ => by rw [HD.out (), decide_eq_false hW]; simp
          clear HD hW
          go_wp2_with fail
          refine bodyPost_ret (v := decV (false, W, F, true)) ?_ rfl ⟨by rw [HD2.out ()], ?_⟩
          · simp [results, Tryd.results12, go_sem, decV, g0, g1, g2]
          · have hbz := hbW
            go_grown

set_option maxRecDepth 100000 in
set_option maxHeartbeats 2000000 in
theorem parse_none (s : ByteArray) (m : Int) (w : World) (hs : s.size ≤ 1048576) (h0 : 0 < s.size) (h45 : ((s[0].toNat : Int) == 45) = false) (h43 : ((s[0].toNat : Int) == 43) = false) (hm : w.cell? ⟨0, 0, none⟩ = some (.int .i64 m)) :
    Calls Tryd.prog 12 #[.string s] w fun e w' => e = .returned (decV (decOf false (Lib.cut s.data.toList [46]).1 (Lib.cut s.data.toList [46]).2.1 (Lib.cut s.data.toList [46]).2.2)) ∧ Below w.heap.size w w' := by
  have hlt : 0 < w.heap.size := World.block_lt_of_cell? _ _ hm
  have hne : s.toList.isEmpty = false := ne_of_pos s h0
  have hR : s.size ≤ 1048576 := by first | exact hs | (rw [ByteArray.size_extract]; omega)
  have hcut := fun W hm => cut_c s m W (by omega) hm
  have hl1 : (Lib.cut s.data.toList [46]).1.length ≤ 1048576 ∧ (Lib.cut s.data.toList [46]).2.1.length ≤ 1048576 := by
    rw [Lib.size_eq] at hR
    rw [Lib.cut]
    split <;> simp <;> omega
  generalize (Lib.cut s.data.toList [46]).1 = wh at hcut hl1 ⊢
  generalize (Lib.cut s.data.toList [46]).2.1 = fr at hcut hl1 ⊢
  generalize (Lib.cut s.data.toList [46]).2.2 = pt at hcut ⊢
  obtain ⟨d, hd⟩ : ∃ d, d = decOf false wh fr pt := ⟨_, rfl⟩
  rw [← hd]
  have hw1 : (B wh).size ≤ 1048576 := by rw [B_size]; exact hl1.1
  have hf1 : (B fr).size ≤ 1048576 := by rw [B_size]; exact hl1.2
  have ha1 := fun W => allD_any (B wh) W (by omega)
  have ha2 := fun W => allD_any (B fr) W (by omega)
  have ht1 := fun W => trimL_c (B wh) W
  have ht2 := fun W => trimR_c (B fr) W (by omega)
  simp only [B_data] at ha1 ha2 ht1 ht2
  cases b1 : allD wh
  · have HD : Hid (Unit → d = (false, [], [], false)) := fun _ => by rw [hd, decOf, b1]; rfl
    clear hd
    rw [b1] at ha1
    go_enter Tryd.func12, Tryd.ntmps12
    go_wp2_with fail
    refine (hcut _ ?_).mono ?_
    · exact cell_later (by go_grown) hm
    rintro e w1 ⟨rfl, n, hw1'⟩
    have g0 : w1.cell? ⟨w.heap.size, 0, none⟩ = some (.bool false) := by rw [hw1', World.cell?_drewN]; go_cell
    have g1 : w1.cell? ⟨w.heap.size, 1, none⟩ = some (.string ⟨#[]⟩) := by rw [hw1', World.cell?_drewN]; go_cell
    have g2 : w1.cell? ⟨w.heap.size, 2, none⟩ = some (.string ⟨#[]⟩) := by rw [hw1', World.cell?_drewN]; go_cell
    have k0 : w1.cell? ⟨w.heap.size + 1, 0, none⟩ = some (.bool false) := by rw [hw1', World.cell?_drewN]; go_cell
    have k1 : w1.cell? ⟨w.heap.size + 1, 1, none⟩ = some (.string ⟨#[]⟩) := by rw [hw1', World.cell?_drewN]; go_cell
    have k2 : w1.cell? ⟨w.heap.size + 1, 2, none⟩ = some (.string ⟨#[]⟩) := by rw [hw1', World.cell?_drewN]; go_cell
    have fz0 : ∀ i, w1.frozen? ⟨w.heap.size, i, none⟩ = false := fun i => by rw [hw1', World.frozen?_drewN, frozen?_alloc_cells]; exact World.frozen?_alloc_at (hn := rfl) ..
    have fz1 : ∀ i, w1.frozen? ⟨w.heap.size + 1, i, none⟩ = false := fun i => by rw [hw1', World.frozen?_drewN]; exact World.frozen?_alloc_at (hn := by simp) ..
    have hbW : Below w.heap.size w w1 := by rw [hw1']; refine below_drewN ?_ n; go_grown
    have hzW : w.heap.size + 1 < w1.heap.size := by rw [hw1']; simp
    have hzW2 : w.heap.size < w1.heap.size := by omega
    clear hw1' hcut
    go_wp2_with fail
    refine (ha1 _).mono ?_
    clear ha1
    rintro e w2 ⟨rfl, rfl⟩
    go_wp2_with fail
    refine bodyPost_ret (v := decV (false, [], [], false)) ?_ rfl ⟨by rw [HD.out ()], ?_⟩
    · simp [results, Tryd.results12, go_sem, decV, g0, g1, g2]; rfl
    · have hbz := hbW
      go_grown

  · rw [b1] at ha1
    cases pt
    · have HDK : Hid (Unit → d = (false && !(decide (Lib.trimLeftB wh 48 = []) && decide (Lib.trimRightB fr 48 = [])), Lib.trimLeftB wh 48, Lib.trimRightB fr 48, true)) := fun _ => by rw [hd, decOf, b1]; rfl
      clear hd
      go_enter Tryd.func12, Tryd.ntmps12
      go_wp2_with fail
      refine (hcut _ ?_).mono ?_
      · exact cell_later (by go_grown) hm
      rintro e w1 ⟨rfl, n, hw1'⟩
      have g0 : w1.cell? ⟨w.heap.size, 0, none⟩ = some (.bool false) := by rw [hw1', World.cell?_drewN]; go_cell
      have g1 : w1.cell? ⟨w.heap.size, 1, none⟩ = some (.string ⟨#[]⟩) := by rw [hw1', World.cell?_drewN]; go_cell
      have g2 : w1.cell? ⟨w.heap.size, 2, none⟩ = some (.string ⟨#[]⟩) := by rw [hw1', World.cell?_drewN]; go_cell
      have k0 : w1.cell? ⟨w.heap.size + 1, 0, none⟩ = some (.bool false) := by rw [hw1', World.cell?_drewN]; go_cell
      have k1 : w1.cell? ⟨w.heap.size + 1, 1, none⟩ = some (.string ⟨#[]⟩) := by rw [hw1', World.cell?_drewN]; go_cell
      have k2 : w1.cell? ⟨w.heap.size + 1, 2, none⟩ = some (.string ⟨#[]⟩) := by rw [hw1', World.cell?_drewN]; go_cell
      have fz0 : ∀ i, w1.frozen? ⟨w.heap.size, i, none⟩ = false := fun i => by rw [hw1', World.frozen?_drewN, frozen?_alloc_cells]; exact World.frozen?_alloc_at (hn := rfl) ..
      have fz1 : ∀ i, w1.frozen? ⟨w.heap.size + 1, i, none⟩ = false := fun i => by rw [hw1', World.frozen?_drewN]; exact World.frozen?_alloc_at (hn := by simp) ..
      have hbW : Below w.heap.size w w1 := by rw [hw1']; refine below_drewN ?_ n; go_grown
      have hzW : w.heap.size + 1 < w1.heap.size := by rw [hw1']; simp
      have hzW2 : w.heap.size < w1.heap.size := by omega
      clear hw1' hcut
      go_wp2_with fail
      refine (ha1 _).mono ?_
      clear ha1
      rintro e w2 ⟨rfl, rfl⟩
      go_wp2_with fail
      refine (ht1 _).mono ?_
      clear ht1
      rintro e w3 ⟨rfl, rfl⟩
      go_wp2_with fail
      refine (ht2 _).mono ?_
      clear ht2
      rintro e w4 ⟨rfl, rfl⟩
      have HD : Hid (Unit → d = (false && !(decide (Lib.trimLeftB wh 48 = []) && decide (Lib.trimRightB fr 48 = [])), Lib.trimLeftB wh 48, Lib.trimRightB fr 48, true)) := HDK
      generalize Lib.trimLeftB wh 48 = W at HD ⊢
      generalize Lib.trimRightB fr 48 = F at HD ⊢
      clear HDK
      by_cases hW : W = []
      · have hW0 : (B W).toList.isEmpty = true := by rw [isEmpty_B, hW]; rfl
        by_cases hF : F = []
        · have hF0 : (B F).toList.isEmpty = true := by rw [isEmpty_B, hF]; rfl
          have HD2 : Hid (Unit → d = (false, W, F, true)) := fun _ => by rw [HD.out (), hW, hF]; rfl
          clear HD hW hF
          go_wp2_with fail
          refine bodyPost_ret (v := decV (false, W, F, true)) ?_ rfl ⟨by rw [HD2.out ()], ?_⟩
          · simp [results, Tryd.results12, go_sem, decV, g0, g1, g2]
          · have hbz := hbW
            go_grown
        · have hF0 : (B F).toList.isEmpty = false := by rw [isEmpty_B]; cases F with | nil => exact absurd rfl hF | cons _ _ => rfl
          have HD2 : Hid (Unit → d = (false, W, F, true)) := fun _ => by rw [HD.out (), decide_eq_false hF]; simp
          clear HD hW hF
          go_wp2_with fail
          refine bodyPost_ret (v := decV (false, W, F, true)) ?_ rfl ⟨by rw [HD2.out ()], ?_⟩
          · simp [results, Tryd.results12, go_sem, decV, g0, g1, g2]
          · have hbz := hbW
            go_grown
      · have hW0 : (B W).toList.isEmpty = false := by rw [isEmpty_B]; cases W with | nil => exact absurd rfl hW | cons _ _ => rfl
        have HD2 : Hid (Unit → d = (false, W, F, true)) := fun _ => by rw [HD.out (), decide_eq_false hW]; simp
        clear HD hW
        go_wp2_with fail
        refine bodyPost_ret (v := decV (false, W, F, true)) ?_ rfl ⟨by rw [HD2.out ()], ?_⟩
        · simp [results, Tryd.results12, go_sem, decV, g0, g1, g2]
        · have hbz := hbW
          go_grown

    · cases b3 : allD fr
      · have HD : Hid (Unit → d = (false, [], [], false)) := fun _ => by rw [hd, decOf, b1, b3]; rfl
        clear hd
        rw [b3] at ha2
        go_enter Tryd.func12, Tryd.ntmps12
        go_wp2_with fail
        refine (hcut _ ?_).mono ?_
        · exact cell_later (by go_grown) hm
        rintro e w1 ⟨rfl, n, hw1'⟩
        have g0 : w1.cell? ⟨w.heap.size, 0, none⟩ = some (.bool false) := by rw [hw1', World.cell?_drewN]; go_cell
        have g1 : w1.cell? ⟨w.heap.size, 1, none⟩ = some (.string ⟨#[]⟩) := by rw [hw1', World.cell?_drewN]; go_cell
        have g2 : w1.cell? ⟨w.heap.size, 2, none⟩ = some (.string ⟨#[]⟩) := by rw [hw1', World.cell?_drewN]; go_cell
        have k0 : w1.cell? ⟨w.heap.size + 1, 0, none⟩ = some (.bool false) := by rw [hw1', World.cell?_drewN]; go_cell
        have k1 : w1.cell? ⟨w.heap.size + 1, 1, none⟩ = some (.string ⟨#[]⟩) := by rw [hw1', World.cell?_drewN]; go_cell
        have k2 : w1.cell? ⟨w.heap.size + 1, 2, none⟩ = some (.string ⟨#[]⟩) := by rw [hw1', World.cell?_drewN]; go_cell
        have fz0 : ∀ i, w1.frozen? ⟨w.heap.size, i, none⟩ = false := fun i => by rw [hw1', World.frozen?_drewN, frozen?_alloc_cells]; exact World.frozen?_alloc_at (hn := rfl) ..
        have fz1 : ∀ i, w1.frozen? ⟨w.heap.size + 1, i, none⟩ = false := fun i => by rw [hw1', World.frozen?_drewN]; exact World.frozen?_alloc_at (hn := by simp) ..
        have hbW : Below w.heap.size w w1 := by rw [hw1']; refine below_drewN ?_ n; go_grown
        have hzW : w.heap.size + 1 < w1.heap.size := by rw [hw1']; simp
        have hzW2 : w.heap.size < w1.heap.size := by omega
        clear hw1' hcut
        go_wp2_with fail
        refine (ha1 _).mono ?_
        clear ha1
        rintro e w2 ⟨rfl, rfl⟩
        go_wp2_with fail
        refine (ha2 _).mono ?_
        rintro e w3 ⟨rfl, rfl⟩
        go_wp2_with fail
        refine bodyPost_ret (v := decV (false, [], [], false)) ?_ rfl ⟨by rw [HD.out ()], ?_⟩
        · simp [results, Tryd.results12, go_sem, decV, g0, g1, g2]; rfl
        · have hbz := hbW
          go_grown

      · have HDK : Hid (Unit → d = (false && !(decide (Lib.trimLeftB wh 48 = []) && decide (Lib.trimRightB fr 48 = [])), Lib.trimLeftB wh 48, Lib.trimRightB fr 48, true)) := fun _ => by rw [hd, decOf, b1, b3]; rfl
        clear hd
        rw [b3] at ha2
        go_enter Tryd.func12, Tryd.ntmps12
        go_wp2_with fail
        refine (hcut _ ?_).mono ?_
        · exact cell_later (by go_grown) hm
        rintro e w1 ⟨rfl, n, hw1'⟩
        have g0 : w1.cell? ⟨w.heap.size, 0, none⟩ = some (.bool false) := by rw [hw1', World.cell?_drewN]; go_cell
        have g1 : w1.cell? ⟨w.heap.size, 1, none⟩ = some (.string ⟨#[]⟩) := by rw [hw1', World.cell?_drewN]; go_cell
        have g2 : w1.cell? ⟨w.heap.size, 2, none⟩ = some (.string ⟨#[]⟩) := by rw [hw1', World.cell?_drewN]; go_cell
        have k0 : w1.cell? ⟨w.heap.size + 1, 0, none⟩ = some (.bool false) := by rw [hw1', World.cell?_drewN]; go_cell
        have k1 : w1.cell? ⟨w.heap.size + 1, 1, none⟩ = some (.string ⟨#[]⟩) := by rw [hw1', World.cell?_drewN]; go_cell
        have k2 : w1.cell? ⟨w.heap.size + 1, 2, none⟩ = some (.string ⟨#[]⟩) := by rw [hw1', World.cell?_drewN]; go_cell
        have fz0 : ∀ i, w1.frozen? ⟨w.heap.size, i, none⟩ = false := fun i => by rw [hw1', World.frozen?_drewN, frozen?_alloc_cells]; exact World.frozen?_alloc_at (hn := rfl) ..
        have fz1 : ∀ i, w1.frozen? ⟨w.heap.size + 1, i, none⟩ = false := fun i => by rw [hw1', World.frozen?_drewN]; exact World.frozen?_alloc_at (hn := by simp) ..
        have hbW : Below w.heap.size w w1 := by rw [hw1']; refine below_drewN ?_ n; go_grown
        have hzW : w.heap.size + 1 < w1.heap.size := by rw [hw1']; simp
        have hzW2 : w.heap.size < w1.heap.size := by omega
        clear hw1' hcut
        go_wp2_with fail
        refine (ha1 _).mono ?_
        clear ha1
        rintro e w2 ⟨rfl, rfl⟩
        go_wp2_with fail
        refine (ha2 _).mono ?_
        rintro e w3 ⟨rfl, rfl⟩
        go_wp2_with fail
        refine (ht1 _).mono ?_
        clear ht1
        rintro e w3 ⟨rfl, rfl⟩
        go_wp2_with fail
        refine (ht2 _).mono ?_
        clear ht2
        rintro e w4 ⟨rfl, rfl⟩
        have HD : Hid (Unit → d = (false && !(decide (Lib.trimLeftB wh 48 = []) && decide (Lib.trimRightB fr 48 = [])), Lib.trimLeftB wh 48, Lib.trimRightB fr 48, true)) := HDK
        generalize Lib.trimLeftB wh 48 = W at HD ⊢
        generalize Lib.trimRightB fr 48 = F at HD ⊢
        clear HDK
        by_cases hW : W = []
        · have hW0 : (B W).toList.isEmpty = true := by rw [isEmpty_B, hW]; rfl
          by_cases hF : F = []
          · have hF0 : (B F).toList.isEmpty = true := by rw [isEmpty_B, hF]; rfl
            have HD2 : Hid (Unit → d = (false, W, F, true)) := fun _ => by rw [HD.out (), hW, hF]; rfl
            clear HD hW hF
            go_wp2_with fail
            refine bodyPost_ret (v := decV (false, W, F, true)) ?_ rfl ⟨by rw [HD2.out ()], ?_⟩
            · simp [results, Tryd.results12, go_sem, decV, g0, g1, g2]
            · have hbz := hbW
              go_grown
          · have hF0 : (B F).toList.isEmpty = false := by rw [isEmpty_B]; cases F with | nil => exact absurd rfl hF | cons _ _ => rfl
            have HD2 : Hid (Unit → d = (false, W, F, true)) := fun _ => by rw [HD.out (), decide_eq_false hF]; simp
            clear HD hW hF
            go_wp2_with fail
            refine bodyPost_ret (v := decV (false, W, F, true)) ?_ rfl ⟨by rw [HD2.out ()], ?_⟩
            · simp [results, Tryd.results12, go_sem, decV, g0, g1, g2]
            · have hbz := hbW
              go_grown
        · have hW0 : (B W).toList.isEmpty = false := by rw [isEmpty_B]; cases W with | nil => exact absurd rfl hW | cons _ _ => rfl
          have HD2 : Hid (Unit → d = (false, W, F, true)) := fun _ => by rw [HD.out (), decide_eq_false hW]; simp
          clear HD hW
          go_wp2_with fail
          refine bodyPost_ret (v := decV (false, W, F, true)) ?_ rfl ⟨by rw [HD2.out ()], ?_⟩
          · simp [results, Tryd.results12, go_sem, decV, g0, g1, g2]
          · have hbz := hbW
            go_grown

set_option maxRecDepth 100000 in
set_option maxHeartbeats 2000000 in
theorem parse_empty (s : ByteArray) (m : Int) (w : World) (hs : s.size ≤ 1048576) (hne : s.toList.isEmpty = true) (hm : w.cell? ⟨0, 0, none⟩ = some (.int .i64 m)) :
    Calls Tryd.prog 12 #[.string s] w fun e w' => e = .returned (decV (decOf false (Lib.cut s.data.toList [46]).1 (Lib.cut s.data.toList [46]).2.1 (Lib.cut s.data.toList [46]).2.2)) ∧ Below w.heap.size w w' := by
  have hlt : 0 < w.heap.size := World.block_lt_of_cell? _ _ hm
  have hR : s.size ≤ 1048576 := by first | exact hs | (rw [ByteArray.size_extract]; omega)
  have hcut := fun W hm => cut_c s m W (by omega) hm
  have hl1 : (Lib.cut s.data.toList [46]).1.length ≤ 1048576 ∧ (Lib.cut s.data.toList [46]).2.1.length ≤ 1048576 := by
    rw [Lib.size_eq] at hR
    rw [Lib.cut]
    split <;> simp <;> omega
  generalize (Lib.cut s.data.toList [46]).1 = wh at hcut hl1 ⊢
  generalize (Lib.cut s.data.toList [46]).2.1 = fr at hcut hl1 ⊢
  generalize (Lib.cut s.data.toList [46]).2.2 = pt at hcut ⊢
  obtain ⟨d, hd⟩ : ∃ d, d = decOf false wh fr pt := ⟨_, rfl⟩
  rw [← hd]
  have hw1 : (B wh).size ≤ 1048576 := by rw [B_size]; exact hl1.1
  have hf1 : (B fr).size ≤ 1048576 := by rw [B_size]; exact hl1.2
  have ha1 := fun W => allD_any (B wh) W (by omega)
  have ha2 := fun W => allD_any (B fr) W (by omega)
  have ht1 := fun W => trimL_c (B wh) W
  have ht2 := fun W => trimR_c (B fr) W (by omega)
  simp only [B_data] at ha1 ha2 ht1 ht2
  cases b1 : allD wh
  · have HD : Hid (Unit → d = (false, [], [], false)) := fun _ => by rw [hd, decOf, b1]; rfl
    clear hd
    rw [b1] at ha1
    go_enter Tryd.func12, Tryd.ntmps12
    go_wp2_with fail
    refine (hcut _ ?_).mono ?_
    · exact cell_later (by go_grown) hm
    rintro e w1 ⟨rfl, n, hw1'⟩
    have g0 : w1.cell? ⟨w.heap.size, 0, none⟩ = some (.bool false) := by rw [hw1', World.cell?_drewN]; go_cell
    have g1 : w1.cell? ⟨w.heap.size, 1, none⟩ = some (.string ⟨#[]⟩) := by rw [hw1', World.cell?_drewN]; go_cell
    have g2 : w1.cell? ⟨w.heap.size, 2, none⟩ = some (.string ⟨#[]⟩) := by rw [hw1', World.cell?_drewN]; go_cell
    have k0 : w1.cell? ⟨w.heap.size + 1, 0, none⟩ = some (.bool false) := by rw [hw1', World.cell?_drewN]; go_cell
    have k1 : w1.cell? ⟨w.heap.size + 1, 1, none⟩ = some (.string ⟨#[]⟩) := by rw [hw1', World.cell?_drewN]; go_cell
    have k2 : w1.cell? ⟨w.heap.size + 1, 2, none⟩ = some (.string ⟨#[]⟩) := by rw [hw1', World.cell?_drewN]; go_cell
    have fz0 : ∀ i, w1.frozen? ⟨w.heap.size, i, none⟩ = false := fun i => by rw [hw1', World.frozen?_drewN, frozen?_alloc_cells]; exact World.frozen?_alloc_at (hn := rfl) ..
    have fz1 : ∀ i, w1.frozen? ⟨w.heap.size + 1, i, none⟩ = false := fun i => by rw [hw1', World.frozen?_drewN]; exact World.frozen?_alloc_at (hn := by simp) ..
    have hbW : Below w.heap.size w w1 := by rw [hw1']; refine below_drewN ?_ n; go_grown
    have hzW : w.heap.size + 1 < w1.heap.size := by rw [hw1']; simp
    have hzW2 : w.heap.size < w1.heap.size := by omega
    clear hw1' hcut
    go_wp2_with fail
    refine (ha1 _).mono ?_
    clear ha1
    rintro e w2 ⟨rfl, rfl⟩
    go_wp2_with fail
    refine bodyPost_ret (v := decV (false, [], [], false)) ?_ rfl ⟨by rw [HD.out ()], ?_⟩
    · simp [results, Tryd.results12, go_sem, decV, g0, g1, g2]; rfl
    · have hbz := hbW
      go_grown

  · rw [b1] at ha1
    cases pt
    · have HDK : Hid (Unit → d = (false && !(decide (Lib.trimLeftB wh 48 = []) && decide (Lib.trimRightB fr 48 = [])), Lib.trimLeftB wh 48, Lib.trimRightB fr 48, true)) := fun _ => by rw [hd, decOf, b1]; rfl
      clear hd
      go_enter Tryd.func12, Tryd.ntmps12
      go_wp2_with fail
      refine (hcut _ ?_).mono ?_
      · exact cell_later (by go_grown) hm
      rintro e w1 ⟨rfl, n, hw1'⟩
      have g0 : w1.cell? ⟨w.heap.size, 0, none⟩ = some (.bool false) := by rw [hw1', World.cell?_drewN]; go_cell
      have g1 : w1.cell? ⟨w.heap.size, 1, none⟩ = some (.string ⟨#[]⟩) := by rw [hw1', World.cell?_drewN]; go_cell
      have g2 : w1.cell? ⟨w.heap.size, 2, none⟩ = some (.string ⟨#[]⟩) := by rw [hw1', World.cell?_drewN]; go_cell
      have k0 : w1.cell? ⟨w.heap.size + 1, 0, none⟩ = some (.bool false) := by rw [hw1', World.cell?_drewN]; go_cell
      have k1 : w1.cell? ⟨w.heap.size + 1, 1, none⟩ = some (.string ⟨#[]⟩) := by rw [hw1', World.cell?_drewN]; go_cell
      have k2 : w1.cell? ⟨w.heap.size + 1, 2, none⟩ = some (.string ⟨#[]⟩) := by rw [hw1', World.cell?_drewN]; go_cell
      have fz0 : ∀ i, w1.frozen? ⟨w.heap.size, i, none⟩ = false := fun i => by rw [hw1', World.frozen?_drewN, frozen?_alloc_cells]; exact World.frozen?_alloc_at (hn := rfl) ..
      have fz1 : ∀ i, w1.frozen? ⟨w.heap.size + 1, i, none⟩ = false := fun i => by rw [hw1', World.frozen?_drewN]; exact World.frozen?_alloc_at (hn := by simp) ..
      have hbW : Below w.heap.size w w1 := by rw [hw1']; refine below_drewN ?_ n; go_grown
      have hzW : w.heap.size + 1 < w1.heap.size := by rw [hw1']; simp
      have hzW2 : w.heap.size < w1.heap.size := by omega
      clear hw1' hcut
      go_wp2_with fail
      refine (ha1 _).mono ?_
      clear ha1
      rintro e w2 ⟨rfl, rfl⟩
      go_wp2_with fail
      refine (ht1 _).mono ?_
      clear ht1
      rintro e w3 ⟨rfl, rfl⟩
      go_wp2_with fail
      refine (ht2 _).mono ?_
      clear ht2
      rintro e w4 ⟨rfl, rfl⟩
      have HD : Hid (Unit → d = (false && !(decide (Lib.trimLeftB wh 48 = []) && decide (Lib.trimRightB fr 48 = [])), Lib.trimLeftB wh 48, Lib.trimRightB fr 48, true)) := HDK
      generalize Lib.trimLeftB wh 48 = W at HD ⊢
      generalize Lib.trimRightB fr 48 = F at HD ⊢
      clear HDK
      by_cases hW : W = []
      · have hW0 : (B W).toList.isEmpty = true := by rw [isEmpty_B, hW]; rfl
        by_cases hF : F = []
        · have hF0 : (B F).toList.isEmpty = true := by rw [isEmpty_B, hF]; rfl
          have HD2 : Hid (Unit → d = (false, W, F, true)) := fun _ => by rw [HD.out (), hW, hF]; rfl
          clear HD hW hF
          go_wp2_with fail
          refine bodyPost_ret (v := decV (false, W, F, true)) ?_ rfl ⟨by rw [HD2.out ()], ?_⟩
          · simp [results, Tryd.results12, go_sem, decV, g0, g1, g2]
          · have hbz := hbW
            go_grown
        · have hF0 : (B F).toList.isEmpty = false := by rw [isEmpty_B]; cases F with | nil => exact absurd rfl hF | cons _ _ => rfl
          have HD2 : Hid (Unit → d = (false, W, F, true)) := fun _ => by rw [HD.out (), decide_eq_false hF]; simp
          clear HD hW hF
          go_wp2_with fail
          refine bodyPost_ret (v := decV (false, W, F, true)) ?_ rfl ⟨by rw [HD2.out ()], ?_⟩
          · simp [results, Tryd.results12, go_sem, decV, g0, g1, g2]
          · have hbz := hbW
            go_grown
      · have hW0 : (B W).toList.isEmpty = false := by rw [isEmpty_B]; cases W with | nil => exact absurd rfl hW | cons _ _ => rfl
        have HD2 : Hid (Unit → d = (false, W, F, true)) := fun _ => by rw [HD.out (), decide_eq_false hW]; simp
        clear HD hW
        go_wp2_with fail
        refine bodyPost_ret (v := decV (false, W, F, true)) ?_ rfl ⟨by rw [HD2.out ()], ?_⟩
        · simp [results, Tryd.results12, go_sem, decV, g0, g1, g2]
        · have hbz := hbW
          go_grown

    · cases b3 : allD fr
      · have HD : Hid (Unit → d = (false, [], [], false)) := fun _ => by rw [hd, decOf, b1, b3]; rfl
        clear hd
        rw [b3] at ha2
        go_enter Tryd.func12, Tryd.ntmps12
        go_wp2_with fail
        refine (hcut _ ?_).mono ?_
        · exact cell_later (by go_grown) hm
        rintro e w1 ⟨rfl, n, hw1'⟩
        have g0 : w1.cell? ⟨w.heap.size, 0, none⟩ = some (.bool false) := by rw [hw1', World.cell?_drewN]; go_cell
        have g1 : w1.cell? ⟨w.heap.size, 1, none⟩ = some (.string ⟨#[]⟩) := by rw [hw1', World.cell?_drewN]; go_cell
        have g2 : w1.cell? ⟨w.heap.size, 2, none⟩ = some (.string ⟨#[]⟩) := by rw [hw1', World.cell?_drewN]; go_cell
        have k0 : w1.cell? ⟨w.heap.size + 1, 0, none⟩ = some (.bool false) := by rw [hw1', World.cell?_drewN]; go_cell
        have k1 : w1.cell? ⟨w.heap.size + 1, 1, none⟩ = some (.string ⟨#[]⟩) := by rw [hw1', World.cell?_drewN]; go_cell
        have k2 : w1.cell? ⟨w.heap.size + 1, 2, none⟩ = some (.string ⟨#[]⟩) := by rw [hw1', World.cell?_drewN]; go_cell
        have fz0 : ∀ i, w1.frozen? ⟨w.heap.size, i, none⟩ = false := fun i => by rw [hw1', World.frozen?_drewN, frozen?_alloc_cells]; exact World.frozen?_alloc_at (hn := rfl) ..
        have fz1 : ∀ i, w1.frozen? ⟨w.heap.size + 1, i, none⟩ = false := fun i => by rw [hw1', World.frozen?_drewN]; exact World.frozen?_alloc_at (hn := by simp) ..
        have hbW : Below w.heap.size w w1 := by rw [hw1']; refine below_drewN ?_ n; go_grown
        have hzW : w.heap.size + 1 < w1.heap.size := by rw [hw1']; simp
        have hzW2 : w.heap.size < w1.heap.size := by omega
        clear hw1' hcut
        go_wp2_with fail
        refine (ha1 _).mono ?_
        clear ha1
        rintro e w2 ⟨rfl, rfl⟩
        go_wp2_with fail
        refine (ha2 _).mono ?_
        rintro e w3 ⟨rfl, rfl⟩
        go_wp2_with fail
        refine bodyPost_ret (v := decV (false, [], [], false)) ?_ rfl ⟨by rw [HD.out ()], ?_⟩
        · simp [results, Tryd.results12, go_sem, decV, g0, g1, g2]; rfl
        · have hbz := hbW
          go_grown

      · have HDK : Hid (Unit → d = (false && !(decide (Lib.trimLeftB wh 48 = []) && decide (Lib.trimRightB fr 48 = [])), Lib.trimLeftB wh 48, Lib.trimRightB fr 48, true)) := fun _ => by rw [hd, decOf, b1, b3]; rfl
        clear hd
        rw [b3] at ha2
        go_enter Tryd.func12, Tryd.ntmps12
        go_wp2_with fail
        refine (hcut _ ?_).mono ?_
        · exact cell_later (by go_grown) hm
        rintro e w1 ⟨rfl, n, hw1'⟩
        have g0 : w1.cell? ⟨w.heap.size, 0, none⟩ = some (.bool false) := by rw [hw1', World.cell?_drewN]; go_cell
        have g1 : w1.cell? ⟨w.heap.size, 1, none⟩ = some (.string ⟨#[]⟩) := by rw [hw1', World.cell?_drewN]; go_cell
        have g2 : w1.cell? ⟨w.heap.size, 2, none⟩ = some (.string ⟨#[]⟩) := by rw [hw1', World.cell?_drewN]; go_cell
        have k0 : w1.cell? ⟨w.heap.size + 1, 0, none⟩ = some (.bool false) := by rw [hw1', World.cell?_drewN]; go_cell
        have k1 : w1.cell? ⟨w.heap.size + 1, 1, none⟩ = some (.string ⟨#[]⟩) := by rw [hw1', World.cell?_drewN]; go_cell
        have k2 : w1.cell? ⟨w.heap.size + 1, 2, none⟩ = some (.string ⟨#[]⟩) := by rw [hw1', World.cell?_drewN]; go_cell
        have fz0 : ∀ i, w1.frozen? ⟨w.heap.size, i, none⟩ = false := fun i => by rw [hw1', World.frozen?_drewN, frozen?_alloc_cells]; exact World.frozen?_alloc_at (hn := rfl) ..
        have fz1 : ∀ i, w1.frozen? ⟨w.heap.size + 1, i, none⟩ = false := fun i => by rw [hw1', World.frozen?_drewN]; exact World.frozen?_alloc_at (hn := by simp) ..
        have hbW : Below w.heap.size w w1 := by rw [hw1']; refine below_drewN ?_ n; go_grown
        have hzW : w.heap.size + 1 < w1.heap.size := by rw [hw1']; simp
        have hzW2 : w.heap.size < w1.heap.size := by omega
        clear hw1' hcut
        go_wp2_with fail
        refine (ha1 _).mono ?_
        clear ha1
        rintro e w2 ⟨rfl, rfl⟩
        go_wp2_with fail
        refine (ha2 _).mono ?_
        rintro e w3 ⟨rfl, rfl⟩
        go_wp2_with fail
        refine (ht1 _).mono ?_
        clear ht1
        rintro e w3 ⟨rfl, rfl⟩
        go_wp2_with fail
        refine (ht2 _).mono ?_
        clear ht2
        rintro e w4 ⟨rfl, rfl⟩
        have HD : Hid (Unit → d = (false && !(decide (Lib.trimLeftB wh 48 = []) && decide (Lib.trimRightB fr 48 = [])), Lib.trimLeftB wh 48, Lib.trimRightB fr 48, true)) := HDK
        generalize Lib.trimLeftB wh 48 = W at HD ⊢
        generalize Lib.trimRightB fr 48 = F at HD ⊢
        clear HDK
        by_cases hW : W = []
        · have hW0 : (B W).toList.isEmpty = true := by rw [isEmpty_B, hW]; rfl
          by_cases hF : F = []
          · have hF0 : (B F).toList.isEmpty = true := by rw [isEmpty_B, hF]; rfl
            have HD2 : Hid (Unit → d = (false, W, F, true)) := fun _ => by rw [HD.out (), hW, hF]; rfl
            clear HD hW hF
            go_wp2_with fail
            refine bodyPost_ret (v := decV (false, W, F, true)) ?_ rfl ⟨by rw [HD2.out ()], ?_⟩
            · simp [results, Tryd.results12, go_sem, decV, g0, g1, g2]
            · have hbz := hbW
              go_grown
          · have hF0 : (B F).toList.isEmpty = false := by rw [isEmpty_B]; cases F with | nil => exact absurd rfl hF | cons _ _ => rfl
            have HD2 : Hid (Unit → d = (false, W, F, true)) := fun _ => by rw [HD.out (), decide_eq_false hF]; simp
            clear HD hW hF
            go_wp2_with fail
            refine bodyPost_ret (v := decV (false, W, F, true)) ?_ rfl ⟨by rw [HD2.out ()], ?_⟩
            · simp [results, Tryd.results12, go_sem, decV, g0, g1, g2]
            · have hbz := hbW
              go_grown
        · have hW0 : (B W).toList.isEmpty = false := by rw [isEmpty_B]; cases W with | nil => exact absurd rfl hW | cons _ _ => rfl
          have HD2 : Hid (Unit → d = (false, W, F, true)) := fun _ => by rw [HD.out (), decide_eq_false hW]; simp
          clear HD hW
          go_wp2_with fail
          refine bodyPost_ret (v := decV (false, W, F, true)) ?_ rfl ⟨by rw [HD2.out ()], ?_⟩
          · simp [results, Tryd.results12, go_sem, decV, g0, g1, g2]
          · have hbz := hbW
            go_grown

end Go.Proofs.Qxb6603097aDoor
