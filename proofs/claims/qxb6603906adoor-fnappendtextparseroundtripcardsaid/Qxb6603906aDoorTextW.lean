import Derived.Test.Qxb6603906aDoorText
namespace Go.Proofs.Qxb6603906aDoor
open Go.RowKit Pl

/-- The world while AppendText writes: its box holds the Decimal. -/
structure AW (w : World) (neg : Bool) (D : ByteArray) (x : Int) (wc : World) : Prop where
  below : Below w.heap.size w wc
  sz : w.heap.size + 1 ≤ wc.heap.size
  c0 : wc.cell? ⟨w.heap.size, 0, none⟩ = some (.bool neg)
  c1 : wc.cell? ⟨w.heap.size, 1, none⟩ = some (.string D)
  c2 : wc.cell? ⟨w.heap.size, 2, none⟩ = some (.int .i64 x)
theorem AW.step {w wc w1 : World} {neg : Bool} {D : ByteArray} {x : Int} (h : AW w neg D x wc) (hb : Below (w.heap.size + 1) wc w1) : AW w neg D x w1 where
  below := h.below.trans (hb.mono (Nat.le_succ _))
  sz := Nat.le_trans h.sz hb.size
  c0 := (hb.cell (p := ⟨w.heap.size, 0, none⟩) (Nat.lt_succ_self _)).trans h.c0
  c1 := (hb.cell (p := ⟨w.heap.size, 1, none⟩) (Nat.lt_succ_self _)).trans h.c1
  c2 := (hb.cell (p := ⟨w.heap.size, 2, none⟩) (Nat.lt_succ_self _)).trans h.c2
theorem ownB_str {Bk : Nat} {v : Value} {l : List UInt8} {s : ByteArray} {w : World} {n : Nat} (h : w.ownsRow Bk 5 1 v n (Lib.byteCells l ++ Lib.strCells s)) (hn : n = l.length + s.size) : OwnB Bk v (l ++ s.data.toList) w := by
  subst hn
  unfold OwnB
  rw [List.length_append, ← Lib.size_eq]
  have e : Lib.byteCells (l ++ s.data.toList) = Lib.byteCells l ++ Lib.strCells s := by simp [Lib.byteCells, Lib.strCells]
  rw [e]
  exact h
/-- What AppendText gives. -/
def TextR (w : World) (l : List UInt8) (e : Ending) (w' : World) : Prop := (∃ v, e = .returned v ∧ OwnB (w.heap.size + 1) v l w') ∧ Below w.heap.size w w'

set_option maxRecDepth 100000 in
set_option maxHeartbeats 8000000 in
theorem text_c (neg : Bool) (D : ByteArray) (x : Int) (w : World) (hD : D.size ≤ 1048576) (hx1 : x ≤ 10000) (hx2 : -10000 ≤ x) :
    Calls Tryd.prog 12 #[.agg #[.bool neg, .string D, .int .i64 x], .slice none 0 0] w fun e w' => TextR w (textL neg D.data.toList x) e w' := by
  obtain ⟨i0, hi, hz0, hz1, hz2⟩ := info_parts Tryd.info5
  obtain ⟨T, hT⟩ : ∃ T, T = textL neg D.data.toList x := ⟨_, rfl⟩
  rw [← hT]
  have HT : Hid (Unit → T = textL neg D.data.toList x) := fun _ => hT
  clear hT
  go_enter Tryd.func12, Tryd.ntmps12
  go_upto_region 1 with fail
  go_cut [7] (fun s7 wx => s7 = .bool D.toList.isEmpty ∧ AW w neg D x wx)
  case first =>
    go_wp2_with fail
    go_meet
    refine ⟨rfl, ⟨by go_grown, by simp, by go_cell, by go_cell, by go_cell⟩⟩
  case rest =>
  obtain ⟨rfl, hA⟩ := hcut
  by_cases h0 : 0 < D.size
  rotate_left
  · have hnil : D.data.toList = [] := List.eq_nil_of_length_eq_zero (by rw [← Lib.size_eq]; omega)
    have hDe : D.toList.isEmpty = true := by rw [Lib.toList_data, hnil]; rfl
    have HE : Hid (Unit → T = [48]) := fun _ => by rw [HT.out (), hnil]; rfl
    have HO : Hid (Unit → OwnB (w.heap.size + 1) (.slice none 0 0) [] wc) := fun _ => World.ownsRow_nil _ _ _ _
    rw [hDe]
    clear hnil HT hDe
    as_aux_lemma =>
      go_wp2_with (at_builtin; refine wpList_append_own _ rfl _ _ 33 rfl (w.heap.size + 1) 5 i0 (.int .u8 0) 1 1 Tryd.underlying33 hi hz0 hz1 hz2 rfl (by decide) _ _ _ rfl ((HO.out ()).alloc _) ⟨wc.heap.size, 0, none⟩ 1 1 [.int .u8 48] rfl rfl ?c1 ?c2 ?c3 ?c4 ?c5 ?_)
      try (case c1 => exact cell_one_new _ _ _)
      case c2 => first | rfl | (intro u hu; simp at hu; subst hu; rfl)
      case c3 => unfold maxLen; go_light; first | omega | (simp only [List.length_nil]; omega)
      case c4 => go_light; first | omega | (simp only [List.length_nil]; omega)
      case c5 => have := hA.sz; go_light; first | omega | (rw [World.size_alloc]; omega)
      intro v1 w1 hown' hgrow _
      have hAn : AW w neg D x w1 := hA.step (((Below.refl _ _).alloc hA.sz _).grown hgrow (by rw [World.size_alloc]; exact Nat.le_succ_of_le hA.sz) (fun j e => (World.ownsRow.lt (HO.out ()) j e).1))
      have HOn : Hid (Unit → OwnB (w.heap.size + 1) v1 ([] ++ [48]) w1) := fun _ => ownB_snoc (c := 48) hown'
      clear hown' hgrow HO hA
      go_wp2_with fail
      go_ret
      exact ⟨⟨_, rfl, by rw [HE.out ()]; exact HOn.out ()⟩, hAn.below⟩
  rw [ne_of_pos D h0]
  have HT1 : Hid (Unit → T = sgnT neg ++ bodyT D.data.toList x) := fun _ => by
    rw [HT.out (), textL, if_neg]; intro e; rw [Lib.size_eq, e] at h0; simp at h0
  clear HT
  obtain ⟨g0, g1, g2⟩ : wc.cell? ⟨w.heap.size, 0, none⟩ = some (.bool neg) ∧ wc.cell? ⟨w.heap.size, 1, none⟩ = some (.string D) ∧ wc.cell? ⟨w.heap.size, 2, none⟩ = some (.int .i64 x) := ⟨hA.c0, hA.c1, hA.c2⟩
  go_upto_if 12 with fail
  go_cut [1] (fun s1 wx => Hid (Unit → OwnB (w.heap.size + 1) s1 (sgnT neg) wx) ∧ AW w neg D x wx)
  case first =>
    have HO : Hid (Unit → OwnB (w.heap.size + 1) (.slice none 0 0) [] wc) := fun _ => World.ownsRow_nil _ _ _ _
    cases neg
    · go_wp2_with fail
      go_meet
      exact ⟨HO, hA⟩
    · go_wp2_with (at_builtin; refine wpList_append_own _ rfl _ _ 33 rfl (w.heap.size + 1) 5 i0 (.int .u8 0) 1 1 Tryd.underlying33 hi hz0 hz1 hz2 rfl (by decide) _ _ _ rfl ((HO.out ()).alloc _) ⟨wc.heap.size, 0, none⟩ 1 1 [.int .u8 45] rfl rfl ?c1 ?c2 ?c3 ?c4 ?c5 ?_)
      try (case c1 => exact cell_one_new _ _ _)
      case c2 => first | rfl | (intro u hu; simp at hu; subst hu; rfl)
      case c3 => unfold maxLen; go_light; first | omega | (simp only [List.length_nil]; omega)
      case c4 => go_light; first | omega | (simp only [List.length_nil]; omega)
      case c5 => have := hA.sz; go_light; first | omega | (rw [World.size_alloc]; omega)
      intro v1 w1 hown' hgrow _
      have hAn : AW w true D x w1 := hA.step (((Below.refl _ _).alloc hA.sz _).grown hgrow (by rw [World.size_alloc]; exact Nat.le_succ_of_le hA.sz) (fun j e => (World.ownsRow.lt (HO.out ()) j e).1))
      have HOn : Hid (Unit → OwnB (w.heap.size + 1) v1 ([] ++ [45]) w1) := fun _ => ownB_snoc (c := 45) hown'
      clear hown' hgrow HO hA
      go_wp2_with fail
      go_meet
      exact ⟨HOn, hAn⟩
  case rest =>
  clear hA g0 g1 g2
  obtain ⟨HO, hA⟩ := hcut
  obtain ⟨l0, hl0⟩ : ∃ l0, l0 = sgnT neg := ⟨_, rfl⟩
  have hl0l : l0.length ≤ 1 := by rw [hl0]; cases neg <;> simp [sgnT]
  rw [← hl0] at HO HT1
  clear hl0
  obtain ⟨g0, g1, g2⟩ : wc.cell? ⟨w.heap.size, 0, none⟩ = some (.bool neg) ∧ wc.cell? ⟨w.heap.size, 1, none⟩ = some (.string D) ∧ wc.cell? ⟨w.heap.size, 2, none⟩ = some (.int .i64 x) := ⟨hA.c0, hA.c1, hA.c2⟩
  by_cases hx0 : x ≤ 0
  · obtain ⟨m, hm⟩ : ∃ m : Nat, m = (-x).toNat := ⟨_, rfl⟩
    have HT2 : Hid (Unit → T = l0 ++ ([48, 46] ++ List.replicate m 48 ++ D.data.toList)) := fun _ => by rw [HT1.out (), bodyT, if_pos hx0, hm]
    have hmi : -x = (m : Int) := by omega
    clear HT1 hm
    have hm1 : m ≤ 10000 := by omega
    as_aux_lemma =>
      have hs2 : (⟨#[48, 46]⟩ : ByteArray).size = 2 := rfl
      go_wp2_with (at_builtin; refine Lib.wpList_append_own_string _ rfl _ _ 33 9 rfl (w.heap.size + 1) 5 i0 Tryd.underlying33 Tryd.underlying9 hi hz0 hz1 hz2 _ _ _ rfl (HO.out ()) ⟨#[48, 46]⟩ rfl ?c1 ?c2 ?c3 ?_)
      case c1 => unfold maxLen; go_light; omega
      case c2 => go_light; omega
      case c3 => exact hA.sz
      intro v1 w1 hown' hgrow _
      have hAn : AW w neg D x w1 := hA.step ((Below.refl _ _).grown hgrow hA.sz (fun j e => (World.ownsRow.lt (HO.out ()) j e).1))
      have HOn : Hid (Unit → OwnB (w.heap.size + 1) v1 (l0 ++ (⟨#[48, 46]⟩ : ByteArray).data.toList) w1) := fun _ => ownB_str hown' (by first | rfl | (rw [ByteArray.size_extract]; go_light; omega))
      clear hown' hgrow HO hA
      clear g0 g1 g2
      obtain ⟨g0, g1, g2⟩ : w1.cell? ⟨w.heap.size, 0, none⟩ = some (.bool neg) ∧ w1.cell? ⟨w.heap.size, 1, none⟩ = some (.string D) ∧ w1.cell? ⟨w.heap.size, 2, none⟩ = some (.int .i64 x) := ⟨hAn.c0, hAn.c1, hAn.c2⟩
      go_wp2_with fail
      go_loopw [1, 42] (fun v kv wr => ∃ k : Nat, k ≤ m ∧ kv = .int .i64 k ∧ Hid (Unit → OwnB (w.heap.size + 1) v (l0 ++ [48, 46] ++ List.replicate k 48) wr) ∧ AW w neg D x wr) (fun _ kv _ => m - (intOf kv).toNat)
      case atStart => exact ⟨0, Nat.zero_le _, rfl, fun _ => by rw [List.replicate_zero, List.append_nil]; exact HOn.out (), hAn⟩
      case round =>
      clear hAn HOn g0 g1 g2
      obtain ⟨k, hk, rfl, HO, hA⟩ := hrel
      obtain ⟨g0, g1, g2⟩ : wr.cell? ⟨w.heap.size, 0, none⟩ = some (.bool neg) ∧ wr.cell? ⟨w.heap.size, 1, none⟩ = some (.string D) ∧ wr.cell? ⟨w.heap.size, 2, none⟩ = some (.int .i64 x) := ⟨hA.c0, hA.c1, hA.c2⟩
      have hll : (l0 ++ [48, 46] ++ List.replicate k 48).length ≤ 10003 := by rw [List.length_append, List.length_append, List.length_replicate]; simp only [List.length_cons, List.length_nil]; go_light; omega
      obtain ⟨L, hL⟩ : ∃ L, L = l0 ++ [48, 46] ++ List.replicate k 48 := ⟨_, rfl⟩
      rw [← hL] at HO hll
      have HL : Hid (Unit → L = l0 ++ [48, 46] ++ List.replicate k 48) := fun _ => hL
      clear hL
      by_cases hkm : k < m
      · have hki : decide ((k : Int) < -x) = true := by go_light; simp; omega
        have hki2 : decide ((k : Int) < (m : Int)) = true := by go_light; simp; omega
        go_wp2_with (at_builtin; refine wpList_append_own _ rfl _ _ 33 rfl (w.heap.size + 1) 5 i0 (.int .u8 0) 1 1 Tryd.underlying33 hi hz0 hz1 hz2 rfl (by decide) _ _ _ rfl ((HO.out ()).alloc _) ⟨wr.heap.size, 0, none⟩ 1 1 [.int .u8 48] rfl rfl ?c1 ?c2 ?c3 ?c4 ?c5 ?_)
        try (case c1 => exact cell_one_new _ _ _)
        case c2 => first | rfl | (intro u hu; simp at hu; subst hu; rfl)
        case c3 => unfold maxLen; go_light; first | omega | (simp only [List.length_nil]; omega)
        case c4 => go_light; first | omega | (simp only [List.length_nil]; omega)
        case c5 => have := hA.sz; go_light; first | omega | (rw [World.size_alloc]; omega)
        intro v1 w1 hown' hgrow _
        have hAn : AW w neg D x w1 := hA.step (((Below.refl _ _).alloc hA.sz _).grown hgrow (by rw [World.size_alloc]; exact Nat.le_succ_of_le hA.sz) (fun j e => (World.ownsRow.lt (HO.out ()) j e).1))
        have HOn : Hid (Unit → OwnB (w.heap.size + 1) v1 (L ++ [48]) w1) := fun _ => ownB_snoc (c := 48) hown'
        clear hown' hgrow HO hA
        go_wp2_with fail
        go_roundw
        case rel =>
          go_light
          refine ⟨k + 1, hkm, by go_num, fun _ => ?_, hAn⟩
          rw [List.replicate_succ', ← List.append_assoc, ← HL.out ()]; exact HOn.out ()
        case measure => go_light; simp [intOf]; omega
      · have hki : decide ((k : Int) < -x) = false := by go_light; simp; omega
        have hki2 : decide ((k : Int) < (m : Int)) = false := by go_light; simp; omega
        have hkk : k = m := by go_light; omega
        subst hkk
        go_wp2_with (at_builtin; refine Lib.wpList_append_own_string _ rfl _ _ 33 9 rfl (w.heap.size + 1) 5 i0 Tryd.underlying33 Tryd.underlying9 hi hz0 hz1 hz2 _ _ _ rfl (HO.out ()) D rfl ?c1 ?c2 ?c3 ?_)
        case c1 => unfold maxLen; go_light; omega
        case c2 => go_light; omega
        case c3 => exact hA.sz
        intro v2 w2 hown' hgrow _
        have hAn : AW w neg D x w2 := hA.step ((Below.refl _ _).grown hgrow hA.sz (fun j e => (World.ownsRow.lt (HO.out ()) j e).1))
        have HOn : Hid (Unit → OwnB (w.heap.size + 1) v2 (L ++ (D : ByteArray).data.toList) w2) := fun _ => ownB_str hown' (by first | rfl | (rw [ByteArray.size_extract]; go_light; omega))
        clear hown' hgrow HO hA
        go_wp2_with fail
        go_ret
        refine ⟨⟨_, rfl, ?_⟩, hAn.below⟩
        have h := HOn.out ()
        rw [HL.out ()] at h
        rw [HT2.out ()]
        simpa [List.append_assoc] using h
  have hx0i : decide (x ≤ (0 : Int)) = false := by simp; omega
  obtain ⟨m, hm⟩ : ∃ m : Nat, m = x.toNat := ⟨_, rfl⟩
  have hmi : x = (m : Int) := by omega
  clear hm
  subst hmi
  have hm1 : m ≤ 10000 := by omega
  by_cases hxl : m < D.size
  · have HT2 : Hid (Unit → T = l0 ++ (D.extract 0 m).data.toList ++ [46] ++ (D.extract m D.size).data.toList) := fun _ => by
      rw [HT1.out (), bodyT, if_neg hx0, ← Lib.size_eq, if_pos (by omega), Int.toNat_natCast, ext_cutL, ext_cutL, B_data, B_data, cutL, cutL, List.drop_zero, Nat.sub_zero]
      rw [List.take_of_length_le (l := D.data.toList.drop m) (by rw [List.length_drop, ← Lib.size_eq]; omega)]
      simp [List.append_assoc]
    have hxli : decide ((m : Int) < (D.size : Int)) = true := by simp; omega
    have hE1 : (D.extract 0 m).size = m := by rw [ByteArray.size_extract]; omega
    have hE2 : (D.extract m D.size).size = D.size - m := by rw [ByteArray.size_extract]; omega
    clear HT1
    as_aux_lemma =>
      go_wp2_with (at_builtin; refine Lib.wpList_append_own_string _ rfl _ _ 33 9 rfl (w.heap.size + 1) 5 i0 Tryd.underlying33 Tryd.underlying9 hi hz0 hz1 hz2 _ _ _ rfl (HO.out ()) (D.extract 0 m) rfl ?c1 ?c2 ?c3 ?_)
      case c1 => unfold maxLen; go_light; omega
      case c2 => go_light; omega
      case c3 => exact hA.sz
      intro v1 w1 hown' hgrow _
      have hAn : AW w neg D m w1 := hA.step ((Below.refl _ _).grown hgrow hA.sz (fun j e => (World.ownsRow.lt (HO.out ()) j e).1))
      have HOn : Hid (Unit → OwnB (w.heap.size + 1) v1 (l0 ++ ((D.extract 0 m) : ByteArray).data.toList) w1) := fun _ => ownB_str hown' (by first | rfl | (rw [ByteArray.size_extract]; go_light; omega))
      clear hown' hgrow HO hA
      clear g0 g1 g2
      obtain ⟨g0, g1, g2⟩ : w1.cell? ⟨w.heap.size, 0, none⟩ = some (.bool neg) ∧ w1.cell? ⟨w.heap.size, 1, none⟩ = some (.string D) ∧ w1.cell? ⟨w.heap.size, 2, none⟩ = some (.int .i64 m) := ⟨hAn.c0, hAn.c1, hAn.c2⟩
      have HO := HOn
      have hA := hAn
      clear HOn hAn
      have hll : (l0 ++ (D.extract 0 m).data.toList).length ≤ 10003 := by rw [List.length_append, ← Lib.size_eq, hE1]; go_light; omega
      obtain ⟨L1, hL⟩ : ∃ L, L = l0 ++ (D.extract 0 m).data.toList := ⟨_, rfl⟩
      rw [← hL] at HO hll
      have HL1 : Hid (Unit → L1 = l0 ++ (D.extract 0 m).data.toList) := fun _ => hL
      clear hL
      go_wp2_with (at_builtin; refine wpList_append_own _ rfl _ _ 33 rfl (w.heap.size + 1) 5 i0 (.int .u8 0) 1 1 Tryd.underlying33 hi hz0 hz1 hz2 rfl (by decide) _ _ _ rfl ((HO.out ()).alloc _) ⟨w1.heap.size, 0, none⟩ 1 1 [.int .u8 46] rfl rfl ?c1 ?c2 ?c3 ?c4 ?c5 ?_)
      try (case c1 => exact cell_one_new _ _ _)
      case c2 => first | rfl | (intro u hu; simp at hu; subst hu; rfl)
      case c3 => unfold maxLen; go_light; first | omega | (simp only [List.length_nil]; omega)
      case c4 => go_light; first | omega | (simp only [List.length_nil]; omega)
      case c5 => have := hA.sz; go_light; first | omega | (rw [World.size_alloc]; omega)
      intro v2 w2 hown' hgrow _
      have hAn : AW w neg D m w2 := hA.step (((Below.refl _ _).alloc hA.sz _).grown hgrow (by rw [World.size_alloc]; exact Nat.le_succ_of_le hA.sz) (fun j e => (World.ownsRow.lt (HO.out ()) j e).1))
      have HOn : Hid (Unit → OwnB (w.heap.size + 1) v2 (L1 ++ [46]) w2) := fun _ => ownB_snoc (c := 46) hown'
      clear hown' hgrow HO hA
      clear g0 g1 g2
      obtain ⟨g0, g1, g2⟩ : w2.cell? ⟨w.heap.size, 0, none⟩ = some (.bool neg) ∧ w2.cell? ⟨w.heap.size, 1, none⟩ = some (.string D) ∧ w2.cell? ⟨w.heap.size, 2, none⟩ = some (.int .i64 m) := ⟨hAn.c0, hAn.c1, hAn.c2⟩
      have hll2 : (L1 ++ [46]).length ≤ 10004 := by rw [List.length_append, List.length_singleton]; go_light; omega
      have HO := HOn
      have hA := hAn
      clear HOn hAn hll
      obtain ⟨L2, hL⟩ : ∃ L, L = L1 ++ [46] := ⟨_, rfl⟩
      rw [← hL] at HO hll2
      have HL2 : Hid (Unit → L2 = L1 ++ [46]) := fun _ => hL
      clear hL
      go_wp2_with (at_builtin; refine Lib.wpList_append_own_string _ rfl _ _ 33 9 rfl (w.heap.size + 1) 5 i0 Tryd.underlying33 Tryd.underlying9 hi hz0 hz1 hz2 _ _ _ rfl (HO.out ()) (D.extract m D.size) rfl ?c1 ?c2 ?c3 ?_)
      case c1 => unfold maxLen; go_light; omega
      case c2 => go_light; omega
      case c3 => exact hA.sz
      intro v3 w3 hown' hgrow _
      have hAn : AW w neg D m w3 := hA.step ((Below.refl _ _).grown hgrow hA.sz (fun j e => (World.ownsRow.lt (HO.out ()) j e).1))
      have HOn : Hid (Unit → OwnB (w.heap.size + 1) v3 (L2 ++ ((D.extract m D.size) : ByteArray).data.toList) w3) := fun _ => ownB_str hown' (by first | rfl | (rw [ByteArray.size_extract]; go_light; omega))
      clear hown' hgrow HO hA
      go_wp2_with fail
      go_ret
      refine ⟨⟨_, rfl, ?_⟩, hAn.below⟩
      rw [HT2.out (), ← HL1.out (), ← HL2.out ()]
      exact HOn.out ()
  obtain ⟨b, hb⟩ : ∃ b : Nat, b = m - D.size := ⟨_, rfl⟩
  have HT2 : Hid (Unit → T = l0 ++ D.data.toList ++ List.replicate b 48) := fun _ => by
    rw [HT1.out (), bodyT, if_neg hx0, ← Lib.size_eq, if_neg (by omega), show ((m : Int) - (D.size : Int)).toNat = b by omega, List.append_assoc]
  have hbi : (m : Int) - (D.size : Int) = (b : Int) := by omega
  have hxli : decide ((m : Int) < (D.size : Int)) = false := by simp; omega
  have hb1 : b ≤ 10000 := by omega
  clear HT1 hb
  as_aux_lemma =>
    go_wp2_with (at_builtin; refine Lib.wpList_append_own_string _ rfl _ _ 33 9 rfl (w.heap.size + 1) 5 i0 Tryd.underlying33 Tryd.underlying9 hi hz0 hz1 hz2 _ _ _ rfl (HO.out ()) D rfl ?c1 ?c2 ?c3 ?_)
    case c1 => unfold maxLen; go_light; omega
    case c2 => go_light; omega
    case c3 => exact hA.sz
    intro v1 w1 hown' hgrow _
    have hAn : AW w neg D m w1 := hA.step ((Below.refl _ _).grown hgrow hA.sz (fun j e => (World.ownsRow.lt (HO.out ()) j e).1))
    have HOn : Hid (Unit → OwnB (w.heap.size + 1) v1 (l0 ++ (D : ByteArray).data.toList) w1) := fun _ => ownB_str hown' (by first | rfl | (rw [ByteArray.size_extract]; go_light; omega))
    clear hown' hgrow HO hA
    clear g0 g1 g2
    obtain ⟨g0, g1, g2⟩ : w1.cell? ⟨w.heap.size, 0, none⟩ = some (.bool neg) ∧ w1.cell? ⟨w.heap.size, 1, none⟩ = some (.string D) ∧ w1.cell? ⟨w.heap.size, 2, none⟩ = some (.int .i64 m) := ⟨hAn.c0, hAn.c1, hAn.c2⟩
    go_wp2_with fail
    go_loopw [1, 26] (fun v kv wr => ∃ k : Nat, k ≤ b ∧ kv = .int .i64 k ∧ Hid (Unit → OwnB (w.heap.size + 1) v (l0 ++ D.data.toList ++ List.replicate k 48) wr) ∧ AW w neg D m wr) (fun _ kv _ => b - (intOf kv).toNat)
    case atStart => exact ⟨0, Nat.zero_le _, rfl, fun _ => by rw [List.replicate_zero, List.append_nil]; exact HOn.out (), hAn⟩
    case round =>
    clear hAn HOn g0 g1 g2
    obtain ⟨k, hk, rfl, HO, hA⟩ := hrel
    obtain ⟨g0, g1, g2⟩ : wr.cell? ⟨w.heap.size, 0, none⟩ = some (.bool neg) ∧ wr.cell? ⟨w.heap.size, 1, none⟩ = some (.string D) ∧ wr.cell? ⟨w.heap.size, 2, none⟩ = some (.int .i64 m) := ⟨hA.c0, hA.c1, hA.c2⟩
    have hll : (l0 ++ D.data.toList ++ List.replicate k 48).length ≤ 1068577 := by rw [List.length_append, List.length_append, List.length_replicate, ← Lib.size_eq]; go_light; omega
    obtain ⟨L, hL⟩ : ∃ L, L = l0 ++ D.data.toList ++ List.replicate k 48 := ⟨_, rfl⟩
    rw [← hL] at HO hll
    have HL : Hid (Unit → L = l0 ++ D.data.toList ++ List.replicate k 48) := fun _ => hL
    clear hL
    by_cases hkm : k < b
    · have hki2 : decide ((k : Int) < (b : Int)) = true := by go_light; simp; omega
      go_wp2_with (at_builtin; refine wpList_append_own _ rfl _ _ 33 rfl (w.heap.size + 1) 5 i0 (.int .u8 0) 1 1 Tryd.underlying33 hi hz0 hz1 hz2 rfl (by decide) _ _ _ rfl ((HO.out ()).alloc _) ⟨wr.heap.size, 0, none⟩ 1 1 [.int .u8 48] rfl rfl ?c1 ?c2 ?c3 ?c4 ?c5 ?_)
      try (case c1 => exact cell_one_new _ _ _)
      case c2 => first | rfl | (intro u hu; simp at hu; subst hu; rfl)
      case c3 => unfold maxLen; go_light; first | omega | (simp only [List.length_nil]; omega)
      case c4 => go_light; first | omega | (simp only [List.length_nil]; omega)
      case c5 => have := hA.sz; go_light; first | omega | (rw [World.size_alloc]; omega)
      intro v1 w1 hown' hgrow _
      have hAn : AW w neg D m w1 := hA.step (((Below.refl _ _).alloc hA.sz _).grown hgrow (by rw [World.size_alloc]; exact Nat.le_succ_of_le hA.sz) (fun j e => (World.ownsRow.lt (HO.out ()) j e).1))
      have HOn : Hid (Unit → OwnB (w.heap.size + 1) v1 (L ++ [48]) w1) := fun _ => ownB_snoc (c := 48) hown'
      clear hown' hgrow HO hA
      go_wp2_with fail
      go_roundw
      case rel =>
        go_light
        refine ⟨k + 1, hkm, by go_num, fun _ => ?_, hAn⟩
        rw [List.replicate_succ', ← List.append_assoc, ← HL.out ()]; exact HOn.out ()
      case measure => go_light; simp [intOf]; omega
    · have hki2 : decide ((k : Int) < (b : Int)) = false := by go_light; simp; omega
      have hkk : k = b := by go_light; omega
      subst hkk
      go_wp2_with fail
      go_ret
      exact ⟨⟨_, rfl, by rw [HT2.out (), ← HL.out ()]; exact HO.out ()⟩, hA.below⟩
end Go.Proofs.Qxb6603906aDoor
