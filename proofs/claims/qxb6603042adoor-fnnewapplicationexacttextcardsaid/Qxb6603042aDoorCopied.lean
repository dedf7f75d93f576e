import Derived.Test.Qxb6603042aDoorPlain3
import Derived.Test.Qxb6603042aDoorLines
import Derived.Test.Qxb6603042aDoorIndent
import Derived.RangeFuncBox
namespace Go.Proofs.Qxb6603042aDoor
open Go.RowKit Pl

theorem conv_own {Bk : Nat} {v : Value} {l : List UInt8} {w : World} (h : OwnB Bk v l w) : (convert 52 9 v).run Tryd.prog w = .ok (.string (B l)) w := by
  obtain ⟨h1, h2⟩ := h
  rcases h2 with ⟨rfl, h0⟩ | ⟨g, cap, cur, rfl, h3, h4, h5, h6, h7, h8⟩
  · obtain rfl : l = [] := List.eq_nil_of_length_eq_zero h0
    exact run_convert_bytes_nil w 52 5 Tryd.underlying52 Tryd.underlying5 0 0 9 Tryd.underlying9
  · refine run_convert_bytes_back w 52 9 5 ⟨g, 0, none⟩ cap l Tryd.underlying52 Tryd.underlying5 Tryd.underlying9 (fun j hj => ?_)
    have h := World.ownsRow.cells (w := w) (base := Bk) (e := 5) (size := 1) (v := .slice (some ⟨g, 0, none⟩) l.length cap) (n := l.length) (xs := Lib.byteCells l) ⟨h1, .inr ⟨g, cap, cur, rfl, h3, h4, h5, h6, h7, h8⟩⟩ (g := g) rfl j (.int .u8 l[j].toNat) (by simp [Lib.byteCells, hj])
    exact h

theorem ownB_snoc {Bk n : Nat} {v : Value} {l : List UInt8} {w : World} (h : w.ownsRow Bk 5 1 v n (Lib.byteCells l ++ [.int .u8 10])) (hn : n = l.length + 1) : OwnB Bk v (l ++ [10]) w := by
  subst hn
  unfold OwnB
  rw [← byteCells_snoc, List.length_append]
  exact h

set_option maxRecDepth 100000 in
set_option maxHeartbeats 2000000 in
theorem copied_any (s : ByteArray) (w : World) (hs : s.size ≤ 4000000) :
    Calls Tryd.prog 7 #[.string s] w fun e w' => e = .returned (.tuple #[.string (B (modelL s.data.toList)), .bool (moreB (modelL s.data.toList))]) ∧ Below w.heap.size w w' := by
  obtain ⟨x0, r, hxr⟩ := splitL_cons 10 s.data.toList
  have hpc := splitL_piece 10 s.data.toList
  have hpn := splitL_pieces_le 10 s.data.toList
  have hjt := joinTail_le 10 _ _ _ hxr
  have hlines := lines_any s w hs
  have hmod : modelL s.data.toList = bodyOf x0 r := by rw [modelL, hxr]; rfl
  rw [hxr] at hpc hpn hlines
  rw [hmod]
  rw [← Lib.size_eq] at hjt hpn
  simp only [← Lib.size_eq] at hpc
  rw [List.length_cons] at hpn
  clear hxr hmod
  have hfl : (flatL r).length ≤ s.size := by rw [flatL_length]; exact hjt
  have hil := indentLines_le r s.size (fun y hy => hpc y (by simp [hy]))
  have hx0 := hpc x0 (by simp)
  have HPC : Hid (Unit → _) := fun _ => hpc
  clear hpc hjt
  go_enter Tryd.func7, Tryd.ntmps7
  go_wp2_with fail
  refine hlines.mono ?_
  clear hlines
  rintro e w1 ⟨⟨v, rfl, hown⟩, hb1⟩
  have hz1 := hb1.size
  obtain ⟨g, cap, rfl⟩ := ownsRow_succ (k := r.length) hown
  have hcells : ∀ (j : Nat) y, (x0 :: r)[j]? = some y → w1.cell? ⟨g, j, none⟩ = some (.string (B y)) := fun j y h => by
    have := World.ownsRow.cells hown (g := g) rfl j (.string (B y)) (by rw [List.getElem?_map, h]; rfl)
    rw [Go.WideShapes.add_plain, Nat.zero_add] at this
    exact this
  have hg : g < w1.heap.size := (World.ownsRow.lt hown g rfl).2
  have HC : Hid (Unit → _) := fun _ => hcells
  clear hown hcells
  go_wp2_with fail
  go_loop [6, 7, 8] (fun ind fd i => ∃ (k : Nat) (y : List UInt8) (f : Bool), 1 ≤ k ∧ k ≤ r.length + 1 ∧ i = .int .i64 k ∧ fd = .bool f ∧ ind = .string (B y) ∧ (B y).size ≤ s.size + 4 ∧ Hid (Unit → (f = true → indentLines r = y) ∧ (f = false → y = [32, 32, 32, 32] ∧ indentLines r = indentLines (r.drop (k - 1))))) (fun _ _ i => r.length + 1 - (intOf i).toNat)
  case atStart => exact ⟨1, [32, 32, 32, 32], false, Nat.le_refl _, by omega, rfl, rfl, rfl, by rw [B_size]; simp, fun _ => ⟨fun h => (by cases h), fun _ => ⟨rfl, rfl⟩⟩⟩
  case round =>
    obtain ⟨k, y, f, hk1, hk2, rfl, rfl, rfl, hyl, HR⟩ := hrel
    by_cases hlt : k < r.length + 1
    · obtain ⟨q, rfl⟩ : ∃ q, k = q + 1 := ⟨k - 1, by omega⟩
      cases f
      · have hR := (HR.out ()).2 rfl
        have HR2 : Hid (Unit → _) := fun _ => hR
        clear HR hR
        obtain ⟨z, hz⟩ : ∃ z, r[q]? = some z := ⟨r[q], List.getElem?_eq_getElem (by omega)⟩
        have hc := HC.out () (q + 1) z (by simpa using hz)
        have hzl := HPC.out () z (by simp [List.mem_of_getElem? hz])
        have e1 := lead_hit r q z hz
        have e2 := lead_skip r q z hz
        have HE : Hid (Unit → _) := fun _ => And.intro e1 e2
        clear e1 e2 hz
        have hlz := leadL_le z
        have hzb : (B z).size ≤ s.size := by rw [B_size]; exact hzl
        have hlzb : (B (leadL z)).size ≤ s.size := by rw [B_size]; omega
        have hld := lead_any (B z) w1 (by omega)
        rw [B_data] at hld
        by_cases hcmp : (leadL z).length < z.length
        · have hci : ((B (leadL z)).size : Int) < ((B z).size : Int) := by rw [B_size, B_size]; omega
          have HCMP : Hid (Unit → _) := fun _ => hcmp
          clear hcmp
          go_wp2_with fail
          refine hld.mono ?_
          clear hld
          rintro e w' ⟨rfl, rfl⟩
          go_wp2_with fail
          go_round
          case rel => exact ⟨q + 1 + 1, leadL z, true, by omega, by omega, by go_num, rfl, rfl, by omega, fun _ => ⟨fun _ => (HR2.out ()).2.trans ((HE.out ()).1 (HCMP.out ())), fun h => by cases h⟩⟩
          case measure => simp [intOf]; omega
        · have hci : ¬ ((B (leadL z)).size : Int) < ((B z).size : Int) := by rw [B_size, B_size]; omega
          have HCMP : Hid (Unit → _) := fun _ => hcmp
          clear hcmp
          go_wp2_with fail
          refine hld.mono ?_
          clear hld
          rintro e w' ⟨rfl, rfl⟩
          go_wp2_with fail
          go_round
          case rel => exact ⟨q + 1 + 1, y, false, by omega, by omega, by go_num, rfl, rfl, hyl, fun _ => ⟨fun h => (by cases h), fun _ => ⟨(HR2.out ()).1, (HR2.out ()).2.trans ((HE.out ()).2 (HCMP.out ()))⟩⟩⟩
          case measure => simp [intOf]; omega
      · have hR := (HR.out ()).1 rfl
        have HR2 : Hid (Unit → _) := fun _ => hR
        clear HR hR
        go_wp2_with fail
        go_round
        case rel => exact ⟨q + 1 + 1, y, true, by omega, by omega, by go_num, rfl, rfl, hyl, fun _ => ⟨fun _ => HR2.out (), fun h => by cases h⟩⟩
        case measure => simp [intOf]; omega
    · have hy : indentLines r = y := by
        cases f
        · have h := (HR.out ()).2 rfl
          rw [h.2, h.1, List.drop_eq_nil_of_le (by omega)]; rfl
        · exact (HR.out ()).1 rfl
      have HY : Hid (Unit → _) := fun _ => hy
      clear HR hy
      obtain ⟨i0, hi, hzr0, hzr1, hzr2⟩ := info_parts Tryd.info5
      have hcx0 := HC.out () 0 x0 rfl
      have htb := fun W => trimB_any (B x0) W (by rw [B_size]; omega)
      simp only [B_data] at htb
      have htl := trimS_le x0 [32, 9, 13]
      have hfst : firstL x0 y = if Lib.trimS x0 [32, 9, 13] = [] then [] else y ++ Lib.trimS x0 [32, 9, 13] ++ [10] := rfl
      generalize Lib.trimS x0 [32, 9, 13] = t0 at htb htl hfst
      have HF : Hid (Unit → _) := fun _ => hfst
      clear hfst
      go_wp2_with (at_make; refine wpList_make_own _ rfl _ _ 52 rfl w1.heap.size 5 i0 (.int .u8 0) 1 Tryd.underlying52 hi hzr0 hzr1 _ _ _ (s.size + (B y).size + 1) rfl rfl (by omega) ?b2 ?b3 (Nat.le_refl _) ?_)
      case b2 => omega
      case b3 => unfold maxLen; omega
      intro w2 hown2 hgrow2
      have hb2 : Below w1.heap.size w1 w2 := (Below.refl _ _).grown hgrow2 (Nat.le_refl _) (fun _ e => by cases e)
      have hz2 := hb2.size
      have HO2 : Hid (Unit → OwnB w1.heap.size (.slice (some ⟨w1.heap.size, 0, none⟩) 0 (s.size + (B y).size + 1)) [] w2) := fun _ => hown2
      have hcx2 := (hb2.cell (p := ⟨g, 0, none⟩) hg).trans hcx0
      have HB2 : Hid (Unit → _) := fun _ => hb2
      clear hown2 hgrow2 hcx0 hb2
      generalize (Value.slice (some ⟨w1.heap.size, 0, none⟩) 0 (s.size + (B y).size + 1)) = vo at *
      go_wp2_with fail
      refine (htb _).mono ?_
      clear htb hcx2
      rintro e w3 ⟨rfl, rfl⟩
      rw [B_size] at hyl
      by_cases ht : t0 = []
      · have ht0 : (B t0).toList.isEmpty = true := by rw [isEmpty_B, ht]; rfl
        have hf : firstL x0 y = [] := by rw [HF.out (), if_pos ht]
        have HO3 : Hid (Unit → OwnB w1.heap.size vo (firstL x0 y) w3) := fun _ => by rw [hf]; exact HO2.out ()
        have hfl1 : (firstL x0 y).length ≤ 2 * s.size + 5 := by rw [hf]; simp
        clear HO2 hf HF ht
        go_wp2_with fail
        have hkx : Below w1.heap.size w1 w3 := HB2.out ()
        go_loopw [10, 12] (fun v i wr => ∃ k2 : Nat, 1 ≤ k2 ∧ (k2 ≤ r.length ∨ k2 = 1) ∧ i = .int .i64 k2 ∧ Hid (Unit → OwnB w1.heap.size v (firstL x0 y ++ flatL (r.take (k2 - 1))) wr) ∧ Below w1.heap.size w1 wr) (fun _ i _ => r.length - (intOf i).toNat)
        case atStart => exact ⟨1, Nat.le_refl _, .inr rfl, rfl, fun _ => by simpa [flatL] using HO3.out (), hkx⟩
        case round =>
          obtain ⟨k2, hk21, hk22, rfl, HO, hbr⟩ := hrel
          clear HO3 hkx
          have hzr := hbr.size
          have hft := flatL_take_le r (k2 - 1)
          have hll : (firstL x0 y ++ flatL (r.take (k2 - 1))).length ≤ 3 * s.size + 5 := by rw [List.length_append]; omega
          by_cases hlt2 : k2 < r.length
          · obtain ⟨q, rfl⟩ : ∃ q, k2 = q + 1 := ⟨k2 - 1, by omega⟩
            obtain ⟨z, hz⟩ : ∃ z, r[q]? = some z := ⟨r[q], List.getElem?_eq_getElem (by omega)⟩
            have hc := (hbr.cell (p := ⟨g, q + 1, none⟩) hg).trans (HC.out () (q + 1) z (by simpa using hz))
            have hzl := HPC.out () z (by simp [List.mem_of_getElem? hz])
            have hto : firstL x0 y ++ flatL (r.take (q + 1)) = firstL x0 y ++ flatL (r.take q) ++ z ++ [10] := by rw [flatL_take_succ r q z hz]; simp
            rw [Nat.add_sub_cancel] at HO hft hll
            clear hz
            generalize firstL x0 y ++ flatL (r.take q) = L at HO hto hll
            have HT : Hid (Unit → _) := fun _ => hto
            clear hto
            have hlz : (L ++ z).length ≤ 4 * s.size + 5 := by rw [List.length_append]; omega
            go_wp2_with fail
            refine (put_any w1.heap.size u10 L (B z) _ (by rw [B_size]; omega) (HO.out ()) (by omega)).mono ?_
            rintro e wa ⟨⟨va, rfl, hOa⟩, hba⟩
            have hza := hba.size
            rw [B_data] at hOa
            have HOa : Hid (Unit → _) := fun _ => hOa
            clear HO hOa hc
            go_wp2_with (at_builtin; refine wpList_append_own _ rfl _ _ 52 rfl w1.heap.size 5 i0 (.int .u8 0) 1 1 Tryd.underlying52 hi hzr0 hzr1 hzr2 rfl (by decide) _ _ _ rfl ((HOa.out ()).alloc _) ⟨wa.heap.size, 0, none⟩ 1 1 [.int .u8 10] rfl rfl ?c1 ?c2 ?c3 ?c4 ?c5 ?_)
            case c1 => exact cell_one_new _ _ _
            case c2 => intro u hu; simp at hu; subst hu; rfl
            case c3 => unfold maxLen; omega
            case c4 => omega
            case c5 => simp only [World.size_alloc]; omega
            intro vb wb hown' hgrow _
            have hbb : Below w1.heap.size wa wb := ((Below.refl _ _).alloc (by omega) _).grown hgrow (by simp only [World.size_alloc]; omega) (fun j e => (World.ownsRow.lt (HOa.out ()) j e).1)
            have HOb : Hid (Unit → OwnB w1.heap.size vb (firstL x0 y ++ flatL (r.take (q + 1))) wb) := fun _ => by
              rw [HT.out ()]; exact ownB_snoc hown' (by simp)
            clear hown' hgrow HOa
            go_wp2_with fail
            go_roundw
            case rel => exact ⟨q + 1 + 1, by omega, by omega, by go_num, HOb, (hbr.trans hba).trans hbb⟩
            case measure => simp [intOf]; omega
          · have hdl : r.take (k2 - 1) = r.dropLast := by
              rw [List.dropLast_eq_take]; congr 1; omega
            rw [hdl] at HO hll
            clear hdl hft
            by_cases hr : r = []
            · have hbo : bodyOf x0 r = firstL x0 y ++ flatL r.dropLast := by
                rw [bodyOf, if_pos hr, HY.out ()]; simp
              have HOf : Hid (Unit → OwnB w1.heap.size u10 (bodyOf x0 r) wr) := fun _ => by rw [hbo]; exact HO.out ()
              have hlf : (bodyOf x0 r).length ≤ 5 * s.size + 10 := by rw [hbo]; omega
              have hbf := hbr
              have hr0 : r.length = 0 := by rw [hr]; rfl
              clear HO hbo hr
              obtain ⟨bd, hbd⟩ : ∃ bd, bd = bodyOf x0 r := ⟨_, rfl⟩
              rw [← hbd] at HOf hlf
              have HBD : Hid (Unit → _) := fun _ => hbd
              clear hbd
              have hcv := conv_own (HOf.out ())
              have hbl2 : (B bd).size ≤ 100000000 := by rw [B_size]; omega
              go_wp2_with fail
              refine (more_any (B bd) _ (by omega)).mono ?_
              rintro e wz ⟨rfl, rfl⟩
              rw [B_data]
              clear hcv
              go_wp2_with fail
              go_ret2
              exact ⟨by rw [← HBD.out ()]; rfl, hb1.trans (hbf.mono hz1)⟩
            · have hr1 : 1 ≤ r.length := by
                cases r with
                | nil => exact absurd rfl hr
                | cons _ _ => simp
              obtain ⟨z, hz, hzd⟩ : ∃ z, (x0 :: r)[r.length]? = some z ∧ r.getLastD [] = z := by
                rcases List.eq_nil_or_concat r with h | ⟨r', z, h⟩
                · exact absurd h hr
                · exact ⟨z, by rw [h]; simp, by rw [h]; simp⟩
              have hc := (hbr.cell (p := ⟨g, r.length, none⟩) hg).trans (HC.out () r.length z hz)
              have hzl := HPC.out () z (List.mem_of_getElem? hz)
              have htz := trimRightS_le z [32, 9, 13]
              have htr := fun W => trimR_any (B z) W (by rw [B_size]; omega)
              simp only [B_data] at htr
              have hbo : bodyOf x0 r = firstL x0 y ++ flatL r.dropLast ++ endL z := by
                rw [bodyOf, if_neg hr, HY.out (), hzd]
              have hen : endL z = if Lib.trimRightS z [32, 9, 13] = [] then [] else Lib.trimRightS z [32, 9, 13] ++ [10] := rfl
              rw [hen] at hbo
              clear hz hzd hen
              generalize Lib.trimRightS z [32, 9, 13] = e0 at htr hbo htz
              generalize firstL x0 y ++ flatL r.dropLast = L at HO hbo hll
              have HBO : Hid (Unit → _) := fun _ => hbo
              clear hbo
              go_wp2_with fail
              refine (htr _).mono ?_
              clear htr hc
              rintro e wt ⟨rfl, rfl⟩
              by_cases hE : e0 = []
              · have hE0 : (B e0).toList.isEmpty = true := by rw [isEmpty_B, hE]; rfl
                have hbo2 : bodyOf x0 r = L := by rw [HBO.out (), if_pos hE, List.append_nil]
                have HOf : Hid (Unit → OwnB w1.heap.size u10 (bodyOf x0 r) wt) := fun _ => by rw [hbo2]; exact HO.out ()
                have hlf : (bodyOf x0 r).length ≤ 5 * s.size + 10 := by rw [hbo2]; omega
                have hbf := hbr
                clear HO hbo2 HBO hE hr
                obtain ⟨bd, hbd⟩ : ∃ bd, bd = bodyOf x0 r := ⟨_, rfl⟩
                rw [← hbd] at HOf hlf
                have HBD : Hid (Unit → _) := fun _ => hbd
                clear hbd
                have hcv := conv_own (HOf.out ())
                have hbl2 : (B bd).size ≤ 100000000 := by rw [B_size]; omega
                go_wp2_with fail
                refine (more_any (B bd) _ (by omega)).mono ?_
                rintro e wz ⟨rfl, rfl⟩
                rw [B_data]
                clear hcv
                go_wp2_with fail
                go_ret2
                exact ⟨by rw [← HBD.out ()]; rfl, hb1.trans (hbf.mono hz1)⟩
              · have hE0 : (B e0).toList.isEmpty = false := by rw [isEmpty_B]; cases e0 with | nil => exact absurd rfl hE | cons _ _ => rfl
                have hbo2 : bodyOf x0 r = L ++ e0 ++ [10] := by rw [HBO.out (), if_neg hE]; simp
                have HBO2 : Hid (Unit → _) := fun _ => hbo2
                clear HBO hbo2 hE hr
                have hle : (L ++ e0).length ≤ 4 * s.size + 5 := by rw [List.length_append]; omega
                go_wp2_with fail
                refine (put_any w1.heap.size u10 L (B e0) _ (by rw [B_size]; omega) (HO.out ()) (by omega)).mono ?_
                rintro e wa ⟨⟨va, rfl, hOa⟩, hba⟩
                have hza := hba.size
                rw [B_data] at hOa
                have HOa : Hid (Unit → _) := fun _ => hOa
                clear HO hOa
                go_wp2_with (at_builtin; refine wpList_append_own _ rfl _ _ 52 rfl w1.heap.size 5 i0 (.int .u8 0) 1 1 Tryd.underlying52 hi hzr0 hzr1 hzr2 rfl (by decide) _ _ _ rfl ((HOa.out ()).alloc _) ⟨wa.heap.size, 0, none⟩ 1 1 [.int .u8 10] rfl rfl ?c1 ?c2 ?c3 ?c4 ?c5 ?_)
                case c1 => exact cell_one_new _ _ _
                case c2 => intro u hu; simp at hu; subst hu; rfl
                case c3 => unfold maxLen; omega
                case c4 => omega
                case c5 => simp only [World.size_alloc]; omega
                intro vb wb hown' hgrow _
                have hbb : Below w1.heap.size wa wb := ((Below.refl _ _).alloc (by omega) _).grown hgrow (by simp only [World.size_alloc]; omega) (fun j e => (World.ownsRow.lt (HOa.out ()) j e).1)
                have HOf : Hid (Unit → OwnB w1.heap.size vb (bodyOf x0 r) wb) := fun _ => by
                  rw [HBO2.out ()]; exact ownB_snoc hown' (by simp)
                have hlf : (bodyOf x0 r).length ≤ 5 * s.size + 10 := by rw [HBO2.out (), List.length_append]; simp; rw [List.length_append] at hle; omega
                have hbf := (hbr.trans hba).trans hbb
                clear hown' hgrow HOa HBO2
                obtain ⟨bd, hbd⟩ : ∃ bd, bd = bodyOf x0 r := ⟨_, rfl⟩
                rw [← hbd] at HOf hlf
                have HBD : Hid (Unit → _) := fun _ => hbd
                clear hbd
                have hcv := conv_own (HOf.out ())
                have hbl2 : (B bd).size ≤ 100000000 := by rw [B_size]; omega
                go_wp2_with fail
                refine (more_any (B bd) _ (by omega)).mono ?_
                rintro e wz ⟨rfl, rfl⟩
                rw [B_data]
                clear hcv
                go_wp2_with fail
                go_ret2
                exact ⟨by rw [← HBD.out ()]; rfl, hb1.trans (hbf.mono hz1)⟩
      · have ht0 : (B t0).toList.isEmpty = false := by rw [isEmpty_B]; cases t0 with | nil => exact absurd rfl ht | cons _ _ => rfl
        have hf : firstL x0 y = y ++ t0 ++ [10] := by rw [HF.out (), if_neg ht]
        have hfl1 : (firstL x0 y).length ≤ 2 * s.size + 5 := by rw [hf]; simp; omega
        have HF2 : Hid (Unit → _) := fun _ => hf
        clear hf HF ht
        go_wp2_with fail
        refine (put_any w1.heap.size vo [] (B y) _ (by rw [B_size]; simp; omega) (HO2.out ()) (by omega)).mono ?_
        rintro e w4 ⟨⟨v4, rfl, hO4⟩, hb4⟩
        have hz4 := hb4.size
        rw [B_data, List.nil_append] at hO4
        have HO4 : Hid (Unit → _) := fun _ => hO4
        clear HO2 hO4
        go_wp2_with fail
        refine (put_any w1.heap.size v4 y (B t0) _ (by rw [B_size]; omega) (HO4.out ()) (by omega)).mono ?_
        rintro e w5 ⟨⟨v5, rfl, hO5⟩, hb5⟩
        have hz5 := hb5.size
        rw [B_data] at hO5
        have HO5 : Hid (Unit → _) := fun _ => hO5
        clear HO4 hO5
        have hyt : (y ++ t0).length ≤ 2 * s.size + 4 := by rw [List.length_append]; omega
        go_wp2_with (at_builtin; refine wpList_append_own _ rfl _ _ 52 rfl w1.heap.size 5 i0 (.int .u8 0) 1 1 Tryd.underlying52 hi hzr0 hzr1 hzr2 rfl (by decide) _ _ _ rfl ((HO5.out ()).alloc _) ⟨w5.heap.size, 0, none⟩ 1 1 [.int .u8 10] rfl rfl ?c1 ?c2 ?c3 ?c4 ?c5 ?_)
        case c1 => exact cell_one_new _ _ _
        case c2 => intro u hu; simp at hu; subst hu; rfl
        case c3 => unfold maxLen; omega
        case c4 => omega
        case c5 => simp only [World.size_alloc]; omega
        intro v6 w6 hown' hgrow _
        have hb6 : Below w1.heap.size w5 w6 := ((Below.refl _ _).alloc (by omega) _).grown hgrow (by simp only [World.size_alloc]; omega) (fun j e => (World.ownsRow.lt (HO5.out ()) j e).1)
        have HO6 : Hid (Unit → OwnB w1.heap.size v6 (firstL x0 y) w6) := fun _ => by
          rw [HF2.out ()]; exact ownB_snoc hown' (by simp)
        clear hown' hgrow HO5 HF2
        go_wp2_with fail
        have hkx : Below w1.heap.size w1 w6 := (((HB2.out ()).trans hb4).trans hb5).trans hb6
        go_loopw [10, 12] (fun v i wr => ∃ k2 : Nat, 1 ≤ k2 ∧ (k2 ≤ r.length ∨ k2 = 1) ∧ i = .int .i64 k2 ∧ Hid (Unit → OwnB w1.heap.size v (firstL x0 y ++ flatL (r.take (k2 - 1))) wr) ∧ Below w1.heap.size w1 wr) (fun _ i _ => r.length - (intOf i).toNat)
        case atStart => exact ⟨1, Nat.le_refl _, .inr rfl, rfl, fun _ => by simpa [flatL] using HO6.out (), hkx⟩
        case round =>
          obtain ⟨k2, hk21, hk22, rfl, HO, hbr⟩ := hrel
          clear HO6 hkx
          have hzr := hbr.size
          have hft := flatL_take_le r (k2 - 1)
          have hll : (firstL x0 y ++ flatL (r.take (k2 - 1))).length ≤ 3 * s.size + 5 := by rw [List.length_append]; omega
          by_cases hlt2 : k2 < r.length
          · obtain ⟨q, rfl⟩ : ∃ q, k2 = q + 1 := ⟨k2 - 1, by omega⟩
            obtain ⟨z, hz⟩ : ∃ z, r[q]? = some z := ⟨r[q], List.getElem?_eq_getElem (by omega)⟩
            have hc := (hbr.cell (p := ⟨g, q + 1, none⟩) hg).trans (HC.out () (q + 1) z (by simpa using hz))
            have hzl := HPC.out () z (by simp [List.mem_of_getElem? hz])
            have hto : firstL x0 y ++ flatL (r.take (q + 1)) = firstL x0 y ++ flatL (r.take q) ++ z ++ [10] := by rw [flatL_take_succ r q z hz]; simp
            rw [Nat.add_sub_cancel] at HO hft hll
            clear hz
            generalize firstL x0 y ++ flatL (r.take q) = L at HO hto hll
            have HT : Hid (Unit → _) := fun _ => hto
            clear hto
            have hlz : (L ++ z).length ≤ 4 * s.size + 5 := by rw [List.length_append]; omega
            go_wp2_with fail
            refine (put_any w1.heap.size u10 L (B z) _ (by rw [B_size]; omega) (HO.out ()) (by omega)).mono ?_
            rintro e wa ⟨⟨va, rfl, hOa⟩, hba⟩
            have hza := hba.size
            rw [B_data] at hOa
            have HOa : Hid (Unit → _) := fun _ => hOa
            clear HO hOa hc
            go_wp2_with (at_builtin; refine wpList_append_own _ rfl _ _ 52 rfl w1.heap.size 5 i0 (.int .u8 0) 1 1 Tryd.underlying52 hi hzr0 hzr1 hzr2 rfl (by decide) _ _ _ rfl ((HOa.out ()).alloc _) ⟨wa.heap.size, 0, none⟩ 1 1 [.int .u8 10] rfl rfl ?c1 ?c2 ?c3 ?c4 ?c5 ?_)
            case c1 => exact cell_one_new _ _ _
            case c2 => intro u hu; simp at hu; subst hu; rfl
            case c3 => unfold maxLen; omega
            case c4 => omega
            case c5 => simp only [World.size_alloc]; omega
            intro vb wb hown' hgrow _
            have hbb : Below w1.heap.size wa wb := ((Below.refl _ _).alloc (by omega) _).grown hgrow (by simp only [World.size_alloc]; omega) (fun j e => (World.ownsRow.lt (HOa.out ()) j e).1)
            have HOb : Hid (Unit → OwnB w1.heap.size vb (firstL x0 y ++ flatL (r.take (q + 1))) wb) := fun _ => by
              rw [HT.out ()]; exact ownB_snoc hown' (by simp)
            clear hown' hgrow HOa
            go_wp2_with fail
            go_roundw
            case rel => exact ⟨q + 1 + 1, by omega, by omega, by go_num, HOb, (hbr.trans hba).trans hbb⟩
            case measure => simp [intOf]; omega
          · have hdl : r.take (k2 - 1) = r.dropLast := by
              rw [List.dropLast_eq_take]; congr 1; omega
            rw [hdl] at HO hll
            clear hdl hft
            by_cases hr : r = []
            · have hbo : bodyOf x0 r = firstL x0 y ++ flatL r.dropLast := by
                rw [bodyOf, if_pos hr, HY.out ()]; simp
              have HOf : Hid (Unit → OwnB w1.heap.size u10 (bodyOf x0 r) wr) := fun _ => by rw [hbo]; exact HO.out ()
              have hlf : (bodyOf x0 r).length ≤ 5 * s.size + 10 := by rw [hbo]; omega
              have hbf := hbr
              have hr0 : r.length = 0 := by rw [hr]; rfl
              clear HO hbo hr
              obtain ⟨bd, hbd⟩ : ∃ bd, bd = bodyOf x0 r := ⟨_, rfl⟩
              rw [← hbd] at HOf hlf
              have HBD : Hid (Unit → _) := fun _ => hbd
              clear hbd
              have hcv := conv_own (HOf.out ())
              have hbl2 : (B bd).size ≤ 100000000 := by rw [B_size]; omega
              go_wp2_with fail
              refine (more_any (B bd) _ (by omega)).mono ?_
              rintro e wz ⟨rfl, rfl⟩
              rw [B_data]
              clear hcv
              go_wp2_with fail
              go_ret2
              exact ⟨by rw [← HBD.out ()]; rfl, hb1.trans (hbf.mono hz1)⟩
            · have hr1 : 1 ≤ r.length := by
                cases r with
                | nil => exact absurd rfl hr
                | cons _ _ => simp
              obtain ⟨z, hz, hzd⟩ : ∃ z, (x0 :: r)[r.length]? = some z ∧ r.getLastD [] = z := by
                rcases List.eq_nil_or_concat r with h | ⟨r', z, h⟩
                · exact absurd h hr
                · exact ⟨z, by rw [h]; simp, by rw [h]; simp⟩
              have hc := (hbr.cell (p := ⟨g, r.length, none⟩) hg).trans (HC.out () r.length z hz)
              have hzl := HPC.out () z (List.mem_of_getElem? hz)
              have htz := trimRightS_le z [32, 9, 13]
              have htr := fun W => trimR_any (B z) W (by rw [B_size]; omega)
              simp only [B_data] at htr
              have hbo : bodyOf x0 r = firstL x0 y ++ flatL r.dropLast ++ endL z := by
                rw [bodyOf, if_neg hr, HY.out (), hzd]
              have hen : endL z = if Lib.trimRightS z [32, 9, 13] = [] then [] else Lib.trimRightS z [32, 9, 13] ++ [10] := rfl
              rw [hen] at hbo
              clear hz hzd hen
              generalize Lib.trimRightS z [32, 9, 13] = e0 at htr hbo htz
              generalize firstL x0 y ++ flatL r.dropLast = L at HO hbo hll
              have HBO : Hid (Unit → _) := fun _ => hbo
              clear hbo
              go_wp2_with fail
              refine (htr _).mono ?_
              clear htr hc
              rintro e wt ⟨rfl, rfl⟩
              by_cases hE : e0 = []
              · have hE0 : (B e0).toList.isEmpty = true := by rw [isEmpty_B, hE]; rfl
                have hbo2 : bodyOf x0 r = L := by rw [HBO.out (), if_pos hE, List.append_nil]
                have HOf : Hid (Unit → OwnB w1.heap.size u10 (bodyOf x0 r) wt) := fun _ => by rw [hbo2]; exact HO.out ()
                have hlf : (bodyOf x0 r).length ≤ 5 * s.size + 10 := by rw [hbo2]; omega
                have hbf := hbr
                clear HO hbo2 HBO hE hr
                obtain ⟨bd, hbd⟩ : ∃ bd, bd = bodyOf x0 r := ⟨_, rfl⟩
                rw [← hbd] at HOf hlf
                have HBD : Hid (Unit → _) := fun _ => hbd
                clear hbd
                have hcv := conv_own (HOf.out ())
                have hbl2 : (B bd).size ≤ 100000000 := by rw [B_size]; omega
                go_wp2_with fail
                refine (more_any (B bd) _ (by omega)).mono ?_
                rintro e wz ⟨rfl, rfl⟩
                rw [B_data]
                clear hcv
                go_wp2_with fail
                go_ret2
                exact ⟨by rw [← HBD.out ()]; rfl, hb1.trans (hbf.mono hz1)⟩
              · have hE0 : (B e0).toList.isEmpty = false := by rw [isEmpty_B]; cases e0 with | nil => exact absurd rfl hE | cons _ _ => rfl
                have hbo2 : bodyOf x0 r = L ++ e0 ++ [10] := by rw [HBO.out (), if_neg hE]; simp
                have HBO2 : Hid (Unit → _) := fun _ => hbo2
                clear HBO hbo2 hE hr
                have hle : (L ++ e0).length ≤ 4 * s.size + 5 := by rw [List.length_append]; omega
                go_wp2_with fail
                refine (put_any w1.heap.size u10 L (B e0) _ (by rw [B_size]; omega) (HO.out ()) (by omega)).mono ?_
                rintro e wa ⟨⟨va, rfl, hOa⟩, hba⟩
                have hza := hba.size
                rw [B_data] at hOa
                have HOa : Hid (Unit → _) := fun _ => hOa
                clear HO hOa
                go_wp2_with (at_builtin; refine wpList_append_own _ rfl _ _ 52 rfl w1.heap.size 5 i0 (.int .u8 0) 1 1 Tryd.underlying52 hi hzr0 hzr1 hzr2 rfl (by decide) _ _ _ rfl ((HOa.out ()).alloc _) ⟨wa.heap.size, 0, none⟩ 1 1 [.int .u8 10] rfl rfl ?c1 ?c2 ?c3 ?c4 ?c5 ?_)
                case c1 => exact cell_one_new _ _ _
                case c2 => intro u hu; simp at hu; subst hu; rfl
                case c3 => unfold maxLen; omega
                case c4 => omega
                case c5 => simp only [World.size_alloc]; omega
                intro vb wb hown' hgrow _
                have hbb : Below w1.heap.size wa wb := ((Below.refl _ _).alloc (by omega) _).grown hgrow (by simp only [World.size_alloc]; omega) (fun j e => (World.ownsRow.lt (HOa.out ()) j e).1)
                have HOf : Hid (Unit → OwnB w1.heap.size vb (bodyOf x0 r) wb) := fun _ => by
                  rw [HBO2.out ()]; exact ownB_snoc hown' (by simp)
                have hlf : (bodyOf x0 r).length ≤ 5 * s.size + 10 := by rw [HBO2.out (), List.length_append]; simp; rw [List.length_append] at hle; omega
                have hbf := (hbr.trans hba).trans hbb
                clear hown' hgrow HOa HBO2
                obtain ⟨bd, hbd⟩ : ∃ bd, bd = bodyOf x0 r := ⟨_, rfl⟩
                rw [← hbd] at HOf hlf
                have HBD : Hid (Unit → _) := fun _ => hbd
                clear hbd
                have hcv := conv_own (HOf.out ())
                have hbl2 : (B bd).size ≤ 100000000 := by rw [B_size]; omega
                go_wp2_with fail
                refine (more_any (B bd) _ (by omega)).mono ?_
                rintro e wz ⟨rfl, rfl⟩
                rw [B_data]
                clear hcv
                go_wp2_with fail
                go_ret2
                exact ⟨by rw [← HBD.out ()]; rfl, hb1.trans (hbf.mono hz1)⟩
end Go.Proofs.Qxb6603042aDoor
