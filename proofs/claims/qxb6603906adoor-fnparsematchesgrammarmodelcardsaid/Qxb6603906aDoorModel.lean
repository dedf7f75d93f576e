import Derived.Test.Qxb6603906aDoorModelA
import Derived.Deep.DeepCutAuto
import Derived.Deep.CutBlock
import Derived.Deep.Light
import Derived.Deep.QuietTactic
import Derived.BigQuiet
namespace Go.Proofs.Qxb6603906aDoor
open Go.RowKit Pl

theorem int_eqm {a b : Int} (h : a = b) : Value.int .i64 a = Value.int .i64 b := by rw [h]
set_option linter.unusedSimpArgs false in
set_option maxRecDepth 100000 in
set_option maxHeartbeats 40000000 in
theorem model_c (s : ByteArray) (w : World) (hs : s.size ≤ 16777216) :
    Calls Tryd.prog 8 #[.string s] w fun e w' => e = .returned (modV (parseL s.data.toList)) ∧ Below w.heap.size w w' := by
  obtain ⟨d, hd⟩ : ∃ d, d = mA 0 false [] 0 false 0 false s.data.toList := ⟨_, rfl⟩
  rw [← model_parse, ← hd]
  have HD : Hid (Unit → d = mA 0 false [] 0 false 0 false s.data.toList) := fun _ => hd
  clear hd
  obtain ⟨i0, hi, hz0, hz1, hz2⟩ := info_parts Tryd.info5
  have HI : Hid (Unit → _) := fun _ => And.intro hi (And.intro hz0 (And.intro hz1 hz2))
  go_enter Tryd.func8, Tryd.ntmps8
  go_wp2_with (at_make; refine wpList_make_own _ rfl _ _ 33 rfl w.heap.size 5 i0 (.int .u8 0) 1 Tryd.underlying33 hi hz0 hz1 _ _ _ s.size rfl rfl rfl ?b2 ?b3 (Nat.le_refl _) ?_)
  case b2 => rw [hz2]; omega
  case b3 => unfold maxLen; omega
  clear hi hz0 hz1 hz2
  intro w1 hown1 hgrow1
  have hb1 : Below w.heap.size w w1 := (Below.refl _ _).grown hgrow1 (Nat.le_refl _) (fun _ e => by cases e)
  have HO1 : Hid (Unit → OwnB w.heap.size (.slice (some ⟨w.heap.size, 0, none⟩) 0 s.size) [] w1) := fun _ => hown1
  clear hown1 hgrow1
  go_wp2_with fail
  go_loopw [6, 7, 8, 9, 10, 11, 12, 13] (fun v6 v7 v8 v9 v10 v11 v12 v13 wr => MRel s w d v6 v7 v8 v9 v10 v11 v12 v13 wr) (fun _ _ _ _ _ _ _ v13 _ => s.size - (intOf v13).toNat)
  case atStart =>
    go_light
    exact ⟨0, false, [], 0, false, 0, false, 0, _, _, by decide, Nat.zero_le _, Nat.le_refl _, Nat.le_refl _, by decide, fun _ => by decide, rfl, rfl, rfl, rfl, rfl, rfl, rfl, rfl, HO1, hb1, fun _ => by rw [List.drop_zero]; exact HD.out ()⟩
  case round =>
  clear HO1 hb1 HD
  obtain ⟨st, neg, sig, wn, en, e, big, k, g, cap, hst, hk, hwn, hsg, he, heb, rfl, rfl, rfl, rfl, rfl, rfl, rfl, rfl, HO, hb, HD⟩ := hrel
  by_cases hlt : k < s.size
  rotate_left
  · have hlti : decide ((k : Int) < (s.size : Int)) = false := by simp; omega
    have HF : Hid (Unit → d = finM st neg sig wn en e big) := fun _ => by
      rw [HD.out (), List.drop_eq_nil_of_le (by rw [← Lib.size_eq]; omega), mA]
    clear HD
    as_aux_lemma =>
      go_upto_region 74 with fail
      go_cut [134] (fun v134 wx => v134 = .bool (!accB st) ∧ wx = wr)
      case first =>
        have hst9 : st = 0 ∨ st = 1 ∨ st = 2 ∨ st = 3 ∨ st = 4 ∨ st = 5 ∨ st = 6 ∨ st = 7 ∨ st = 8 := by
          go_light
          omega
        clear HF HO hb heb hst
        rcases hst9 with rfl | rfl | rfl | rfl | rfl | rfl | rfl | rfl | rfl
        all_goals
          go_wp2_with fail
          go_meet
          exact ⟨rfl, rfl⟩
      case rest =>
      obtain ⟨rfl, rfl⟩ := hcut
      cases hacc : accB st
      · have HE : Hid (Unit → d = no) := fun _ => (HF.out ()).trans (finM_no hacc neg sig wn en e big)
        clear HF HO heb
        go_upto_if 134 with fail
        go_light
        repeat (first | go_values | go_skip | go_guarded | go_step | go_upon)
        refine bodyPost_ret (v := modV no) ?_ rfl ⟨by rw [HE.out ()], hb⟩
        simp [results, Tryd.results8, go_sem, modV, no]; rfl
      have HF1 : Hid (Unit → _) := fun _ => (HF.out ()).trans (finM_yes hacc neg sig wn en e big)
      clear HF hst
      cases big
      rotate_left
      · have HE : Hid (Unit → d = no) := fun _ => HF1.out ()
        clear HF1 HO heb
        go_upto_if 135 with fail
        go_light
        repeat (first | go_values | go_skip | go_guarded | go_step | go_upon)
        refine bodyPost_ret (v := modV no) ?_ rfl ⟨by rw [HE.out ()], hb⟩
        simp [results, Tryd.results8, go_sem, modV, no]; rfl
      have he1 := heb rfl
      have HF2 : Hid (Unit → d = finG neg sig wn (if en then -(e : Int) else (e : Int))) := fun _ => HF1.out ()
      clear HF1 heb he
      go_wp2_with fail
      go_loop [17, 18, 19] (fun v17 v18 v19 => FRel sig v17 v18 v19) (fun _ _ v19 => sig.length - (intOf v19).toNat)
      case atStart => exact ⟨0, Nat.zero_le _, rfl, .inl ⟨rfl, rfl, fun _ m h => (Nat.not_lt_zero _ h).elim⟩⟩
      case round =>
      obtain ⟨q, hq, rfl, hr⟩ := hrel
      by_cases hql : q < sig.length
      · have hqli : decide ((q : Int) < (sig.length : Int)) = true := by go_light; simp; omega
        have hcell := ownB_cell (HO.out ()) q hql
        have HG : Hid (Unit → sig[q]? = some sig[q]) := fun _ => List.getElem?_eq_getElem hql
        obtain ⟨c, hc⟩ : ∃ c, c = sig[q] := ⟨_, rfl⟩
        rw [← hc] at hcell
        have HC : Hid (Unit → sig[q]? = some c) := fun _ => by rw [hc]; exact HG.out ()
        clear hc HG HO HF2
        cases h48 : ((c.toNat : Int) == 48)
        · have hne : ((c.toNat : Int) != 48) = true := by go_light; simpa [bne] using h48
          have HN : Hid (Unit → c ≠ 48) := fun _ => ne48 h48
          rcases hr with ⟨rfl, rfl, HZ⟩ | ⟨i, j, rfl, rfl, hij, hjq, HZ⟩
          · go_wp2_with fail
            go_round
            case rel =>
              go_light
              refine ⟨q + 1, hql, by go_num, .inr ⟨q, q, rfl, rfl, Nat.le_refl _, Nat.lt_succ_self _, fun _ => ⟨HZ.out (), ?_, ?_, ?_⟩⟩⟩
              · intro b hb'; rw [HC.out ()] at hb'; cases hb'; exact HN.out ()
              · intro b hb'; rw [HC.out ()] at hb'; cases hb'; exact HN.out ()
              · intro m h1 h2; omega
            case measure => go_light; simp [intOf]; omega
          · have hi0 : decide ((i : Int) < 0) = false := by go_light; simp
            go_wp2_with fail
            go_round
            case rel =>
              go_light
              obtain ⟨z1, z2, z3, z4⟩ := HZ.out ()
              refine ⟨q + 1, hql, by go_num, .inr ⟨i, q, rfl, rfl, by omega, Nat.lt_succ_self _, fun _ => ⟨z1, z2, ?_, ?_⟩⟩⟩
              · intro b hb'; rw [HC.out ()] at hb'; cases hb'; exact HN.out ()
              · intro m h1 h2; omega
            case measure => go_light; simp [intOf]; omega
        · have hne : ((c.toNat : Int) != 48) = false := by go_light; simpa [bne] using h48
          have HN : Hid (Unit → sig[q]? = some 48) := fun _ => by rw [HC.out (), (eq48 c).1 h48]
          rcases hr with ⟨rfl, rfl, HZ⟩ | ⟨i, j, rfl, rfl, hij, hjq, HZ⟩
          · go_wp2_with fail
            go_round
            case rel =>
              go_light
              refine ⟨q + 1, hql, by go_num, .inl ⟨rfl, rfl, fun _ m h => ?_⟩⟩
              by_cases hm : m = q
              · subst hm; exact HN.out ()
              · exact HZ.out () m (by omega)
            case measure => go_light; simp [intOf]; omega
          · go_wp2_with fail
            go_round
            case rel =>
              go_light
              obtain ⟨z1, z2, z3, z4⟩ := HZ.out ()
              refine ⟨q + 1, hql, by go_num, .inr ⟨i, j, rfl, rfl, hij, by omega, fun _ => ⟨z1, z2, z3, fun m h1 h2 => ?_⟩⟩⟩
              by_cases hm : m = q
              · subst hm; exact HN.out ()
              · exact z4 m h1 (by omega)
            case measure => go_light; simp [intOf]; omega
      · have hqli : decide ((q : Int) < (sig.length : Int)) = false := by go_light; simp; omega
        obtain rfl : q = sig.length := by go_light; omega
        rcases hr with ⟨rfl, rfl, HZ⟩ | ⟨i, j, rfl, rfl, hij, hjq, HZ⟩
        · have HE : Hid (Unit → d = zr) := fun _ => (HF2.out ()).trans (if_pos (digs_zero sig (HZ.out ())))
          clear HF2 HO HZ
          go_upto_if 152 with fail
          go_light
          repeat (first | go_values | go_skip | go_guarded | go_step | go_upon)
          refine bodyPost_ret (v := modV zr) ?_ rfl ⟨by rw [HE.out ()], hb⟩
          simp [results, Tryd.results8, go_sem, modV, zr]; rfl
        · obtain ⟨z1, z2, z3, z4⟩ := HZ.out ()
          obtain ⟨hdgs, hld⟩ := digs_cut sig i j hij hjq z1 z2 z3 z4
          have hne : digsOf sig ≠ [] := by rw [hdgs]; intro h; have := congrArg List.length h; rw [List.length_take, List.length_drop, List.length_nil] at this; go_light; omega
          obtain ⟨hcap1, hcap2⟩ := ownB_cap (HO.out ())
          unfold maxLen at hcap2
          have hcv := conv_cut (HO.out ()) i (j + 1) (by go_light; omega) hjq
          rw [← hdgs] at hcv
          have hp := (HF2.out ()).trans (if_neg hne)
          rw [hld] at hp
          have hcv2 : ∀ n cap', (convert 33 9 (.slice (some ⟨g, i, none⟩) (j + 1 - i) cap')).run Tryd.prog (wc.drewN n) = .ok (.string (B (digsOf sig))) (wc.drewN n) := fun n cap' => by
            rw [hdgs]; exact conv_cut (w := wc.drewN n) (HO.out ()) i (j + 1) (by go_light; omega) hjq cap'
          clear HF2 HO HZ z1 z2 z3 z4 hdgs hld hne
          generalize digsOf sig = dl at hcv hcv2 hp
          obtain ⟨x, hx⟩ : ∃ x : Int, x = if en then -(e : Int) else (e : Int) := ⟨_, rfl⟩
          rw [← hx] at hp
          have HX : Hid (Unit → _) := fun _ => hx
          have hx1 : -100000000000000000 < x := by rw [hx]; clear hx; go_light; split <;> omega
          have hx2 : x < 100000000000000000 := by rw [hx]; clear hx; go_light; split <;> omega
          clear hx
          obtain ⟨v, hv⟩ : ∃ v : Int, v = (wn : Int) - i + x := ⟨_, rfl⟩
          rw [← hv] at hp
          have HP : Hid (Unit → _) := fun _ => hp
          have hvi : (wn : Int) - (i : Int) + x = v := hv.symm
          clear hp hv
          have hwn2 : wn ≤ s.size := Nat.le_trans hwn hk
          have hil : i ≤ s.size := by go_light; omega
          have hjl : j + 1 ≤ sig.length := hjq
          have hjl2 : j ≤ s.size := by go_light; omega
          go_upto_if 154 with fail
          go_cut [20] (fun v20 wx => v20 = .int .i64 x ∧ wx = wc)
          case first =>
            clear hcv hcv2 HP hvi
            cases en
            all_goals
              go_wp2_with fail
              go_meet
              exact ⟨int_eqm (by rw [HX.out ()]; rfl), rfl⟩
          case rest =>
          obtain ⟨rfl, rfl⟩ := hcut
          clear HX
          by_cases hv1 : 10000 < v
          · have HE : Hid (Unit → d = no) := fun _ => by rw [HP.out ()]; exact if_pos (.inl hv1)
            have hv1i : decide ((10000 : Int) < v) = true := by simp; omega
            clear HP hcv hcv2
            go_upto_if 167 with fail
            go_light
            repeat (first | go_values | go_skip | go_guarded | go_step | go_upon)
            refine bodyPost_ret (v := modV no) ?_ rfl ⟨by rw [HE.out ()], hb⟩
            simp [results, Tryd.results8, go_sem, modV, no]; rfl
          have hv1i : decide ((10000 : Int) < v) = false := by simp; omega
          by_cases hv2 : v < -10000
          · have HE : Hid (Unit → d = no) := fun _ => by rw [HP.out ()]; exact if_pos (.inr hv2)
            have hv2i : decide (v < (-10000 : Int)) = true := by simp; omega
            clear HP hcv hcv2
            go_upto_if 167 with fail
            go_light
            repeat (first | go_values | go_skip | go_guarded | go_step | go_upon)
            refine bodyPost_ret (v := modV no) ?_ rfl ⟨by rw [HE.out ()], hb⟩
            simp [results, Tryd.results8, go_sem, modV, no]; rfl
          have hv2i : decide (v < (-10000 : Int)) = false := by simp; omega
          have HE : Hid (Unit → d = (neg, dl, v, true)) := fun _ => by rw [HP.out ()]; exact if_neg (fun h => h.elim hv1 hv2)
          clear HP hv1 hv2
          go_upto_if 167 with fail
          go_wp2_with fail
          go_quiet (fail)
          repeat (first | go_values | go_skip | go_guarded | go_step | go_upon)
          refine bodyPost_ret (v := modV (neg, dl, v, true)) ?_ rfl ⟨by rw [HE.out ()], below_drewN hb _⟩
          simp [results, Tryd.results8, go_sem, modV]
  have hlti : decide ((k : Int) < (s.size : Int)) = true := by simp; omega
  obtain ⟨c, hc⟩ : ∃ c, c = s[k] := ⟨_, rfl⟩
  have HC : Hid (Unit → c = s[k]) := fun _ => hc
  have HD1 : Hid (Unit → _) := fun _ => (HD.out ()).trans ((congrArg (mA st neg sig wn en e big) ((dropB s k hlt).trans (by rw [← hc]))).trans (mA_cons st neg sig wn en e big c (s.data.toList.drop (k + 1))))
  clear hc HD
  go_upto_region 12 with fail
  go_cut [14, 15] (fun v14 v15 wx => v14 = .int .u8 (c.toNat : Int) ∧ v15 = .bool (dig c) ∧ wx = wr)
  case first =>
    as_aux_lemma =>
      have HG : Hid (Unit → dig c = (decide (48 ≤ (s[k].toNat : Int)) && decide ((s[k].toNat : Int) ≤ 57))) := fun _ => by rw [HC.out ()]; rfl
      by_cases h1 : 48 ≤ (s[k].toNat : Int)
      · by_cases h2 : (s[k].toNat : Int) ≤ 57
        · have HG1 : Hid (Unit → dig c = true) := fun _ => by rw [HG.out (), decide_eq_true h1, decide_eq_true h2]; rfl
          go_wp2_with fail
          go_meet
          exact ⟨by rw [HC.out ()], by rw [HG1.out ()], rfl⟩
        · have HG1 : Hid (Unit → dig c = false) := fun _ => by rw [HG.out (), decide_eq_true h1, decide_eq_false h2]; rfl
          go_wp2_with fail
          go_meet
          exact ⟨by rw [HC.out ()], by rw [HG1.out ()], rfl⟩
      · have HG1 : Hid (Unit → dig c = false) := fun _ => by rw [HG.out (), decide_eq_false h1]; rfl
        go_wp2_with fail
        go_meet
        exact ⟨by rw [HC.out ()], by rw [HG1.out ()], rfl⟩
  case rest =>
  obtain ⟨rfl, rfl, rfl⟩ := hcut
  clear HC
  obtain ⟨dg, hdg⟩ : ∃ dg, dg = dig c := ⟨_, rfl⟩
  rw [← hdg]
  have HDG : Hid (Unit → dg = dig c) := fun _ => hdg
  clear hdg
  go_upto_block 2 with fail
  go_cut [7, 10, 16] (fun v7 v10 v16 wx => v7 = .bool (neg || (st == 0 && c == 45)) ∧ v10 = .bool (en || (st == 6 && c == 45)) ∧ v16 = .int .i64 (nxI st c) ∧ wx = wc)
  case first =>
    have hx := fun W => expmark_c c W
    obtain ⟨xb, hxb⟩ : ∃ xb, xb = isX c := ⟨_, rfl⟩
    rw [← hxb] at hx
    have HX : Hid (Unit → xb = isX c) := fun _ => hxb
    clear hxb
    have hst9 : st = 0 ∨ st = 1 ∨ st = 2 ∨ st = 3 ∨ st = 4 ∨ st = 5 ∨ st = 6 ∨ st = 7 ∨ st = 8 := by
      clear HDG HX hx
      go_light
      omega
    clear HD1 HO hb heb hst
    rcases hst9 with rfl | rfl | rfl | rfl | rfl | rfl | rfl | rfl | rfl
    · as_aux_lemma =>
        cases h45 : ((c.toNat : Int) == 45)
        · cases h48 : ((c.toNat : Int) == 48)
          · cases dg
            · go_wp2_with (go_at_call 16; refine (hx _).mono ?_; clear hx; rintro e w2 ⟨rfl, rfl⟩)
              go_meet
              go_light
              have f45 := ne45 h45
              have f48 := ne48 h48
              have fd : dig c = false := (HDG.out ()).symm
              exact ⟨by simp [f45, f48, fd], by simp [f45, f48, fd], int_eqm (by simp [nxI, nxt, f45, f48, fd]), rfl⟩
            · go_wp2_with (go_at_call 16; refine (hx _).mono ?_; clear hx; rintro e w2 ⟨rfl, rfl⟩)
              go_meet
              go_light
              have f45 := ne45 h45
              have f48 := ne48 h48
              have fd : dig c = true := (HDG.out ()).symm
              have fq := dig_45 fd
              exact ⟨by simp [f45, f48, fd, fq.1, fq.2.1, fq.2.2.1, fq.2.2.2], by simp [f45, f48, fd, fq.1, fq.2.1, fq.2.2.1, fq.2.2.2], int_eqm (by simp [nxI, nxt, f45, f48, fd, fq.1, fq.2.1, fq.2.2.1, fq.2.2.2]), rfl⟩
          · go_wp2_with (go_at_call 16; refine (hx _).mono ?_; clear hx; rintro e w2 ⟨rfl, rfl⟩)
            go_meet
            go_light
            have f45 := ne45 h45
            have f48 : c = 48 := (eq48 c).1 h48
            subst f48
            exact ⟨by simp, by simp, int_eqm (by simp [nxI, nxt, f45]), rfl⟩
        · go_wp2_with (go_at_call 16; refine (hx _).mono ?_; clear hx; rintro e w2 ⟨rfl, rfl⟩)
          go_meet
          go_light
          have f45 : c = 45 := (eq45 c).1 h45
          subst f45
          exact ⟨by simp, by simp, int_eqm (by simp [nxI, nxt]), rfl⟩
    · as_aux_lemma =>
        cases h48 : ((c.toNat : Int) == 48)
        · cases dg
          · go_wp2_with (go_at_call 16; refine (hx _).mono ?_; clear hx; rintro e w2 ⟨rfl, rfl⟩)
            go_meet
            go_light
            have f48 := ne48 h48
            have fd : dig c = false := (HDG.out ()).symm
            exact ⟨by simp [f48, fd], by simp [f48, fd], int_eqm (by simp [nxI, nxt, f48, fd]), rfl⟩
          · go_wp2_with (go_at_call 16; refine (hx _).mono ?_; clear hx; rintro e w2 ⟨rfl, rfl⟩)
            go_meet
            go_light
            have f48 := ne48 h48
            have fd : dig c = true := (HDG.out ()).symm
            have fq := dig_45 fd
            exact ⟨by simp [f48, fd, fq.1, fq.2.1, fq.2.2.1, fq.2.2.2], by simp [f48, fd, fq.1, fq.2.1, fq.2.2.1, fq.2.2.2], int_eqm (by simp [nxI, nxt, f48, fd, fq.1, fq.2.1, fq.2.2.1, fq.2.2.2]), rfl⟩
        · go_wp2_with (go_at_call 16; refine (hx _).mono ?_; clear hx; rintro e w2 ⟨rfl, rfl⟩)
          go_meet
          go_light
          have f48 : c = 48 := (eq48 c).1 h48
          subst f48
          exact ⟨by simp, by simp, int_eqm (by simp [nxI, nxt]), rfl⟩
    · as_aux_lemma =>
        cases h46 : ((c.toNat : Int) == 46)
        · cases xb
          · go_wp2_with (go_at_call 16; refine (hx _).mono ?_; clear hx; rintro e w2 ⟨rfl, rfl⟩)
            go_meet
            go_light
            have f46 := ne46 h46
            have fx := isX_no (HX.out ())
            exact ⟨by simp [f46, fx], by simp [f46, fx], int_eqm (by simp [nxI, nxt, f46, fx]), rfl⟩
          · go_wp2_with (go_at_call 16; refine (hx _).mono ?_; clear hx; rintro e w2 ⟨rfl, rfl⟩)
            go_meet
            go_light
            have f46 := ne46 h46
            have fx := isX_yes (HX.out ())
            exact ⟨by simp [f46, fx], by simp [f46, fx], int_eqm (by simp [nxI, nxt, f46, fx]), rfl⟩
        · go_wp2_with (go_at_call 16; refine (hx _).mono ?_; clear hx; rintro e w2 ⟨rfl, rfl⟩)
          go_meet
          go_light
          have f46 : c = 46 := (eq46 c).1 h46
          subst f46
          exact ⟨by simp, by simp, int_eqm (by simp [nxI, nxt]), rfl⟩
    · as_aux_lemma =>
        cases dg
        · cases h46 : ((c.toNat : Int) == 46)
          · cases xb
            · go_wp2_with (go_at_call 16; refine (hx _).mono ?_; clear hx; rintro e w2 ⟨rfl, rfl⟩)
              go_meet
              go_light
              have fd : dig c = false := (HDG.out ()).symm
              have f46 := ne46 h46
              have fx := isX_no (HX.out ())
              exact ⟨by simp [fd, f46, fx], by simp [fd, f46, fx], int_eqm (by simp [nxI, nxt, fd, f46, fx]), rfl⟩
            · go_wp2_with (go_at_call 16; refine (hx _).mono ?_; clear hx; rintro e w2 ⟨rfl, rfl⟩)
              go_meet
              go_light
              have fd : dig c = false := (HDG.out ()).symm
              have f46 := ne46 h46
              have fx := isX_yes (HX.out ())
              exact ⟨by simp [fd, f46, fx], by simp [fd, f46, fx], int_eqm (by simp [nxI, nxt, fd, f46, fx]), rfl⟩
          · go_wp2_with (go_at_call 16; refine (hx _).mono ?_; clear hx; rintro e w2 ⟨rfl, rfl⟩)
            go_meet
            go_light
            have fd : dig c = false := (HDG.out ()).symm
            have f46 : c = 46 := (eq46 c).1 h46
            subst f46
            exact ⟨by simp, by simp, int_eqm (by simp [nxI, nxt, fd]), rfl⟩
        · go_wp2_with (go_at_call 16; refine (hx _).mono ?_; clear hx; rintro e w2 ⟨rfl, rfl⟩)
          go_meet
          go_light
          have fd : dig c = true := (HDG.out ()).symm
          have fq := dig_45 fd
          exact ⟨by simp [fd, fq.1, fq.2.1, fq.2.2.1, fq.2.2.2], by simp [fd, fq.1, fq.2.1, fq.2.2.1, fq.2.2.2], int_eqm (by simp [nxI, nxt, fd, fq.1, fq.2.1, fq.2.2.1, fq.2.2.2]), rfl⟩
    · as_aux_lemma =>
        cases dg
        · go_wp2_with (go_at_call 16; refine (hx _).mono ?_; clear hx; rintro e w2 ⟨rfl, rfl⟩)
          go_meet
          go_light
          have fd : dig c = false := (HDG.out ()).symm
          exact ⟨by simp [fd], by simp [fd], int_eqm (by simp [nxI, nxt, fd]), rfl⟩
        · go_wp2_with (go_at_call 16; refine (hx _).mono ?_; clear hx; rintro e w2 ⟨rfl, rfl⟩)
          go_meet
          go_light
          have fd : dig c = true := (HDG.out ()).symm
          have fq := dig_45 fd
          exact ⟨by simp [fd, fq.1, fq.2.1, fq.2.2.1, fq.2.2.2], by simp [fd, fq.1, fq.2.1, fq.2.2.1, fq.2.2.2], int_eqm (by simp [nxI, nxt, fd, fq.1, fq.2.1, fq.2.2.1, fq.2.2.2]), rfl⟩
    · as_aux_lemma =>
        cases dg
        · cases xb
          · go_wp2_with (go_at_call 16; refine (hx _).mono ?_; clear hx; rintro e w2 ⟨rfl, rfl⟩)
            go_meet
            go_light
            have fd : dig c = false := (HDG.out ()).symm
            have fx := isX_no (HX.out ())
            exact ⟨by simp [fd, fx], by simp [fd, fx], int_eqm (by simp [nxI, nxt, fd, fx]), rfl⟩
          · go_wp2_with (go_at_call 16; refine (hx _).mono ?_; clear hx; rintro e w2 ⟨rfl, rfl⟩)
            go_meet
            go_light
            have fd : dig c = false := (HDG.out ()).symm
            have fx := isX_yes (HX.out ())
            exact ⟨by simp [fd, fx], by simp [fd, fx], int_eqm (by simp [nxI, nxt, fd, fx]), rfl⟩
        · go_wp2_with (go_at_call 16; refine (hx _).mono ?_; clear hx; rintro e w2 ⟨rfl, rfl⟩)
          go_meet
          go_light
          have fd : dig c = true := (HDG.out ()).symm
          have fq := dig_45 fd
          exact ⟨by simp [fd, fq.1, fq.2.1, fq.2.2.1, fq.2.2.2], by simp [fd, fq.1, fq.2.1, fq.2.2.1, fq.2.2.2], int_eqm (by simp [nxI, nxt, fd, fq.1, fq.2.1, fq.2.2.1, fq.2.2.2]), rfl⟩
    · as_aux_lemma =>
        cases h43 : ((c.toNat : Int) == 43)
        · cases h45 : ((c.toNat : Int) == 45)
          · cases dg
            · go_wp2_with (go_at_call 16; refine (hx _).mono ?_; clear hx; rintro e w2 ⟨rfl, rfl⟩)
              go_meet
              go_light
              have f43 := ne43 h43
              have f45 := ne45 h45
              have fd : dig c = false := (HDG.out ()).symm
              exact ⟨by simp [f43, f45, fd], by simp [f43, f45, fd], int_eqm (by simp [nxI, nxt, f43, f45, fd]), rfl⟩
            · go_wp2_with (go_at_call 16; refine (hx _).mono ?_; clear hx; rintro e w2 ⟨rfl, rfl⟩)
              go_meet
              go_light
              have f43 := ne43 h43
              have f45 := ne45 h45
              have fd : dig c = true := (HDG.out ()).symm
              have fq := dig_45 fd
              exact ⟨by simp [f43, f45, fd, fq.1, fq.2.1, fq.2.2.1, fq.2.2.2], by simp [f43, f45, fd, fq.1, fq.2.1, fq.2.2.1, fq.2.2.2], int_eqm (by simp [nxI, nxt, f43, f45, fd, fq.1, fq.2.1, fq.2.2.1, fq.2.2.2]), rfl⟩
          · go_wp2_with (go_at_call 16; refine (hx _).mono ?_; clear hx; rintro e w2 ⟨rfl, rfl⟩)
            go_meet
            go_light
            have f43 := ne43 h43
            have f45 : c = 45 := (eq45 c).1 h45
            subst f45
            exact ⟨by simp, by simp, int_eqm (by simp [nxI, nxt, f43]), rfl⟩
        · go_wp2_with (go_at_call 16; refine (hx _).mono ?_; clear hx; rintro e w2 ⟨rfl, rfl⟩)
          go_meet
          go_light
          have f43 : c = 43 := (eq43 c).1 h43
          subst f43
          exact ⟨by simp, by simp, int_eqm (by simp [nxI, nxt]), rfl⟩
    · as_aux_lemma =>
        cases dg
        · go_wp2_with (go_at_call 16; refine (hx _).mono ?_; clear hx; rintro e w2 ⟨rfl, rfl⟩)
          go_meet
          go_light
          have fd : dig c = false := (HDG.out ()).symm
          exact ⟨by simp [fd], by simp [fd], int_eqm (by simp [nxI, nxt, fd]), rfl⟩
        · go_wp2_with (go_at_call 16; refine (hx _).mono ?_; clear hx; rintro e w2 ⟨rfl, rfl⟩)
          go_meet
          go_light
          have fd : dig c = true := (HDG.out ()).symm
          have fq := dig_45 fd
          exact ⟨by simp [fd, fq.1, fq.2.1, fq.2.2.1, fq.2.2.2], by simp [fd, fq.1, fq.2.1, fq.2.2.1, fq.2.2.2], int_eqm (by simp [nxI, nxt, fd, fq.1, fq.2.1, fq.2.2.1, fq.2.2.2]), rfl⟩
    · as_aux_lemma =>
        cases dg
        · go_wp2_with (go_at_call 16; refine (hx _).mono ?_; clear hx; rintro e w2 ⟨rfl, rfl⟩)
          go_meet
          go_light
          have fd : dig c = false := (HDG.out ()).symm
          exact ⟨by simp [fd], by simp [fd], int_eqm (by simp [nxI, nxt, fd]), rfl⟩
        · go_wp2_with (go_at_call 16; refine (hx _).mono ?_; clear hx; rintro e w2 ⟨rfl, rfl⟩)
          go_meet
          go_light
          have fd : dig c = true := (HDG.out ()).symm
          have fq := dig_45 fd
          exact ⟨by simp [fd, fq.1, fq.2.1, fq.2.2.1, fq.2.2.2], by simp [fd, fq.1, fq.2.1, fq.2.2.1, fq.2.2.2], int_eqm (by simp [nxI, nxt, fd, fq.1, fq.2.1, fq.2.2.1, fq.2.2.2]), rfl⟩
  case rest =>
  obtain ⟨rfl, rfl, rfl, rfl⟩ := hcut
  clear HDG
  by_cases hn9 : nxt st c = 9
  · have hI : nxI st c = -1 := if_pos hn9
    rw [hI]
    have HE : Hid (Unit → d = no) := fun _ => (HD1.out ()).trans (if_pos hn9)
    clear hI hn9 HD1 HO heb
    as_aux_lemma =>
      go_upto_if 87 with fail
      go_light
      repeat (first | go_values | go_skip | go_guarded | go_step | go_upon)
      refine bodyPost_ret (v := modV no) ?_ rfl ⟨by rw [HE.out ()], hb⟩
      simp [results, Tryd.results8, go_sem, modV, no]; rfl
  have hI : nxI st c = (nxt st c : Int) := if_neg hn9
  rw [hI]
  have HD2 : Hid (Unit → _) := fun _ => (HD1.out ()).trans (if_neg hn9)
  have hnx : nxt st c ≤ 8 := by have := nxt_le st c; go_light; omega
  have hdig8 := nxt_8 st c
  clear hI hn9 HD1 hst
  generalize nxt st c = nx at *
  generalize (neg || (st == 0 && c == 45)) = neg1 at *
  generalize (en || (st == 6 && c == 45)) = en1 at *
  obtain ⟨hi, hz0, hz1, hz2⟩ := HI.out ()
  have hsz := hb.size
  have hnx9 : nx = 0 ∨ nx = 1 ∨ nx = 2 ∨ nx = 3 ∨ nx = 4 ∨ nx = 5 ∨ nx = 6 ∨ nx = 7 ∨ nx = 8 := by
    go_light
    omega
  clear hnx
  rcases hnx9 with rfl | rfl | rfl | rfl | rfl | rfl | rfl | rfl | rfl
  · as_aux_lemma =>
      clear hdig8 hi hz0 hz1 hz2
      go_wp2_with fail
      go_roundw
      case rel =>
        go_light
        refine ⟨0, neg1, sig, wn, en1, e, big, k + 1, g, cap, by decide, hlt, by omega, by omega, he, heb, rfl, rfl, rfl, rfl, rfl, rfl, rfl, by go_num, HO, hb, fun _ => ?_⟩
        simpa using HD2.out ()
      case measure => go_light; simp [intOf]; omega
  · as_aux_lemma =>
      clear hdig8 hi hz0 hz1 hz2
      go_wp2_with fail
      go_roundw
      case rel =>
        go_light
        refine ⟨1, neg1, sig, wn, en1, e, big, k + 1, g, cap, by decide, hlt, by omega, by omega, he, heb, rfl, rfl, rfl, rfl, rfl, rfl, rfl, by go_num, HO, hb, fun _ => ?_⟩
        simpa using HD2.out ()
      case measure => go_light; simp [intOf]; omega
  · as_aux_lemma =>
      clear hdig8
      go_wp2_with (at_builtin; refine wpList_append_own _ rfl _ _ 33 rfl w.heap.size 5 i0 (.int .u8 0) 1 1 Tryd.underlying33 hi hz0 hz1 hz2 rfl (by decide) _ _ _ rfl ((HO.out ()).alloc _) ⟨wc.heap.size, 0, none⟩ 1 1 [.int .u8 c.toNat] rfl rfl ?c1 ?c2 ?c3 ?c4 ?c5 ?_)
      case c2 => rfl
      case c3 => unfold maxLen; go_light; omega
      case c4 => go_light; omega
      case c5 => go_light; omega
      intro v' w1 hown' hgrow _
      have hb1 : Below w.heap.size w w1 := (hb.alloc hsz _).grown hgrow (by rw [World.size_alloc]; exact Nat.le_succ_of_le hsz) (fun j e => (World.ownsRow.lt (HO.out ()) j e).1)
      have HO1 : Hid (Unit → OwnB w.heap.size v' (sig ++ [c]) w1) := fun _ => ownB_snoc hown'
      obtain ⟨g1, cap1, rfl⟩ := ownsRow_succ hown'
      clear hown' hgrow HO hb hi hz0 hz1 hz2
      go_wp2_with fail
      go_roundw
      case rel =>
        go_light
        refine ⟨2, neg1, sig ++ [c], wn + 1, en1, e, big, k + 1, g1, cap1, by decide, hlt, by omega, by rw [List.length_append, List.length_singleton]; omega, he, heb, rfl, rfl, by rw [List.length_append]; rfl, by go_num, rfl, rfl, rfl, by go_num, fun _ => ?_, hb1, fun _ => ?_⟩
        · exact HO1.out ()
        · simpa using HD2.out ()
      case measure => go_light; simp [intOf]; omega
  · as_aux_lemma =>
      clear hdig8
      go_wp2_with (at_builtin; refine wpList_append_own _ rfl _ _ 33 rfl w.heap.size 5 i0 (.int .u8 0) 1 1 Tryd.underlying33 hi hz0 hz1 hz2 rfl (by decide) _ _ _ rfl ((HO.out ()).alloc _) ⟨wc.heap.size, 0, none⟩ 1 1 [.int .u8 c.toNat] rfl rfl ?c1 ?c2 ?c3 ?c4 ?c5 ?_)
      case c2 => rfl
      case c3 => unfold maxLen; go_light; omega
      case c4 => go_light; omega
      case c5 => go_light; omega
      intro v' w1 hown' hgrow _
      have hb1 : Below w.heap.size w w1 := (hb.alloc hsz _).grown hgrow (by rw [World.size_alloc]; exact Nat.le_succ_of_le hsz) (fun j e => (World.ownsRow.lt (HO.out ()) j e).1)
      have HO1 : Hid (Unit → OwnB w.heap.size v' (sig ++ [c]) w1) := fun _ => ownB_snoc hown'
      obtain ⟨g1, cap1, rfl⟩ := ownsRow_succ hown'
      clear hown' hgrow HO hb hi hz0 hz1 hz2
      go_wp2_with fail
      go_roundw
      case rel =>
        go_light
        refine ⟨3, neg1, sig ++ [c], wn + 1, en1, e, big, k + 1, g1, cap1, by decide, hlt, by omega, by rw [List.length_append, List.length_singleton]; omega, he, heb, rfl, rfl, by rw [List.length_append]; rfl, by go_num, rfl, rfl, rfl, by go_num, fun _ => ?_, hb1, fun _ => ?_⟩
        · exact HO1.out ()
        · simpa using HD2.out ()
      case measure => go_light; simp [intOf]; omega
  · as_aux_lemma =>
      clear hdig8 hi hz0 hz1 hz2
      go_wp2_with fail
      go_roundw
      case rel =>
        go_light
        refine ⟨4, neg1, sig, wn, en1, e, big, k + 1, g, cap, by decide, hlt, by omega, by omega, he, heb, rfl, rfl, rfl, rfl, rfl, rfl, rfl, by go_num, HO, hb, fun _ => ?_⟩
        simpa using HD2.out ()
      case measure => go_light; simp [intOf]; omega
  · as_aux_lemma =>
      clear hdig8
      go_wp2_with (at_builtin; refine wpList_append_own _ rfl _ _ 33 rfl w.heap.size 5 i0 (.int .u8 0) 1 1 Tryd.underlying33 hi hz0 hz1 hz2 rfl (by decide) _ _ _ rfl ((HO.out ()).alloc _) ⟨wc.heap.size, 0, none⟩ 1 1 [.int .u8 c.toNat] rfl rfl ?c1 ?c2 ?c3 ?c4 ?c5 ?_)
      case c2 => rfl
      case c3 => unfold maxLen; go_light; omega
      case c4 => go_light; omega
      case c5 => go_light; omega
      intro v' w1 hown' hgrow _
      have hb1 : Below w.heap.size w w1 := (hb.alloc hsz _).grown hgrow (by rw [World.size_alloc]; exact Nat.le_succ_of_le hsz) (fun j e => (World.ownsRow.lt (HO.out ()) j e).1)
      have HO1 : Hid (Unit → OwnB w.heap.size v' (sig ++ [c]) w1) := fun _ => ownB_snoc hown'
      obtain ⟨g1, cap1, rfl⟩ := ownsRow_succ hown'
      clear hown' hgrow HO hb hi hz0 hz1 hz2
      go_wp2_with fail
      go_roundw
      case rel =>
        go_light
        refine ⟨5, neg1, sig ++ [c], wn, en1, e, big, k + 1, g1, cap1, by decide, hlt, by omega, by rw [List.length_append, List.length_singleton]; omega, he, heb, rfl, rfl, by rw [List.length_append]; rfl, rfl, rfl, rfl, rfl, by go_num, fun _ => ?_, hb1, fun _ => ?_⟩
        · exact HO1.out ()
        · simpa using HD2.out ()
      case measure => go_light; simp [intOf]; omega
  · as_aux_lemma =>
      clear hdig8 hi hz0 hz1 hz2
      go_wp2_with fail
      go_roundw
      case rel =>
        go_light
        refine ⟨6, neg1, sig, wn, en1, e, big, k + 1, g, cap, by decide, hlt, by omega, by omega, he, heb, rfl, rfl, rfl, rfl, rfl, rfl, rfl, by go_num, HO, hb, fun _ => ?_⟩
        simpa using HD2.out ()
      case measure => go_light; simp [intOf]; omega
  · as_aux_lemma =>
      clear hdig8 hi hz0 hz1 hz2
      go_wp2_with fail
      go_roundw
      case rel =>
        go_light
        refine ⟨7, neg1, sig, wn, en1, e, big, k + 1, g, cap, by decide, hlt, by omega, by omega, he, heb, rfl, rfl, rfl, rfl, rfl, rfl, rfl, by go_num, HO, hb, fun _ => ?_⟩
        simpa using HD2.out ()
      case measure => go_light; simp [intOf]; omega
  · as_aux_lemma =>
      have hdc := (dig_iff c).1 (hdig8 rfl)
      obtain ⟨h48, h57⟩ := hdc
      clear hdig8 hi hz0 hz1 hz2
      cases big
      · have he1 := heb rfl
        clear heb
        obtain ⟨m, hm⟩ : ∃ m : Nat, m = c.toNat := ⟨_, rfl⟩
        rw [← hm] at h48 h57
        have HU : Hid (Unit → up e c = e * 10 + (m - 48)) := fun _ => by rw [hm]; rfl
        rw [← hm]
        clear hm
        by_cases hge : 100000000000000000 ≤ e * 10 + (m - 48)
        · have hgi : decide ((100000000000000000 : Int) ≤ (e : Int) * 10 + ((m : Int) - 48)) = true := by go_light; simp; omega
          go_wp2_with fail
          go_roundw
          case rel =>
            go_light
            refine ⟨8, neg1, sig, wn, en1, e * 10 + (m - 48), true, k + 1, g, cap, by decide, hlt, by omega, by omega, by omega, fun h => (by cases h), rfl, rfl, rfl, rfl, rfl, int_eqm (by omega), rfl, by go_num, HO, hb, fun _ => ?_⟩
            have h := HD2.out ()
            rw [HU.out ()] at h
            simpa [hge] using h
          case measure => go_light; simp [intOf]; omega
        · have hgi : decide ((100000000000000000 : Int) ≤ (e : Int) * 10 + ((m : Int) - 48)) = false := by go_light; simp; omega
          go_wp2_with fail
          go_roundw
          case rel =>
            go_light
            refine ⟨8, neg1, sig, wn, en1, e * 10 + (m - 48), false, k + 1, g, cap, by decide, hlt, by omega, by omega, by omega, fun _ => by omega, rfl, rfl, rfl, rfl, rfl, int_eqm (by omega), rfl, by go_num, HO, hb, fun _ => ?_⟩
            have h := HD2.out ()
            rw [HU.out ()] at h
            simpa [hge] using h
          case measure => go_light; simp [intOf]; omega
      · go_wp2_with fail
        go_roundw
        case rel =>
          go_light
          refine ⟨8, neg1, sig, wn, en1, e, true, k + 1, g, cap, by decide, hlt, by omega, by omega, he, fun h => (by cases h), rfl, rfl, rfl, rfl, rfl, rfl, rfl, by go_num, HO, hb, fun _ => ?_⟩
          simpa using HD2.out ()
        case measure => go_light; simp [intOf]; omega
end Go.Proofs.Qxb6603906aDoor
