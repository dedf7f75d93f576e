import Derived.Test.Qxb6603774aDoorWalkA
import Derived.Test.Qxb6603774aDoorLiftJoins
import Derived.Shelf.Vars
import Derived.Deep.QuietTactic
import Derived.BigQuiet
namespace Go.Proofs.Qxb6603774aDoor.joins
open Go.RowKit Pl

set_option maxRecDepth 100000 in
set_option maxHeartbeats 4000000 in
theorem walk_core (a0 : ByteArray) (m : Int) (w : World) (hs : a0.size ≤ 1048576) (h0 : 0 < a0.size) (hm : w.cell? ⟨0, 0, none⟩ = some (.int .i64 m)) :
    Calls Tryd.prog 3 #[.string a0] w fun e w' => e = .returned (.bool true) ∧ Below w.heap.size w w' := by
  have hne := ne_of_pos a0 h0
  have hsp := nsplit_any a0 m w (by omega) h0 hm
  have hjs := join_splitL 44 a0.data.toList
  have hpn := piece_no 44 a0.data.toList
  have hle := splitL_pieces_le 44 a0.data.toList
  have hnn := splitL_ne 44 a0.data.toList
  generalize splitL 44 a0.data.toList = ls at hsp hjs hpn hle hnn
  rw [← Lib.size_eq] at hle
  have hn1 : 1 ≤ ls.length := by
    cases ls with
    | nil => exact absurd rfl hnn
    | cons _ _ => simp
  have HJS : Hid (Unit → _) := fun _ => hjs
  have HPN : Hid (Unit → _) := fun _ => hpn
  clear hjs hpn hnn hm
  have hls0 : ((ls.length : Int) == 0) = false := by rw [beq_eq_false_iff_ne]; omega
  go_enter Tryd.func3, Tryd.ntmps3
  go_wp2_with fail
  refine (bytes1_any _ _ (by omega)).mono ?_
  rintro e w' ⟨⟨y, rfl⟩, rfl⟩
  cases y
  · go_wp2_with fail
    go_ret
    exact ⟨rfl, Below.refl _ _⟩
  go_wp2_with fail
  refine hsp.mono ?_
  clear hsp
  rintro e w1 ⟨rfl, hb1, hz1, hcells⟩
  have HC : Hid (Unit → _) := fun _ => hcells
  clear hcells
  go_wp2_with fail
  go_loopw [4, 5] (fun pv iv wr => ∃ k p nq : Nat, k ≤ ls.length ∧ p ≤ a0.size ∧ iv = .int .i64 k ∧ pv = .int .i64 p ∧ wr = w1.drewN nq ∧ Hid (Unit → a0.data.toList.drop p = leftL ls k)) (fun _ iv _ => ls.length - (intOf iv).toNat)
  case atStart => exact ⟨0, 0, 0, Nat.zero_le _, Nat.zero_le _, rfl, rfl, rfl, fun _ => by rw [leftL, if_pos rfl, HJS.out ()]; rfl⟩
  case round =>
    obtain ⟨k, p, nq, hk, hp, rfl, rfl, rfl, HL⟩ := hrel
    by_cases hlt : k < ls.length
    · obtain ⟨y, hy⟩ : ∃ y, ls[k]? = some y := ⟨ls[k], List.getElem?_eq_getElem hlt⟩
      have hc := HC.out () k y hy
      have hpy := HPN.out () y (List.mem_of_getElem? hy)
      have HY : Hid (Unit → _) := fun _ => hy
      clear hy
      obtain ⟨Y, hY⟩ : ∃ Y, Y = B y := ⟨_, rfl⟩
      rw [← hY] at hc
      have HYD : Hid (Unit → Y.data.toList = y) := fun _ => by rw [hY, B_data]
      have HYL : Hid (Unit → Y.size = y.length) := fun _ => by rw [hY, B_size]
      clear hY
      by_cases hk0 : k = 0
      · subst hk0
        have hd : a0.data.toList.drop p = y ++ Lib.joinTail [44] (ls.drop (0 + 1)) := by
          rw [HL.out ()]; exact left_first ls y (HY.out ())
        have hdl := drop_len _ p y _ (by rw [← Lib.size_eq]; exact hp) hd
        rw [← Lib.size_eq, ← HYL.out ()] at hdl
        have HD : Hid (Unit → _) := fun _ => hd
        clear hd HL
        go_wp2_with fail
        go_loopw [7] (fun jv wr => ∃ j n2 : Nat, j ≤ Y.size ∧ jv = .int .i64 j ∧ wr = w1.drewN n2) (fun jv _ => Y.size - (intOf jv).toNat)
        case atStart => exact ⟨0, nq, Nat.zero_le _, rfl, rfl⟩
        case round =>
          obtain ⟨j, n2, hj, rfl, rfl⟩ := hrel
          by_cases hltj : j < Y.size
          · have hjy : j < y.length := by rw [← HYL.out ()]; exact hltj
            have hpj : p + j < a0.size := by omega
            have e1 : Y[j] = a0[p + j] := by
              have h1 := drop_get _ (p) j y _ (HD.out ()) hjy
              have h2 := get_byte Y j hltj
              rw [HYD.out ()] at h2
              rw [get_byte a0 (p + j) hpj, h2] at h1
              exact (Option.some.inj h1).symm
            have e2 : ((Y[j].toNat : Int) == 44) = false := by
              rw [beq_eq_false_iff_ne]
              intro e
              apply hpy
              have h2 := get_byte Y j hltj
              rw [HYD.out ()] at h2
              have e3 : Y[j] = 44 := by apply UInt8.toNat_inj.1; show Y[j].toNat = 44; omega
              exact List.mem_of_getElem? (h2.trans (congrArg some e3))
            have e4 : ((Y[j].toNat : Int) != (a0[p + j].toNat : Int)) = false := by rw [e1]; simp
            have e5 : (((Y[j].toNat : Int)) == ((a0[p + j].toNat : Int))) = true := by rw [e1]; simp
            have hpji : (p : Int) + (j : Int) < (a0.size : Int) := by omega
            have hpj0 : 0 ≤ (p : Int) + (j : Int) := by omega
            clear e1
            go_wp2_with fail
            go_quiet (fail)
            go_wp2_with fail
            go_roundw
            case rel => exact ⟨j + 1, _, by omega, by go_num, rfl⟩
            case measure => simp [intOf]; omega
          · have HL2 : Hid (Unit → a0.data.toList.drop (p + Y.size) = leftL ls (0 + 1)) := fun _ => by
              rw [left_succ, HYL.out ()]; exact drop_more _ _ _ _ (HD.out ())
            clear HD
            go_wp2_with fail
            go_roundw
            case rel => exact ⟨0 + 1, p + Y.size, n2, by omega, by omega, by go_num, by go_num, rfl, HL2⟩
            case measure => simp [intOf]; omega

      · have hd : a0.data.toList.drop p = 44 :: (y ++ Lib.joinTail [44] (ls.drop (k + 1))) := by
          rw [HL.out ()]; exact left_next ls k y hk0 (HY.out ())
        have hk0i : (0 : Int) < (k : Int) := by omega
        have hplt : p < a0.size := by
          have := congrArg List.length hd
          rw [List.length_drop, ← Lib.size_eq, List.length_cons] at this
          omega
        have h44 : a0[p] = 44 := by
          have h1 := get_byte a0 p hplt
          have h2 := congrArg (·[0]?) hd
          simp only [List.getElem?_drop, Nat.add_zero, List.getElem?_cons_zero] at h2
          rw [h1] at h2
          exact Option.some.inj h2
        have h44n : ((a0[p].toNat : Int) != 44) = false := by rw [h44]; rfl
        have h44e : ((a0[p].toNat : Int) == 44) = true := by rw [h44]; rfl
        have hd2 : a0.data.toList.drop (p + 1) = y ++ Lib.joinTail [44] (ls.drop (k + 1)) := by
          rw [← List.drop_drop, hd]; rfl
        have hdl := drop_len _ (p + 1) y _ (by rw [← Lib.size_eq]; omega) hd2
        rw [← Lib.size_eq, ← HYL.out ()] at hdl
        have HD : Hid (Unit → _) := fun _ => hd2
        have hpd : decide ((a0.size : Int) ≤ (p : Int)) = false := by simp; omega
        clear hd hd2 HL h44
        go_wp2_with fail
        go_loopw [7] (fun jv wr => ∃ j n2 : Nat, j ≤ Y.size ∧ jv = .int .i64 j ∧ wr = w1.drewN n2) (fun jv _ => Y.size - (intOf jv).toNat)
        case atStart => exact ⟨0, nq, Nat.zero_le _, rfl, rfl⟩
        case round =>
          obtain ⟨j, n2, hj, rfl, rfl⟩ := hrel
          by_cases hltj : j < Y.size
          · have hjy : j < y.length := by rw [← HYL.out ()]; exact hltj
            have hpj : p + 1 + j < a0.size := by omega
            have e1 : Y[j] = a0[p + 1 + j] := by
              have h1 := drop_get _ (p + 1) j y _ (HD.out ()) hjy
              have h2 := get_byte Y j hltj
              rw [HYD.out ()] at h2
              rw [get_byte a0 (p + 1 + j) hpj, h2] at h1
              exact (Option.some.inj h1).symm
            have e2 : ((Y[j].toNat : Int) == 44) = false := by
              rw [beq_eq_false_iff_ne]
              intro e
              apply hpy
              have h2 := get_byte Y j hltj
              rw [HYD.out ()] at h2
              have e3 : Y[j] = 44 := by apply UInt8.toNat_inj.1; show Y[j].toNat = 44; omega
              exact List.mem_of_getElem? (h2.trans (congrArg some e3))
            have e4 : ((Y[j].toNat : Int) != (a0[p + 1 + j].toNat : Int)) = false := by rw [e1]; simp
            have e5 : (((Y[j].toNat : Int)) == ((a0[p + 1 + j].toNat : Int))) = true := by rw [e1]; simp
            have hpji : (p : Int) + 1 + (j : Int) < (a0.size : Int) := by omega
            have hpj0 : 0 ≤ (p : Int) + 1 + (j : Int) := by omega
            clear e1
            go_wp2_with fail
            go_quiet (fail)
            go_wp2_with fail
            go_roundw
            case rel => exact ⟨j + 1, _, by omega, by go_num, rfl⟩
            case measure => simp [intOf]; omega
          · have HL2 : Hid (Unit → a0.data.toList.drop (p + 1 + Y.size) = leftL ls (k + 1)) := fun _ => by
              rw [left_succ, HYL.out ()]; exact drop_more _ _ _ _ (HD.out ())
            clear HD
            go_wp2_with fail
            go_roundw
            case rel => exact ⟨k + 1, p + 1 + Y.size, n2, by omega, by omega, by go_num, by go_num, rfl, HL2⟩
            case measure => simp [intOf]; omega

    · have hk0 : k ≠ 0 := by omega
      have hpe : p = a0.size := by
        have := congrArg List.length (HL.out ())
        rw [left_end ls k hk0 (by omega)] at this
        rw [List.length_drop, ← Lib.size_eq] at this
        simp at this; omega
      have hpi : ((p : Int) == (a0.size : Int)) = true := by rw [hpe]; simp
      clear hpe HL hk0
      go_wp2_with fail
      go_ret
      refine ⟨rfl, below_drewN hb1 _⟩

set_option maxHeartbeats 1000000 in
theorem walk : Walked := by
  intro a0 w hsh l0
  unfold maxLen at l0
  obtain ⟨m, hm⟩ : ∃ m, w.cell? ⟨0, 0, none⟩ = some (.int .i64 m) := cell_of_shapedOpen_int (P := Tryd.prog) (g := 0) (t := 3) (zero := #[.int .i64 0]) hsh (of_decide_eq_true (by kernel_rfl)) (by kernel_rfl) rfl (by kernel_rfl) (by kernel_rfl) Tryd.underlying3
  clear hsh
  by_cases hs : a0.size ≤ 1048576
  · by_cases h0 : 0 < a0.size
    · exact walk_core a0 m w hs h0 hm
    · have hz : a0.size = 0 := by omega
      have he : a0.toList.isEmpty = true := by
        rw [Lib.toList_data]
        rw [Lib.size_eq] at hz
        rw [List.eq_nil_of_length_eq_zero hz]; rfl
      have hsp := nsplit_nil a0 w hz
      have hnl := @Lib.run_eql_slice_nil Tryd.prog
      clear hm hz h0
      go_enter Tryd.func3, Tryd.ntmps3
      go_wp2_with fail
      refine (bytes1_any _ _ (by omega)).mono ?_
      rintro e w' ⟨⟨y, rfl⟩, rfl⟩
      cases y
      · go_wp2_with fail
        go_ret
        exact ⟨rfl, Below.refl _ _⟩
      go_wp2_with fail
      refine hsp.mono ?_
      clear hsp
      rintro e w1 ⟨rfl, rfl⟩
      go_wp2_with fail
      go_ret
      exact ⟨rfl, Below.refl _ _⟩
  · go_enter Tryd.func3, Tryd.ntmps3
    go_wp2_with fail
    refine (bytes1_any _ _ l0).mono ?_
    rintro e w' ⟨⟨y, rfl⟩, rfl⟩
    cases y
    all_goals
      go_wp2_with fail
      go_ret
      exact ⟨rfl, Below.refl _ _⟩
end Go.Proofs.Qxb6603774aDoor.joins
namespace Go.Proofs.Qxb6603774aDoor
/-- THE STATEMENT. -/
theorem joinsProved : Rows.FnSplitJoinsBackToListCardSaid := joins.card_holds joins.walk
end Go.Proofs.Qxb6603774aDoor
