import Derived.Test.Qxb6603906aDoorParse
import Derived.Test.Qxb6603906aDoorTextW
import Derived.Test.Qxb6603906aDoorLiftTrip
namespace Go.Proofs.Qxb6603906aDoor.trip
open Go.RowKit Pl

theorem conv_own {Bk : Nat} {v : Value} {l : List UInt8} {w : World} (h : OwnB Bk v l w) : (convert 33 9 v).run Tryd.prog w = .ok (.string (B l)) w := by
  obtain ⟨h1, h2⟩ := h
  rcases h2 with ⟨rfl, h0⟩ | ⟨g, cap, cur, rfl, h3, h4, h5, h6, h7, h8⟩
  · obtain rfl : l = [] := List.eq_nil_of_length_eq_zero h0
    exact run_convert_bytes_nil w 33 5 Tryd.underlying33 Tryd.underlying5 0 0 9 Tryd.underlying9
  · refine run_convert_bytes_back w 33 9 5 ⟨g, 0, none⟩ cap l Tryd.underlying33 Tryd.underlying5 Tryd.underlying9 (fun j hj => ?_)
    have h := World.ownsRow.cells (w := w) (base := Bk) (e := 5) (size := 1) (v := .slice (some ⟨g, 0, none⟩) l.length cap) (n := l.length) (xs := Lib.byteCells l) ⟨h1, .inr ⟨g, cap, cur, rfl, h3, h4, h5, h6, h7, h8⟩⟩ (g := g) rfl j (.int .u8 l[j].toNat) (by simp [Lib.byteCells, hj])
    exact h

set_option maxHeartbeats 400000 in
theorem bytes_c (n : Bool) (a : ByteArray) (x : Int) (w : World) (ha : a.size ≤ 9223372036854775807) :
    Calls Tryd.prog 9 #[.bool n, .string a, .int .i64 x] w fun r w' => (∃ y, r = .returned (.bool y)) ∧ w' = w := by
  go_enter Tryd.func9, Tryd.ntmps9
  go_wp2
  all_goals
    go_ret
    exact ⟨⟨_, rfl⟩, rfl⟩

/-- What stands behind the guards: the Decimal is written and read back. -/
def Good (n : Bool) (D : ByteArray) (x : Int) : Prop := parseL (textL n D.data.toList x) = (n, D.data.toList, x, true) ∧ -10000 ≤ x ∧ x ≤ 10000

theorem text_w (n : Bool) (D : ByteArray) (x : Int) (W : World) (hD : D.size ≤ 1048576) (h : Good n D x) :
    Calls Tryd.prog 12 #[.agg #[.bool n, .string D, .int .i64 x], .slice none 0 0] W fun e w' => ∃ v, e = .returned v ∧ (convert 33 9 v).run Tryd.prog w' = .ok (.string (B (textL n D.data.toList x))) w' ∧ Below W.heap.size W w' :=
  (text_c n D x W hD h.2.2 h.2.1).mono fun _ _ ⟨⟨v, hv, ho⟩, hb⟩ => ⟨v, hv, conv_own ho, hb⟩
theorem parse_w (n : Bool) (D : ByteArray) (x : Int) (W : World) (hD : D.size ≤ 1048576) (h : Good n D x) :
    Calls Tryd.prog 6 #[.string (B (textL n D.data.toList x))] W fun e w' => e = .returned (.tuple #[.agg #[.bool n, .string D, .int .i64 x], .bool true]) ∧ Below W.heap.size W w' := by
  have hl := text_len n D.data.toList x h.2.2 h.2.1
  have hp := parse_c (B (textL n D.data.toList x)) W (by rw [B_size]; rw [← Lib.size_eq] at hl; omega)
  rw [B_data, h.1] at hp
  exact hp

set_option maxRecDepth 100000 in
set_option maxHeartbeats 4000000 in
theorem walk : Walked := by
  intro n D x w _ l0 _
  unfold maxLen at l0
  by_cases hs : D.size ≤ 1048576
  rotate_left
  · go_enter Tryd.func4, Tryd.ntmps4
    go_wp2_with fail
    refine (bytes_c _ _ _ _ l0).mono ?_
    rintro e w' ⟨⟨y, rfl⟩, rfl⟩
    cases y
    all_goals
      go_wp2_with fail
      go_ret
      exact ⟨rfl, Below.refl _ _⟩
  go_enter Tryd.func4, Tryd.ntmps4
  go_wp2_with fail
  refine (bytes_c _ _ _ _ l0).mono ?_
  rintro e w' ⟨⟨y, rfl⟩, rfl⟩
  cases y
  · go_wp2_with fail
    go_ret
    exact ⟨rfl, Below.refl _ _⟩
  go_upto_if 20 with fail
  go_cut [] (fun wx => Hid (Unit → Good n D x) ∧ wx = w')
  case first =>
    by_cases h0 : 0 < D.size
    · have hDe := ne_of_pos D h0
      rw [hDe]
      have hcn := fun W => canon_c D W (by omega)
      go_wp2_with fail
      refine (hcn _).mono ?_
      clear hcn
      rintro e w1 ⟨⟨b, rfl, hc⟩, rfl⟩
      cases b
      · go_wp2_with fail
        go_ret
        exact ⟨rfl, Below.refl _ _⟩
      have HC : Hid (Unit → Canon D.data.toList) := fun _ => hc rfl
      clear hc
      by_cases hx1 : 10000 < x
      · have hx1i : decide ((10000 : Int) < x) = true := by simp; omega
        go_wp2_with fail
        go_ret
        exact ⟨rfl, Below.refl _ _⟩
      have hx1i : decide ((10000 : Int) < x) = false := by simp; omega
      by_cases hx2 : x < -10000
      · have hx2i : decide (x < (-10000 : Int)) = true := by simp; omega
        go_wp2_with fail
        go_ret
        exact ⟨rfl, Below.refl _ _⟩
      have hx2i : decide (x < (-10000 : Int)) = false := by simp; omega
      have HG : Hid (Unit → Good n D x) := fun _ => ⟨text_law n D.data.toList (HC.out ()) x (by omega) (by omega), by omega, by omega⟩
      clear HC
      go_wp2_with fail
      go_meet
      exact ⟨HG, rfl⟩
    · have hnil : D.data.toList = [] := List.eq_nil_of_length_eq_zero (by rw [← Lib.size_eq]; omega)
      have hDe : D.toList.isEmpty = true := by rw [Lib.toList_data, hnil]; rfl
      rw [hDe]
      cases n
      · by_cases hx : x = 0
        · subst hx
          have HG : Hid (Unit → Good false D 0) := fun _ => ⟨by rw [hnil]; exact text_zero, by decide, by decide⟩
          clear hnil
          go_wp2_with fail
          go_meet
          exact ⟨HG, rfl⟩
        · have hxi : (x == 0) = false := beq_eq_false_iff_ne.2 hx
          have hxn : (x != 0) = true := by rw [bne, hxi]; rfl
          go_wp2_with fail
          go_ret
          exact ⟨rfl, Below.refl _ _⟩
      · go_wp2_with fail
        go_ret
        exact ⟨rfl, Below.refl _ _⟩
  case rest =>
  obtain ⟨HG, rfl⟩ := hcut
  have hT := fun W => text_w n D x W hs (HG.out ())
  have hP := fun W => parse_w n D x W hs (HG.out ())
  generalize B (textL n D.data.toList x) = Tx at hT hP
  clear HG
  go_wp2_with (go_at_call 11; refine (make_c _ _ _ _).mono ?_; rintro e w1 ⟨rfl, hb1⟩; have hz1 := hb1.size)
  refine (hT _).mono ?_
  clear hT
  rintro e w2 ⟨v, rfl, hcv, hb2⟩
  have hz2 := hb2.size
  rw [World.size_alloc] at hz2
  have d0 : w2.cell? ⟨w1.heap.size, 0, none⟩ = some (.bool n) := (hb2.cell (p := ⟨w1.heap.size, 0, none⟩) (by rw [World.size_alloc]; exact Nat.lt_succ_self _)).trans (by go_cell)
  have d1 : w2.cell? ⟨w1.heap.size, 1, none⟩ = some (.string D) := (hb2.cell (p := ⟨w1.heap.size, 1, none⟩) (by rw [World.size_alloc]; exact Nat.lt_succ_self _)).trans (by go_cell)
  have d2 : w2.cell? ⟨w1.heap.size, 2, none⟩ = some (.int .i64 x) := (hb2.cell (p := ⟨w1.heap.size, 2, none⟩) (by rw [World.size_alloc]; exact Nat.lt_succ_self _)).trans (by go_cell)
  have hb12 : Below wc.heap.size wc w2 := (hb1.alloc hz1 _).trans (hb2.mono (by rw [World.size_alloc]; exact Nat.le_succ_of_le hz1))
  have hlt2 : w1.heap.size < w2.heap.size := hz2
  clear hb2
  go_wp2_with fail
  refine (hP _).mono ?_
  clear hP
  rintro e w3 ⟨rfl, hb3⟩
  have hz3 := hb3.size
  have e0 := (hb3.cell (p := ⟨w1.heap.size, 0, none⟩) hlt2).trans d0
  have e1 := (hb3.cell (p := ⟨w1.heap.size, 1, none⟩) hlt2).trans d1
  have e2 := (hb3.cell (p := ⟨w1.heap.size, 2, none⟩) hlt2).trans d2
  have hlt3 : w1.heap.size < w3.heap.size := Nat.lt_of_lt_of_le hlt2 hz3
  have hb13 : Below wc.heap.size wc w3 := hb12.trans (hb3.mono hb12.size)
  clear d0 d1 d2 hb12 hb3
  go_wp2_with fail
  go_ret
  exact ⟨rfl, hb13.alloc hb13.size _⟩
end Go.Proofs.Qxb6603906aDoor.trip
namespace Go.Proofs.Qxb6603906aDoor
/-- THE STATEMENT. -/
theorem tripProved : Rows.FnAppendTextParseRoundTripCardSaid := trip.card_holds trip.walk
end Go.Proofs.Qxb6603906aDoor
