import Derived.Test.Qxb6603774aDoorWalkA
import Derived.Test.Qxb6603774aDoorLiftDistr
import Derived.Shelf.Vars
import Derived.Deep.QuietTactic
import Derived.BigQuiet
namespace Go.Proofs.Qxb6603774aDoor.distr
open Go.RowKit Pl

set_option maxHeartbeats 400000 in
/-- zzPieces. -/
theorem pieces_any (s : ByteArray) (m : Int) (w : World) (hs : s.size ≤ 4000000) (hm : w.cell? ⟨0, 0, none⟩ = some (.int .i64 m)) :
    Calls Tryd.prog 9 #[.string s] w fun e w' => e = .returned (.slice (some ⟨w.heap.size, 0, none⟩) (splitL 44 s.data.toList).length (splitL 44 s.data.toList).length) ∧ Below w.heap.size w w' ∧ w'.heap.size = w.heap.size + 1 ∧
      ∀ (j : Nat) y, (splitL 44 s.data.toList)[j]? = some y → w'.cell? ⟨w.heap.size, j, none⟩ = some (.string (B y)) := by
  by_cases h0 : 0 < s.size
  · have hne := ne_of_pos s h0
    have h := nsplit_any s m w hs h0 hm
    have H : Hid (Unit → _) := fun _ => h
    clear h
    go_enter Tryd.func9, Tryd.ntmps9
    go_wp2_with fail
    refine (H.out ()).mono ?_
    clear H
    rintro e w1 ⟨rfl, h1, h2, h3⟩
    have H3 : Hid (Unit → _) := fun _ => h3
    clear h3
    go_wp2_with fail
    go_ret
    exact ⟨rfl, h1, h2, H3.out ()⟩
  · have hz : s.data.toList = [] := List.eq_nil_of_length_eq_zero (by rw [← Lib.size_eq]; omega)
    have he : s.toList.isEmpty = true := by rw [Lib.toList_data, hz]; rfl
    rw [hz]
    clear hz
    have hsp : splitL 44 [] = [[]] := rfl
    rw [hsp]
    clear hsp
    go_enter Tryd.func9, Tryd.ntmps9
    go_wp2_with fail
    go_ret
    refine ⟨rfl, by go_grown, by simp, fun j y h => ?_⟩
    cases j with
    | zero =>
      obtain rfl : [] = y := by simpa using h
      rw [World.cell?_alloc_at (hn := rfl)]; rfl
    | succ j => simp at h

set_option maxHeartbeats 400000 in
theorem bytes2_any (a b : ByteArray) (w : World) (ha : a.size ≤ 9223372036854775807) (hb : b.size ≤ 9223372036854775807) :
    Calls Tryd.prog 8 #[.string a, .string b] w fun r w' => (∃ y, r = .returned (.bool y)) ∧ w' = w := by
  go_enter Tryd.func8, Tryd.ntmps8
  go_wp2
  all_goals
    go_ret
    exact ⟨⟨_, rfl⟩, rfl⟩

set_option maxRecDepth 100000 in
set_option maxHeartbeats 4000000 in
theorem walk_core (a b : ByteArray) (m : Int) (w : World) (hs : a.size + b.size ≤ 1048576) (hm : w.cell? ⟨0, 0, none⟩ = some (.int .i64 m)) :
    Calls Tryd.prog 4 #[.string a, .string b] w fun e w' => e = .returned (.bool true) ∧ Below w.heap.size w w' := by
  have hlt : 0 < w.heap.size := World.block_lt_of_cell? _ _ hm
  have h44 : (⟨#[44]⟩ : ByteArray).size = 1 := rfl
  have hsz : (a ++ ⟨#[44]⟩ ++ b : ByteArray).size = a.size + 1 + b.size := by rw [app_size, app_size, h44]
  have h1 := nsplit_any (a ++ ⟨#[44]⟩ ++ b) m w (by omega) (by omega) hm
  have h2 := fun W hm => pieces_any a m W (by omega) hm
  have h3 := fun W hm => pieces_any b m W (by omega) hm
  have hap : splitL 44 (a ++ ⟨#[44]⟩ ++ b : ByteArray).data.toList = splitL 44 a.data.toList ++ splitL 44 b.data.toList := by
    rw [app_data, app_data, List.append_assoc]; exact splitL_append 44 _ _
  rw [hap] at h1
  have n1 := splitL_pieces_le 44 a.data.toList
  have n2 := splitL_pieces_le 44 b.data.toList
  rw [← Lib.size_eq] at n1 n2
  generalize splitL 44 a.data.toList = la at h1 h2 n1
  generalize splitL 44 b.data.toList = lb at h1 h3 n2
  rw [List.length_append] at h1
  obtain ⟨nW, hnW⟩ : ∃ nW, nW = la.length + lb.length := ⟨_, rfl⟩
  rw [← hnW] at h1
  have HN : Hid (Unit → nW = la.length + lb.length) := fun _ => hnW
  have hnW' : nW ≤ 1048578 := by omega
  have hne : ((nW : Int) != ((la.length : Int) + (lb.length : Int))) = false := by rw [bne_eq_false_iff_eq]; omega
  clear hnW
  have H1 : Hid (Unit → _) := fun _ => h1
  have H2 : Hid (Unit → _) := fun _ => h2
  have H3 : Hid (Unit → _) := fun _ => h3
  clear h1 h2 h3 hap hsz h44
  have d1 : decide ((1048576 : Int) < (a.size : Int)) = false := by simp; omega
  have d2 : decide ((1048576 : Int) < (b.size : Int)) = false := by simp; omega
  go_enter Tryd.func4, Tryd.ntmps4
  go_wp2_with fail
  refine (bytes2_any _ _ _ (by omega) (by omega)).mono ?_
  rintro e w' ⟨⟨y, rfl⟩, rfl⟩
  cases y
  · go_wp2_with fail
    go_ret
    exact ⟨rfl, Below.refl _ _⟩
  go_wp2_with fail
  refine (H1.out ()).mono ?_
  clear H1
  rintro e w1 ⟨rfl, hb1, hz1, hc1⟩
  have HC1 : Hid (Unit → _) := fun _ => hc1
  clear hc1
  go_wp2_with fail
  refine (H2.out () _ (cell_later hb1 hm)).mono ?_
  clear H2
  rintro e w2 ⟨rfl, hb2, hz2, hc2⟩
  have HC2 : Hid (Unit → _) := fun _ => hc2
  clear hc2
  have hb02 : Below w'.heap.size w' w2 := hb1.trans (hb2.mono (by omega))
  go_wp2_with fail
  refine (H3.out () _ (cell_later hb02 hm)).mono ?_
  clear H3
  rintro e w3 ⟨rfl, hb3, hz3, hc3⟩
  have HC3 : Hid (Unit → _) := fun _ => hc3
  clear hc3
  have hb03 : Below w'.heap.size w' w3 := hb02.trans (hb3.mono (by omega))
  have q1 : ∀ j y, (la ++ lb)[j]? = some y → w3.cell? ⟨w'.heap.size, j, none⟩ = some (.string (B y)) := fun j y h => by
    rw [(bcell hb3).1 _ _ (by omega), (bcell hb2).1 _ _ (by omega)]; exact HC1.out () j y h
  have q2 : ∀ j y, la[j]? = some y → w3.cell? ⟨w'.heap.size + 1, j, none⟩ = some (.string (B y)) := fun j y h => by
    rw [← hz1, (bcell hb3).1 _ _ (by omega)]; exact HC2.out () j y h
  have q3 : ∀ j y, lb[j]? = some y → w3.cell? ⟨w'.heap.size + 1 + 1, j, none⟩ = some (.string (B y)) := fun j y h => by
    rw [← hz1, ← hz2]; exact HC3.out () j y h
  have Q1 : Hid (Unit → _) := fun _ => q1
  have Q2 : Hid (Unit → _) := fun _ => q2
  have Q3 : Hid (Unit → _) := fun _ => q3
  clear q1 q2 q3 HC1 HC2 HC3 hb1 hb2 hb3 hb02 hm
  go_wp2_with fail
  go_loopw [8] (fun iv wr => ∃ k nq : Nat, k ≤ la.length ∧ iv = .int .i64 k ∧ wr = w3.drewN nq) (fun iv _ => la.length - (intOf iv).toNat)
  case atStart => exact ⟨0, 0, Nat.zero_le _, rfl, rfl⟩
  case round =>
    obtain ⟨k, nq, hk, rfl, rfl⟩ := hrel
    by_cases hltk : k < la.length
    · obtain ⟨y, hy⟩ : ∃ y, la[k]? = some y := ⟨la[k], List.getElem?_eq_getElem hltk⟩
      have c1 := Q1.out () k y (by rw [List.getElem?_append_left hltk]; exact hy)
      have c2 := Q2.out () k y hy
      have i1 : (k : Int) < (la.length : Int) := by omega
      have i2 : (k : Int) < (nW : Int) := by have := HN.out (); omega
      clear hy
      go_wp2_with fail
      go_quiet (fail)
      go_wp2_with fail
      go_roundw
      case rel => exact ⟨k + 1, _, by omega, by go_num, rfl⟩
      case measure => simp [intOf]; omega
    · go_wp2_with fail
      go_loopw [9] (fun iv wr => ∃ k2 n2 : Nat, k2 ≤ lb.length ∧ iv = .int .i64 k2 ∧ wr = w3.drewN n2) (fun iv _ => lb.length - (intOf iv).toNat)
      case atStart => exact ⟨0, nq, Nat.zero_le _, rfl, rfl⟩
      case round =>
        obtain ⟨k2, n2', hk2, rfl, rfl⟩ := hrel
        by_cases hlt2 : k2 < lb.length
        · obtain ⟨y, hy⟩ : ∃ y, lb[k2]? = some y := ⟨lb[k2], List.getElem?_eq_getElem hlt2⟩
          have c1 := Q1.out () (la.length + k2) y (by rw [List.getElem?_append_right (by omega), Nat.add_sub_cancel_left]; exact hy)
          have c2 := Q3.out () k2 y hy
          have i1 : (k2 : Int) < (lb.length : Int) := by omega
          have i2 : (la.length : Int) + (k2 : Int) < (nW : Int) := by have := HN.out (); omega
          have i3 : 0 ≤ (la.length : Int) + (k2 : Int) := by omega
          clear hy
          go_wp2_with fail
          go_quiet (fail)
          go_wp2_with fail
          go_roundw
          case rel => exact ⟨k2 + 1, _, by omega, by go_num, rfl⟩
          case measure => simp [intOf]; omega
        · go_wp2_with fail
          go_ret
          exact ⟨rfl, below_drewN hb03 _⟩

set_option maxHeartbeats 4000000 in
/-- Past the law's own guard. -/
theorem walk_long (a b : ByteArray) (w : World) (ha : a.size ≤ 9223372036854775807) (hb : b.size ≤ 9223372036854775807) (hs : ¬ a.size + b.size ≤ 1048576) :
    Calls Tryd.prog 4 #[.string a, .string b] w fun e w' => e = .returned (.bool true) ∧ Below w.heap.size w w' := by
  go_enter Tryd.func4, Tryd.ntmps4
  go_wp2_with fail
  refine (bytes2_any _ _ _ ha hb).mono ?_
  rintro e w' ⟨⟨y, rfl⟩, rfl⟩
  cases y
  · go_wp2_with fail
    go_ret
    exact ⟨rfl, Below.refl _ _⟩
  by_cases h1 : 1048576 < a.size
  · have d1 : decide ((1048576 : Int) < (a.size : Int)) = true := by simp; omega
    go_wp2_with fail
    go_ret
    exact ⟨rfl, Below.refl _ _⟩
  have d1 : decide ((1048576 : Int) < (a.size : Int)) = false := by simp; omega
  by_cases h2 : 1048576 < b.size
  · have d2 : decide ((1048576 : Int) < (b.size : Int)) = true := by simp; omega
    go_wp2_with fail
    go_ret
    exact ⟨rfl, Below.refl _ _⟩
  have d2 : decide ((1048576 : Int) < (b.size : Int)) = false := by simp; omega
  have d3 : decide ((1048576 : Int) < (a.size : Int) + (b.size : Int)) = true := by simp; omega
  go_wp2_with fail
  go_ret
  exact ⟨rfl, Below.refl _ _⟩

set_option maxRecDepth 100000 in
theorem walk : Walked := by
  intro a b w hsh l0 l1
  unfold maxLen at l0 l1
  obtain ⟨m, hm⟩ : ∃ m, w.cell? ⟨0, 0, none⟩ = some (.int .i64 m) := cell_of_shapedOpen_int (P := Tryd.prog) (g := 0) (t := 3) (zero := #[.int .i64 0]) hsh (of_decide_eq_true (by kernel_rfl)) (by kernel_rfl) rfl (by kernel_rfl) (by kernel_rfl) Tryd.underlying3
  by_cases hs : a.size + b.size ≤ 1048576
  · exact walk_core a b m w hs hm
  · exact walk_long a b w (by omega) (by omega) hs
end Go.Proofs.Qxb6603774aDoor.distr
namespace Go.Proofs.Qxb6603774aDoor
/-- THE STATEMENT. -/
theorem distrProved : Rows.FnSplitDistributesOverCommaCardSaid := distr.card_holds distr.walk
end Go.Proofs.Qxb6603774aDoor
