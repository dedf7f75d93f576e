import Derived.Test.Qxb6603774aDoorPlain
import Derived.Test.Qxb6603774aDoorChecked
import Derived.Test.Qxb6603774aDoorShelf
import Derived.WalkKit
import Derived.Handy
import Derived.WalkSpells
import Derived.WalkLawsBesides
import Derived.Shelf.Strings.PiecesUse
namespace Go.Proofs.Qxb6603774aDoor
open Go.RowKit Pl

theorem split_c (s : ByteArray) (c : UInt8) (m : Int) (w : World) (hs : s.size < 4294967281) (hm : w.cell? ⟨0, 0, none⟩ = some (.int .i64 m)) :
    Calls Tryd.prog 14 #[.string s, .string ⟨#[c]⟩] w fun e w' =>
      e = .returned (.slice (some ⟨w.heap.size, 0, none⟩) (splitL c s.data.toList).length (splitL c s.data.toList).length) ∧
      w' = w.alloc (.cells (((splitL c s.data.toList).map B).map Value.string).toArray 9) := by
  have h := Any.strings_Split Tryd.lays146 (by kernel_rfl) s ⟨#[c]⟩ m w hs hm (Nat.le_refl 1)
  have e1 : Lib.splitB ⟨#[c]⟩ 0 (Lib.countB s ⟨#[c]⟩) s = (splitL c s.data.toList).map B := splitB_one c s
  have e2 : Lib.countB s ⟨#[c]⟩ + 1 = (splitL c s.data.toList).length := by rw [splitL_length]; exact congrArg (· + 1) (countB_one c s)
  rw [e1, e2] at h
  exact h

theorem bcell {n : Nat} {W w1 : World} (hb : Below n W w1) : (∀ b o, b < n → w1.cell? ⟨b, o, none⟩ = W.cell? ⟨b, o, none⟩) ∧ (∀ b o, b < n → w1.frozen? ⟨b, o, none⟩ = W.frozen? ⟨b, o, none⟩) :=
  ⟨fun b o h => hb.cell (p := ⟨b, o, none⟩) h, fun b o h => hb.frozen (p := ⟨b, o, none⟩) h⟩

set_option maxHeartbeats 400000 in
/-- nodelist.Split at a list that is not empty. -/
theorem nsplit_any (s : ByteArray) (m : Int) (w : World) (hs : s.size ≤ 4000000) (h0 : 0 < s.size) (hm : w.cell? ⟨0, 0, none⟩ = some (.int .i64 m)) :
    Calls Tryd.prog 7 #[.string s] w fun e w' => e = .returned (.slice (some ⟨w.heap.size, 0, none⟩) (splitL 44 s.data.toList).length (splitL 44 s.data.toList).length) ∧ Below w.heap.size w w' ∧ w'.heap.size = w.heap.size + 1 ∧
      ∀ (j : Nat) y, (splitL 44 s.data.toList)[j]? = some y → w'.cell? ⟨w.heap.size, j, none⟩ = some (.string (B y)) := by
  have hne := ne_of_pos s h0
  have h := split_c s 44 m w (by omega) hm
  have hc := Lib.pieces_cell_at w ((splitL 44 s.data.toList).map B) 9
  generalize hls : splitL 44 s.data.toList = ls at h hc ⊢
  clear hls
  have HC : Hid (Unit → _) := fun _ => hc
  clear hc
  go_enter Tryd.func7, Tryd.ntmps7
  go_wp2_with fail
  refine h.mono ?_
  clear h
  rintro e w1 ⟨rfl, hw1⟩
  have HW : Hid (Unit → _) := fun _ => hw1
  clear hw1
  go_wp2_with fail
  go_ret
  refine ⟨rfl, ?_, ?_, fun j y h => ?_⟩
  · rw [HW.out ()]; go_grown
  · rw [HW.out ()]; simp
  · rw [HW.out ()]; exact HC.out () j (B y) (by simp [h])

set_option maxHeartbeats 400000 in
theorem nsplit_nil (s : ByteArray) (w : World) (h0 : s.size = 0) : Calls Tryd.prog 7 #[.string s] w fun e w' => e = .returned (.slice Option.none 0 0) ∧ w' = w := by
  have he : s.toList.isEmpty = true := by
    rw [Lib.toList_data]
    rw [Lib.size_eq] at h0
    rw [List.eq_nil_of_length_eq_zero h0]; rfl
  go_enter Tryd.func7, Tryd.ntmps7
  go_wp2_with fail
  go_ret
  exact ⟨rfl, rfl⟩

set_option maxHeartbeats 400000 in
theorem bytes1_any (a : ByteArray) (w : World) (ha : a.size ≤ 9223372036854775807) :
    Calls Tryd.prog 6 #[.string a] w fun r w' => (∃ y, r = .returned (.bool y)) ∧ w' = w := by
  go_enter Tryd.func6, Tryd.ntmps6
  go_wp2
  all_goals
    go_ret
    exact ⟨⟨_, rfl⟩, rfl⟩
end Go.Proofs.Qxb6603774aDoor
