import Derived.Test.Qxb6603906aDoorParse
import Derived.Test.Qxb6603906aDoorModel
import Derived.Test.Qxb6603906aDoorLiftGram
import Derived.Deep.QuietTactic
import Derived.BigQuiet
namespace Go.Proofs.Qxb6603906aDoor.gram
open Go.RowKit Pl

set_option maxHeartbeats 400000 in
theorem bytes_c (a : ByteArray) (w : World) (ha : a.size ≤ 9223372036854775807) :
    Calls Tryd.prog 5 #[.string a] w fun r w' => (∃ y, r = .returned (.bool y)) ∧ w' = w := by
  go_enter Tryd.func5, Tryd.ntmps5
  go_wp2
  all_goals
    go_ret
    exact ⟨⟨_, rfl⟩, rfl⟩

set_option maxHeartbeats 400000 in
theorem fields_c (n : Bool) (ds : ByteArray) (x : Int) (w : World) :
    Calls Tryd.prog 7 #[.agg #[.bool n, .string ds, .int .i64 x]] w fun e w' => e = .returned (.tuple #[.bool n, .string ds, .int .i64 x]) ∧ Below w.heap.size w w' := by
  go_enter Tryd.func7, Tryd.ntmps7
  go_wp2_with fail
  go_quiet (fail)
  go_wp2_with fail
  refine bodyPost_ret (v := .tuple #[.bool n, .string ds, .int .i64 x]) (by simp [results, Tryd.results7, go_sem]) rfl ⟨rfl, ?_⟩
  refine below_drewN ?_ _
  go_grown

set_option maxHeartbeats 2000000 in
theorem walk : Walked := by
  intro a0 w _ l0
  unfold maxLen at l0
  by_cases hs : a0.size ≤ 1048576
  · have h1 := fun W => parse_c a0 W (by omega)
    have h2 := fun W => model_c a0 W (by omega)
    generalize parseL a0.data.toList = d at h1 h2
    obtain ⟨n, ds, x, ok⟩ := d
    unfold ansV at h1
    unfold modV at h2
    dsimp only at h1 h2
    generalize B ds = D at h1 h2
    have H1 : Hid (Unit → _) := fun _ => h1
    have H2 : Hid (Unit → _) := fun _ => h2
    clear h1 h2
    go_enter Tryd.func3, Tryd.ntmps3
    go_wp2_with fail
    refine (bytes_c _ _ l0).mono ?_
    rintro e w' ⟨⟨y, rfl⟩, rfl⟩
    cases y
    · go_wp2_with fail
      go_ret
      exact ⟨rfl, Below.refl _ _⟩
    go_wp2_with fail
    refine (H1.out () _).mono ?_
    clear H1
    rintro e w1 ⟨rfl, hb1⟩
    have hz1 := hb1.size
    go_wp2_with fail
    refine (fields_c _ _ _ _).mono ?_
    rintro e w2 ⟨rfl, hb2⟩
    have hz2 := hb2.size
    have hb12 : Below w'.heap.size w' w2 := (hb1.alloc hz1 _).trans (hb2.mono (by rw [World.size_alloc]; omega))
    have hz12 := hb12.size
    go_wp2_with fail
    refine (H2.out () _).mono ?_
    clear H2
    rintro e w3 ⟨rfl, hb3⟩
    have hb13 : Below w'.heap.size w' w3 := hb12.trans (hb3.mono hz12)
    go_wp2_with fail
    go_ret
    exact ⟨rfl, hb13⟩
  · go_enter Tryd.func3, Tryd.ntmps3
    go_wp2_with fail
    refine (bytes_c _ _ l0).mono ?_
    rintro e w' ⟨⟨y, rfl⟩, rfl⟩
    cases y
    all_goals
      go_wp2_with fail
      go_ret
      exact ⟨rfl, Below.refl _ _⟩
end Go.Proofs.Qxb6603906aDoor.gram
namespace Go.Proofs.Qxb6603906aDoor
/-- THE STATEMENT. -/
theorem gramProved : Rows.FnParseMatchesGrammarModelCardSaid := gram.card_holds gram.walk
end Go.Proofs.Qxb6603906aDoor
