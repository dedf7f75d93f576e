import Derived.Test.Qxb6603042aDoorPut
namespace Go.Proofs.Qxb6603042aDoor
open Go.RowKit Pl

/-- The world owns, from block Bk on, a row of strings that holds ls. -/
def OwnS (Bk : Nat) (v : Value) (ls : List (List UInt8)) (w : World) : Prop := w.ownsRow Bk 9 1 v ls.length (ls.map fun x => Value.string (B x))

theorem ownS_snoc {Bk n : Nat} {v : Value} {ls : List (List UInt8)} {x : List UInt8} {X : ByteArray} {w : World} (h : w.ownsRow Bk 9 1 v n ((ls.map fun x => Value.string (B x)) ++ [.string X])) (hn : n = ls.length + 1) (hx : X = B x) : OwnS Bk v (ls ++ [x]) w := by
  subst hn; subst hx
  unfold OwnS
  rw [List.map_append, List.length_append]
  exact h

set_option maxHeartbeats 1000000 in
theorem lines_any (s : ByteArray) (w : World) (hs : s.size ≤ 4000000) :
    Calls Tryd.prog 17 #[.string s] w fun e w' => (∃ v, e = .returned v ∧ OwnS w.heap.size v (splitL 10 s.data.toList) w') ∧ Below w.heap.size w w' := by
  obtain ⟨i0, hi, hz0, hz1, hz2⟩ := info_parts Tryd.info9
  have HI : Hid (Unit → _) := fun _ => And.intro hi (And.intro hz0 (And.intro hz1 hz2))
  clear hi hz0 hz1 hz2
  go_enter Tryd.func17, Tryd.ntmps17
  go_wp2_with fail
  go_loopw [3, 4, 5] (fun v a i wr => ∃ (k p : Nat) (done : List (List UInt8)), k ≤ s.size ∧ p ≤ k ∧ done.length ≤ k ∧ i = .int .i64 k ∧ a = .int .i64 p ∧ Hid (Unit → OwnS w.heap.size v done wr ∧ splitL 10 s.data.toList = done ++ splitL 10 (s.data.toList.drop p) ∧ ∀ j, p ≤ j → j < k → s.data.toList[j]? ≠ some 10) ∧ Below w.heap.size w wr) (fun _ _ i _ => s.size - (intOf i).toNat)
  case atStart => exact ⟨0, 0, [], Nat.zero_le _, Nat.zero_le _, Nat.zero_le _, rfl, rfl, fun _ => ⟨World.ownsRow_nil _ _ _ _, rfl, fun j h1 h2 => absurd h2 (Nat.not_lt_zero _)⟩, Below.refl _ _⟩
  case round =>
    obtain ⟨k, p, done, hk, hpk, hdl, rfl, rfl, HR, hb⟩ := hrel
    obtain ⟨hi, hz0, hz1, hz2⟩ := HI.out ()
    have hsz := hb.size
    by_cases hlt : k < s.size
    · have hget := get_byte s k hlt
      have HG : Hid (Unit → _) := fun _ => hget
      clear hget
      by_cases h10 : s[k] = 10
      · have hb10 : ((s[k].toNat : Int) == 10) = true := by rw [h10]; rfl
        have HG10 : Hid (Unit → _) := fun _ => h10
        clear h10
        go_wp2_with (at_builtin; refine wpList_append_own _ rfl _ _ 34 rfl w.heap.size 9 i0 (.string ⟨#[]⟩) 1 16 Tryd.underlying34 hi hz0 hz1 hz2 rfl (by decide) _ _ _ rfl (World.ownsRow.alloc (HR.out ()).1 _) ⟨wr.heap.size, 0, none⟩ 1 1 [.string (s.extract p k)] rfl rfl ?c1 ?c2 ?c3 ?c4 ?c5 ?_)
        case c1 => exact cell_one_new _ _ _
        case c2 => intro u hu; simp at hu; subst hu; rfl
        case c3 => unfold maxLen; omega
        case c4 => omega
        case c5 => simp only [World.size_alloc]; omega
        intro v' w1 hown' hgrow _
        have hb1 : Below w.heap.size w w1 := (hb.alloc (by omega) _).grown hgrow (by simp only [World.size_alloc]; omega) (fun j e => (World.ownsRow.lt (HR.out ()).1 j e).1)
        have HO1 : Hid (Unit → OwnS w.heap.size v' (done ++ [(s.data.toList.drop p).take (k - p)]) w1) := fun _ => ownS_snoc hown' rfl (B_eq (by rw [Lib.extract_data]))
        clear hown' hgrow hb
        go_wp2
        go_roundw
        case rel =>
          refine ⟨k + 1, k + 1, done ++ [(s.data.toList.drop p).take (k - p)], by omega, Nat.le_refl _, by simp; omega, by go_num, by go_num, fun _ => ⟨HO1.out (), ?_, fun j h1 h2 => by omega⟩, hb1⟩
          have hk10 : s.data.toList[k]? = some 10 := by rw [HG.out (), HG10.out ()]
          rw [(HR.out ()).2.1, split_step 10 _ p k hpk hk10 (HR.out ()).2.2]; simp
        case measure => simp [intOf]; omega
      · have hb10 : ((s[k].toNat : Int) == 10) = false := by
          rw [beq_eq_false_iff_ne]
          intro e
          apply h10
          apply UInt8.toNat_inj.1
          show s[k].toNat = 10
          omega
        have HG10 : Hid (Unit → _) := fun _ => h10
        clear h10
        go_wp2
        go_roundw
        case rel =>
          refine ⟨k + 1, p, done, by omega, by omega, by omega, by go_num, rfl, fun _ => ⟨(HR.out ()).1, (HR.out ()).2.1, fun j h1 h2 => ?_⟩, hb⟩
          by_cases hj : j = k
          · subst hj; rw [HG.out ()]; intro e; exact HG10.out () (Option.some.inj e)
          · exact (HR.out ()).2.2 j h1 (by omega)
        case measure => simp [intOf]; omega
    · go_wp2_with (at_builtin; refine wpList_append_own _ rfl _ _ 34 rfl w.heap.size 9 i0 (.string ⟨#[]⟩) 1 16 Tryd.underlying34 hi hz0 hz1 hz2 rfl (by decide) _ _ _ rfl (World.ownsRow.alloc (HR.out ()).1 _) ⟨wr.heap.size, 0, none⟩ 1 1 [.string (s.extract p s.size)] rfl rfl ?c1 ?c2 ?c3 ?c4 ?c5 ?_)
      case c1 => exact cell_one_new _ _ _
      case c2 => intro u hu; simp at hu; subst hu; rfl
      case c3 => unfold maxLen; omega
      case c4 => omega
      case c5 => simp only [World.size_alloc]; omega
      intro v' w1 hown' hgrow _
      have hb1 : Below w.heap.size w w1 := (hb.alloc (by omega) _).grown hgrow (by simp only [World.size_alloc]; omega) (fun j e => (World.ownsRow.lt (HR.out ()).1 j e).1)
      have hsp : splitL 10 s.data.toList = done ++ [s.data.toList.drop p] := by
        rw [(HR.out ()).2.1, split_last 10 _ p (fun j h1 h2 => (HR.out ()).2.2 j h1 (by rw [← Lib.size_eq] at h2; omega))]
      have HO1 : Hid (Unit → OwnS w.heap.size v' (splitL 10 s.data.toList) w1) := fun _ => by
        rw [hsp]
        exact ownS_snoc hown' rfl (B_eq (by rw [Lib.extract_data, List.take_of_length_le (by simp)]))
      clear hown' hgrow hb hsp
      go_wp2
      go_ret
      exact ⟨⟨_, rfl, HO1.out ()⟩, hb1⟩
end Go.Proofs.Qxb6603042aDoor
