import Derived.Test.Qxb6603042aDoorLib
import Derived.Handy
import Derived.WalkSpells
import Derived.WalkLawsBesides
namespace Go.Proofs.Qxb6603042aDoor
open Go.RowKit Pl

set_option maxHeartbeats 400000 in
theorem isBlank_any (n : Int) (w : World) : Calls Tryd.prog 22 #[.int .u8 n] w fun e w' => e = .returned (.bool (blB n)) ∧ w' = w := by
  cases h1 : (n == 32)
  · cases h2 : (n == 9)
    · cases h3 : (n == 13)
      all_goals
        have hb : blB n = (n == 13) := by simp [blB, h1, h2]
        rw [hb, h3]
        go_enter Tryd.func22, Tryd.ntmps22
        go_wp2
        go_ret
        exact ⟨rfl, rfl⟩
    · have hb : blB n = true := by simp [blB, h1, h2]
      rw [hb]
      go_enter Tryd.func22, Tryd.ntmps22
      go_wp2
      go_ret
      exact ⟨rfl, rfl⟩
  · have hb : blB n = true := by simp [blB, h1]
    rw [hb]
    go_enter Tryd.func22, Tryd.ntmps22
    go_wp2
    go_ret
    exact ⟨rfl, rfl⟩

set_option maxHeartbeats 400000 in
theorem more_any (s : ByteArray) (w : World) (hs : s.size ≤ 9223372036854775806) : Calls Tryd.prog 9 #[.string s] w fun e w' => e = .returned (.bool (moreB s.data.toList)) ∧ w' = w := by
  go_enter Tryd.func9, Tryd.ntmps9
  go_wp2_with fail
  go_loop [3] (fun i => ∃ k : Nat, k ≤ s.size ∧ i = .int .i64 k ∧ moreB (s.data.toList.take k) = false) (fun i => s.size - (intOf i).toNat)
  case atStart => exact ⟨0, Nat.zero_le _, rfl, rfl⟩
  case round =>
    obtain ⟨k, hk, rfl, hm⟩ := hrel
    by_cases hlt : k < s.size
    · have hget : s.data.toList[k]? = some s[k] := by
        rw [List.getElem?_eq_getElem (by rw [← Lib.size_eq]; exact hlt)]; rfl
      have e1 := more_take_succ _ _ _ hget
      have e2 := more_of_take _ _ _ hget
      rw [solid_of] at e1 e2
      rw [hm, Bool.false_or] at e1
      have HE1 : Hid (Unit → _) := fun _ => e1
      have HE2 : Hid (Unit → _) := fun _ => e2
      clear e1 e2 hget hm
      cases hb : blB (s[k].toNat : Int)
      · cases h10 : ((s[k].toNat : Int) == 10)
        · have h11 : ((s[k].toNat : Int) != 10) = true := by rw [bne, h10]; rfl
          go_wp2_with (go_at_call 22; refine (isBlank_any _ _).mono ?_; rintro e w' ⟨rfl, rfl⟩)
          go_ret
          exact ⟨by rw [HE2.out () (by rw [hb, h10]; rfl)]; rfl, rfl⟩
        · have h11 : ((s[k].toNat : Int) != 10) = false := by rw [bne, h10]; rfl
          go_wp2_with (go_at_call 22; refine (isBlank_any _ _).mono ?_; rintro e w' ⟨rfl, rfl⟩)
          go_round
          case rel => exact ⟨k + 1, by omega, by go_num, by rw [HE1.out (), hb, h10]; rfl⟩
          case measure => simp [intOf]; omega
      · go_wp2_with (go_at_call 22; refine (isBlank_any _ _).mono ?_; rintro e w' ⟨rfl, rfl⟩)
        go_round
        case rel => exact ⟨k + 1, by omega, by go_num, by rw [HE1.out (), hb]; rfl⟩
        case measure => simp [intOf]; omega
    · have e : moreB s.data.toList = false := by
        rw [List.take_of_length_le (by rw [← Lib.size_eq]; omega)] at hm; exact hm
      go_wp2
      go_ret
      exact ⟨rfl, rfl⟩

set_option maxHeartbeats 1000000 in
theorem bytes7_any (a b c d e f g : ByteArray) (w : World) (ha : a.size ≤ 9223372036854775807) (hb : b.size ≤ 9223372036854775807) (hc : c.size ≤ 9223372036854775807) (hd : d.size ≤ 9223372036854775807) (he : e.size ≤ 9223372036854775807) (hf : f.size ≤ 9223372036854775807) (hg : g.size ≤ 9223372036854775807) :
    Calls Tryd.prog 8 #[.string a, .string b, .string c, .string d, .string e, .string f, .string g] w fun r w' => (∃ y, r = .returned (.bool y)) ∧ w' = w := by
  go_enter Tryd.func8, Tryd.ntmps8
  go_wp2
  all_goals
    go_ret
    exact ⟨⟨_, rfl⟩, rfl⟩
end Go.Proofs.Qxb6603042aDoor
