import Derived.Test.Qxb6603097aDoorPlain
import Derived.Test.Qxb6603097aDoorChecked
import Derived.Test.Qxb6603097aDoorShelf
import Derived.WalkKit
import Derived.Handy
import Derived.WalkSpells
import Derived.WalkLawsBesides
namespace Go.Proofs.Qxb6603097aDoor
open Go.RowKit Pl

theorem cut_c (s : ByteArray) (m : Int) (w : World) (hs : s.size < 4294967281) (hm : w.cell? ⟨0, 0, none⟩ = some (.int .i64 m)) :
    Calls Tryd.prog 14 #[.string s, .string ⟨#[46]⟩] w fun e w' => e = .returned (.tuple #[.string (B (Lib.cut s.data.toList [46]).1), .string (B (Lib.cut s.data.toList [46]).2.1), .bool (Lib.cut s.data.toList [46]).2.2]) ∧ ∃ n, w' = w.drewN n :=
  Any.strings_Cut Tryd.lays145 s ⟨#[46]⟩ m w hs hm
theorem trimL_c (s : ByteArray) (w : World) : Calls Tryd.prog 16 #[.string s, .string ⟨#[48]⟩] w fun e w' => e = .returned (.string (B (Lib.trimLeftB s.data.toList 48))) ∧ w' = w :=
  Any.strings_TrimLeft_one Tryd.lays161 s 48 (by decide) w
theorem trimR_c (s : ByteArray) (w : World) (hs : s.size ≤ 9223372036854775807) : Calls Tryd.prog 17 #[.string s, .string ⟨#[48]⟩] w fun e w' => e = .returned (.string (B (Lib.trimRightB s.data.toList 48))) ∧ w' = w :=
  Any.strings_TrimRight_one Tryd.lays162 s 48 (by decide) w hs

/-- modelDecimal's four results. -/
def modV (d : Bool × List UInt8 × List UInt8 × Bool) : Value := .tuple #[.bool d.1, .string (B d.2.1), .string (B d.2.2.1), .bool d.2.2.2]

theorem get_byte (s : ByteArray) (k : Nat) (h : k < s.size) : s.data.toList[k]? = some s[k] := by
  rw [List.getElem?_eq_getElem (by rw [← Lib.size_eq]; exact h)]; rfl

set_option maxHeartbeats 400000 in
theorem isDigit_any (n : Int) (w : World) : Calls Tryd.prog 13 #[.int .u8 n] w fun e w' => e = .returned (.bool (digB n)) ∧ w' = w := by
  by_cases h1 : 48 ≤ n
  · by_cases h2 : n ≤ 57
    · have hb : digB n = true := by simp [digB, h1, h2]
      rw [hb]
      go_enter Tryd.func13, Tryd.ntmps13
      go_wp2
      go_ret
      exact ⟨rfl, rfl⟩
    · have hb : digB n = false := by simp [digB, h2]
      rw [hb]
      have hd : decide (n ≤ 57) = false := by simpa using h2
      go_enter Tryd.func13, Tryd.ntmps13
      go_wp2
      go_ret
      exact ⟨rfl, rfl⟩
  · have hb : digB n = false := by simp [digB, h1]
    rw [hb]
    have hd : decide (48 ≤ n) = false := by simpa using h1
    go_enter Tryd.func13, Tryd.ntmps13
    go_wp2
    go_ret
    exact ⟨rfl, rfl⟩

set_option maxHeartbeats 1000000 in
theorem allD_any (s : ByteArray) (w : World) (hs : s.size ≤ 9223372036854775806) : Calls Tryd.prog 15 #[.string s] w fun e w' => e = .returned (.bool (allD s.data.toList)) ∧ w' = w := by
  cases he : s.toList.isEmpty
  · have hsz : 0 < s.size := by
      rw [Lib.toList_data] at he
      rw [Lib.size_eq]
      cases h : s.data.toList with
      | nil => rw [h] at he; cases he
      | cons _ _ => simp
    go_enter Tryd.func15, Tryd.ntmps15
    go_wp2_with fail
    go_loop [8] (fun i => ∃ k : Nat, k ≤ s.size ∧ i = .int .i64 k ∧ Hid (Unit → ∀ j b, j < k → s.data.toList[j]? = some b → dig b = true)) (fun i => s.size - (intOf i).toNat)
    case atStart => exact ⟨0, Nat.zero_le _, rfl, fun _ j b hj _ => absurd hj (Nat.not_lt_zero _)⟩
    case round =>
      obtain ⟨k, hk, rfl, HB⟩ := hrel
      by_cases hlt : k < s.size
      · have hget := get_byte s k hlt
        have HG : Hid (Unit → _) := fun _ => hget
        clear hget
        by_cases h1 : 48 ≤ (s[k].toNat : Int)
        · by_cases h2 : (s[k].toNat : Int) ≤ 57
          · go_wp2
            go_round
            case rel =>
              refine ⟨k + 1, by omega, by go_num, fun _ j b hj h => ?_⟩
              by_cases hjk : j = k
              · subst hjk; rw [HG.out ()] at h; cases h; simp [dig, digB, h1, h2]
              · exact HB.out () j b (by omega) h
            case measure => simp [intOf]; omega
          · have e : allD s.data.toList = false := by
              rw [allD, List.all_eq_false.2 ⟨_, List.mem_of_getElem? (HG.out ()), by simp [dig, digB, h2]⟩, Bool.and_false]
            have HE : Hid (Unit → _) := fun _ => e
            clear e
            go_wp2
            go_ret
            exact ⟨by rw [HE.out ()]; rfl, rfl⟩
        · have e : allD s.data.toList = false := by
            rw [allD, List.all_eq_false.2 ⟨_, List.mem_of_getElem? (HG.out ()), by simp [dig, digB, h1]⟩, Bool.and_false]
          have HE : Hid (Unit → _) := fun _ => e
          clear e
          go_wp2
          go_ret
          exact ⟨by rw [HE.out ()]; rfl, rfl⟩
      · have e : allD s.data.toList = true := by
          rw [allD, ← Lib.toList_data, he, Bool.not_false, Bool.true_and, List.all_eq_true, Lib.toList_data]
          intro x hx
          obtain ⟨j, hj⟩ := List.mem_iff_getElem?.1 hx
          have := (List.getElem?_eq_some_iff.1 hj).1
          rw [← Lib.size_eq] at this
          exact HB.out () j x (by omega) hj
        have HE : Hid (Unit → _) := fun _ => e
        clear e
        go_wp2
        go_ret
        exact ⟨by rw [HE.out ()]; rfl, rfl⟩
  · have e : allD s.data.toList = false := by rw [allD, ← Lib.toList_data, he]; rfl
    rw [e]
    go_enter Tryd.func15, Tryd.ntmps15
    go_wp2
    go_ret
    exact ⟨rfl, rfl⟩
end Go.Proofs.Qxb6603097aDoor
