import Derived.Test.Qxb6603906aDoorPlain
import Derived.Test.Qxb6603906aDoorChecked
import Derived.Test.Qxb6603906aDoorShelf
import Derived.WalkKit
import Derived.Handy
import Derived.WalkSpells
import Derived.WalkLawsBesides
namespace Go.Proofs.Qxb6603906aDoor
open Go.RowKit Pl

theorem trimL_c (s : ByteArray) (w : World) : Calls Tryd.prog 14 #[.string s, .string ⟨#[48]⟩] w fun e w' => e = .returned (.string (B (Lib.trimLeftB s.data.toList 48))) ∧ w' = w :=
  Any.strings_TrimLeft_one Tryd.lays161 s 48 (by decide) w
theorem trimR_c (s : ByteArray) (w : World) (hs : s.size ≤ 9223372036854775807) : Calls Tryd.prog 15 #[.string s, .string ⟨#[48]⟩] w fun e w' => e = .returned (.string (B (Lib.trimRightB s.data.toList 48))) ∧ w' = w :=
  Any.strings_TrimRight_one Tryd.lays162 s 48 (by decide) w hs
theorem get_byte (s : ByteArray) (k : Nat) (h : k < s.size) : s.data.toList[k]? = some s[k] := by
  rw [List.getElem?_eq_getElem (by rw [← Lib.size_eq]; exact h)]; rfl
theorem ne_of_pos (s : ByteArray) (h : 0 < s.size) : s.toList.isEmpty = false := by
  rw [Lib.toList_data]
  rw [Lib.size_eq] at h
  cases hq : s.data.toList with
  | nil => rw [hq] at h; simp at h
  | cons _ _ => rfl

set_option maxHeartbeats 1000000 in
theorem digitsAt_c (s : ByteArray) (i : Nat) (w : World) (hs : s.size ≤ 16777216) (hi : i ≤ s.size) :
    Calls Tryd.prog 13 #[.string s, .int .i64 i] w fun e w' => e = .returned (.string (B ((s.data.toList.drop i).takeWhile dig))) ∧ w' = w := by
  have hfin := fun k h1 hd hq => (pos_take dig s.data.toList i k h1 hd hq).1
  generalize (s.data.toList.drop i).takeWhile dig = D at hfin ⊢
  have HF : Hid (Unit → _) := fun _ => hfin
  clear hfin
  go_enter Tryd.func13, Tryd.ntmps13
  go_wp2_with fail
  go_loop [5] (fun v => ∃ k : Nat, i ≤ k ∧ k ≤ s.size ∧ v = .int .i64 k ∧ Hid (Unit → ∀ j b, i ≤ j → j < k → s.data.toList[j]? = some b → dig b = true)) (fun v => s.size - (intOf v).toNat)
  case atStart => exact ⟨i, Nat.le_refl _, hi, rfl, fun _ j b h1 h2 => by omega⟩
  case round =>
    obtain ⟨k, hk1, hk2, rfl, HB⟩ := hrel
    have hstop : (∀ b, s.data.toList[k]? = some b → dig b = false) → B D = s.extract i k := fun h => by
      rw [HF.out () k hk1 (HB.out ()) h, ext_cutL]; rfl
    have HS : Hid (Unit → _) := fun _ => hstop
    clear hstop
    by_cases hlt : k < s.size
    · have hget := get_byte s k hlt
      have HG : Hid (Unit → _) := fun _ => hget
      clear hget
      by_cases h1 : 48 ≤ (s[k].toNat : Int)
      · by_cases h2 : (s[k].toNat : Int) ≤ 57
        · go_wp2
          go_round
          case rel =>
            refine ⟨k + 1, by omega, by omega, by go_num, fun _ j b hij hj h => ?_⟩
            by_cases hjk : j = k
            · subst hjk; rw [HG.out ()] at h; cases h; simp [dig, digB, h1, h2]
            · exact HB.out () j b hij (by omega) h
          case measure => simp [intOf]; omega
        · have HE : Hid (Unit → B D = s.extract i k) := fun _ => HS.out () (fun b hb => by rw [HG.out ()] at hb; cases hb; simp [dig, digB, h2])
          clear HS HB HF
          go_wp2
          go_ret
          exact ⟨by rw [HE.out ()]; rfl, rfl⟩
      · have HE : Hid (Unit → B D = s.extract i k) := fun _ => HS.out () (fun b hb => by rw [HG.out ()] at hb; cases hb; simp [dig, digB, h1])
        clear HS HB HF
        go_wp2
        go_ret
        exact ⟨by rw [HE.out ()]; rfl, rfl⟩
    · have HE : Hid (Unit → B D = s.extract i k) := fun _ => HS.out () (fun b hb => by rw [List.getElem?_eq_none (by rw [← Lib.size_eq]; omega)] at hb; cases hb)
      clear HS HB HF
      go_wp2
      go_ret
      exact ⟨by rw [HE.out ()]; rfl, rfl⟩
theorem digitsAt_n (s : ByteArray) (i : Nat) (n : Int) (hn : n = (i : Int)) (w : World) (hs : s.size ≤ 16777216) (hi : i ≤ s.size) :
    Calls Tryd.prog 13 #[.string s, .int .i64 n] w fun e w' => e = .returned (.string (B ((s.data.toList.drop i).takeWhile dig))) ∧ w' = w := by
  subst hn; exact digitsAt_c s i w hs hi
end Go.Proofs.Qxb6603906aDoor
