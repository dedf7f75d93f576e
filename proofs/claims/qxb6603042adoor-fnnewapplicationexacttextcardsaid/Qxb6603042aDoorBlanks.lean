import Derived.Test.Qxb6603042aDoorPlain2
import Derived.Test.Qxb6603042aDoorMore
namespace Go.Proofs.Qxb6603042aDoor
open Go.RowKit Pl

theorem get_byte (s : ByteArray) (k : Nat) (h : k < s.size) : s.data.toList[k]? = some s[k] := by
  rw [List.getElem?_eq_getElem (by rw [← Lib.size_eq]; exact h)]; rfl
theorem ext_take (s : ByteArray) (k : Nat) : s.extract 0 k = B (s.data.toList.take k) := B_eq (by rw [Lib.extract_data]; simp)

theorem ret_string2 {X : ByteArray} {b : List UInt8} (h : X = B b) : Ending.returned (.string X) = .returned (.string (B b)) := by rw [h]

set_option maxHeartbeats 400000 in
theorem lead_any (s : ByteArray) (w : World) (hs : s.size ≤ 9223372036854775806) : Calls Tryd.prog 18 #[.string s] w fun e w' => e = .returned (.string (B (leadL s.data.toList))) ∧ w' = w := by
  go_enter Tryd.func18, Tryd.ntmps18
  go_wp2_with fail
  go_loop [3] (fun i => ∃ k : Nat, k ≤ s.size ∧ i = .int .i64 k ∧ Hid (Unit → ∀ j b, j < k → s.data.toList[j]? = some b → blB b.toNat = true)) (fun i => s.size - (intOf i).toNat)
  case atStart => exact ⟨0, Nat.zero_le _, rfl, fun _ j b hj _ => absurd hj (Nat.not_lt_zero _)⟩
  case round =>
    obtain ⟨k, hk, rfl, HB⟩ := hrel
    by_cases hlt : k < s.size
    · have hget := get_byte s k hlt
      have HG : Hid (Unit → _) := fun _ => hget
      clear hget
      cases hb : blB (s[k].toNat : Int)
      · go_wp2_with (go_at_call 22; refine (isBlank_any _ _).mono ?_; rintro e w' ⟨rfl, rfl⟩)
        go_ret
        refine ⟨?_, rfl⟩
        rw [leadL_take s.data.toList k (HB.out ()) (fun b h => by rw [HG.out ()] at h; cases h; exact hb), ← ext_take]
        rfl
      · go_wp2_with (go_at_call 22; refine (isBlank_any _ _).mono ?_; rintro e w' ⟨rfl, rfl⟩)
        go_round
        case rel =>
          refine ⟨k + 1, by omega, by go_num, fun _ j b hj h => ?_⟩
          by_cases hjk : j = k
          · subst hjk; rw [HG.out ()] at h; cases h; exact hb
          · exact HB.out () j b (by omega) h
        case measure => simp [intOf]; omega
    · have hd : decide ((k : Int) < (s.size : Int)) = false := by simp; omega
      go_wp2
      go_ret
      refine ⟨?_, rfl⟩
      rw [leadL_take s.data.toList k (HB.out ()) (fun b h => by rw [List.getElem?_eq_none (by rw [← Lib.size_eq]; omega)] at h; cases h), ← ext_take]
      rfl

set_option maxHeartbeats 400000 in
theorem trimR_any (s : ByteArray) (w : World) (hs : s.size ≤ 9223372036854775806) : Calls Tryd.prog 21 #[.string s] w fun e w' => e = .returned (.string (B (Lib.trimRightS s.data.toList [32, 9, 13]))) ∧ w' = w := by
  go_enter Tryd.func21, Tryd.ntmps21
  go_wp2_with fail
  go_loop [3] (fun i => ∃ k : Nat, k ≤ s.size ∧ i = .int .i64 k ∧ Hid (Unit → ∀ j b, k ≤ j → s.data.toList[j]? = some b → blB b.toNat = true)) (fun i => (intOf i).toNat)
  case atStart => exact ⟨s.size, Nat.le_refl _, rfl, fun _ j b hj h => by rw [List.getElem?_eq_none (by rw [← Lib.size_eq]; omega)] at h; cases h⟩
  case round =>
    obtain ⟨k, hk, rfl, HB⟩ := hrel
    by_cases hlt : 0 < k
    · obtain ⟨q, rfl⟩ : ∃ q, k = q + 1 := ⟨k - 1, by omega⟩
      have hq : q < s.size := by omega
      have hget := get_byte s q hq
      have HG : Hid (Unit → _) := fun _ => hget
      clear hget
      cases hb : blB (s[q].toNat : Int)
      · go_wp2_with (go_at_call 22; refine (isBlank_any _ _).mono ?_; rintro e w' ⟨rfl, rfl⟩)
        go_ret
        refine ⟨?_, rfl⟩
        rw [trimRight_take s.data.toList (q + 1) (by rw [← Lib.size_eq]; omega) (HB.out ()) (fun b _ h => by rw [Nat.add_sub_cancel, HG.out ()] at h; cases h; exact hb), ← ext_take]
        rfl
      · go_wp2_with (go_at_call 22; refine (isBlank_any _ _).mono ?_; rintro e w' ⟨rfl, rfl⟩)
        go_round
        case rel =>
          refine ⟨q, by omega, by go_num, fun _ j b hj h => ?_⟩
          by_cases hjk : j = q
          · subst hjk; rw [HG.out ()] at h; cases h; exact hb
          · exact HB.out () j b (by omega) h
        case measure => simp [intOf]
    · obtain rfl : k = 0 := by omega
      go_wp2
      go_ret
      refine ⟨?_, rfl⟩
      rw [trimRight_take s.data.toList 0 (Nat.zero_le _) (HB.out ()) (fun b h _ => absurd h (Nat.lt_irrefl 0)), List.take_zero]
      rfl

set_option maxHeartbeats 400000 in
theorem trimB_any (s : ByteArray) (w : World) (hs : s.size ≤ 9223372036854775806) : Calls Tryd.prog 19 #[.string s] w fun e w' => e = .returned (.string (B (Lib.trimS s.data.toList [32, 9, 13]))) ∧ w' = w := by
  have htr := trimRightS_le s.data.toList [32, 9, 13]
  have h21 := trimR_any s w hs
  obtain ⟨t, ht⟩ : ∃ t, t = Lib.trimRightS s.data.toList [32, 9, 13] := ⟨_, rfl⟩
  rw [← ht] at h21 htr
  have e1 : Lib.trimS s.data.toList [32, 9, 13] = t.drop (leadL t).length := by rw [Lib.trimS, ← ht, trimLeft_lead]
  have E1 : Hid (Unit → _) := fun _ => e1
  clear e1 ht
  rw [← Lib.size_eq] at htr
  have htl : (B t).size ≤ 9223372036854775806 := by rw [B_size]; omega
  have hll := leadL_le t
  have h18 := lead_any (B t) w htl
  rw [B_data] at h18
  have hl2 : (B (leadL t)).size ≤ (B t).size := by rw [B_size, B_size]; exact hll
  go_enter Tryd.func19, Tryd.ntmps19
  go_wp2_with fail
  refine h21.mono ?_
  clear h21
  rintro e w1 ⟨rfl, rfl⟩
  go_wp2_with fail
  refine h18.mono ?_
  clear h18
  rintro e w1 ⟨rfl, rfl⟩
  go_wp2_with fail
  go_ret
  refine ⟨?_, rfl⟩
  rw [E1.out ()]
  refine ret_string2 ?_
  rw [B_extract, B_size, B_size, List.take_of_length_le (by simp)]
end Go.Proofs.Qxb6603042aDoor
