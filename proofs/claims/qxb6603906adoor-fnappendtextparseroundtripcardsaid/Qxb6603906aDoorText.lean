import Derived.Test.Qxb6603906aDoorTextP
import Derived.Lib.AppendStr
import Derived.Deep.DeepCutAuto
import Derived.Deep.CutBlock
import Derived.Deep.Light
namespace Go.Proofs.Qxb6603906aDoor
open Go.RowKit Pl

theorem int_eqt {a b : Int} (h : a = b) : Value.int .i64 a = Value.int .i64 b := by rw [h]

/-! ### zzCanonicalDigits -/
def CanonR (D : ByteArray) (e : Ending) : Prop := ∃ b : Bool, e = .returned (.bool b) ∧ (b = true → Canon D.data.toList)
set_option maxHeartbeats 1000000 in
theorem canon_c (D : ByteArray) (w : World) (hs : D.size ≤ 16777216) :
    Calls Tryd.prog 10 #[.string D] w fun e w' => CanonR D e ∧ w' = w := by
  go_enter Tryd.func10, Tryd.ntmps10
  by_cases h0 : 0 < D.size
  rotate_left
  · have h0i : ((D.size : Int) == 0) = true := beq_iff_eq.2 (by omega)
    go_wp2_with fail
    go_ret
    exact ⟨⟨false, rfl, fun h => (by cases h)⟩, rfl⟩
  have h0i : ((D.size : Int) == 0) = false := beq_eq_false_iff_ne.2 (by omega)
  go_wp2_with fail
  go_loop [3] (fun v => ∃ k : Nat, k ≤ D.size ∧ v = .int .i64 k ∧ Hid (Unit → ∀ j b, j < k → D.data.toList[j]? = some b → dig b = true)) (fun v => D.size - (intOf v).toNat)
  case atStart => exact ⟨0, Nat.zero_le _, rfl, fun _ j b h => (Nat.not_lt_zero _ h).elim⟩
  case round =>
    obtain ⟨k, hk, rfl, HB⟩ := hrel
    by_cases hlt : k < D.size
    · have HG : Hid (Unit → _) := fun _ => get_byte D k hlt
      by_cases h1 : (D[k].toNat : Int) < 48
      · go_wp2_with fail
        go_ret
        exact ⟨⟨false, rfl, fun h => (by cases h)⟩, rfl⟩
      · by_cases h2 : (57 : Int) < (D[k].toNat : Int)
        · go_wp2_with fail
          go_ret
          exact ⟨⟨false, rfl, fun h => (by cases h)⟩, rfl⟩
        · have HD : Hid (Unit → dig D[k] = true) := fun _ => (dig_iff _).2 ⟨by omega, by omega⟩
          go_wp2_with fail
          go_round
          case rel =>
            refine ⟨k + 1, by omega, by go_num, fun _ j b hj h => ?_⟩
            by_cases hjk : j = k
            · subst hjk; rw [HG.out ()] at h; cases h; exact HD.out ()
            · exact HB.out () j b (by omega) h
          case measure => simp [intOf]; omega
    · have hkk : k = D.size := by omega
      subst hkk
      have HA : Hid (Unit → ∀ c ∈ D.data.toList, dig c = true) := fun _ c hc => by
        obtain ⟨j, hj, rfl⟩ := List.mem_iff_getElem.1 hc
        exact HB.out () j _ (by rw [Lib.size_eq]; exact hj) (List.getElem?_eq_getElem hj)
      have HG0 : Hid (Unit → _) := fun _ => get_byte D 0 h0
      obtain ⟨n, hn⟩ : ∃ n, n = D.size - 1 := ⟨_, rfl⟩
      have hl : n < D.size := by omega
      have HG1 : Hid (Unit → _) := fun _ => get_byte D n hl
      have HN : Hid (Unit → n = D.size - 1) := fun _ => hn
      have hli : (D.size : Int) - 1 = (n : Int) := by omega
      clear HB hn hk hlt
      cases ha : ((D[0].toNat : Int) == 48)
      · have ha2 : ((D[0].toNat : Int) != 48) = true := by rw [bne, ha]; rfl
        cases hb : ((D[n].toNat : Int) == 48)
        · have hb2 : ((D[n].toNat : Int) != 48) = true := by rw [bne, hb]; rfl
          have HC : Hid (Unit → Canon D.data.toList) := fun _ => {
            pos := by rw [← Lib.size_eq]; exact h0
            dig := HA.out ()
            first := fun b hb' => by rw [HG0.out ()] at hb'; cases hb'; exact ne48 ha
            last := fun b hb' => by rw [← Lib.size_eq, ← HN.out (), HG1.out ()] at hb'; cases hb'; exact ne48 hb }
          clear HA HG0 HG1
          go_wp2_with fail
          all_goals
            go_ret
            exact ⟨⟨_, rfl, fun _ => HC.out ()⟩, rfl⟩
        · have hb2 : ((D[n].toNat : Int) != 48) = false := by rw [bne, hb]; rfl
          clear HA HG0 HG1
          go_wp2_with fail
          all_goals
            go_ret
            exact ⟨⟨_, rfl, fun h => (by first | cases h | simp_all)⟩, rfl⟩
      · have ha2 : ((D[0].toNat : Int) != 48) = false := by rw [bne, ha]; rfl
        clear HA HG0 HG1
        go_wp2_with fail
        all_goals
          go_ret
          exact ⟨⟨_, rfl, fun h => (by first | cases h | simp_all)⟩, rfl⟩

set_option maxHeartbeats 400000 in
theorem make_c (n : Bool) (D : ByteArray) (x : Int) (w : World) :
    Calls Tryd.prog 11 #[.bool n, .string D, .int .i64 x] w fun e w' => e = .returned (.agg #[.bool n, .string D, .int .i64 x]) ∧ Below w.heap.size w w' := by
  go_enter Tryd.func11, Tryd.ntmps11
  go_wp2_with fail
  refine bodyPost_ret (v := .agg #[.bool n, .string D, .int .i64 x]) (by simp [results, Tryd.results11, go_sem]) rfl ⟨rfl, ?_⟩
  go_grown
end Go.Proofs.Qxb6603906aDoor
