import Derived.Test.Qxb6603774aDoorFileP
import Derived.Deep.QuietTactic
import Derived.BigQuiet
import Derived.Deep.DeepCutAuto
import Derived.Deep.Light
namespace Go.Proofs.Qxb6603774aDoor
open Go.RowKit Pl

set_option maxHeartbeats 400000 in
theorem same_nil (pa pb : Option Addr) (ca cb : Nat) (w : World) : Calls Tryd.prog 12 #[.slice pa 0 ca, .slice pb 0 cb] w fun e w' => e = .returned (.bool true) ∧ Below w.heap.size w w' := by
  go_enter Tryd.func12, Tryd.ntmps12
  go_wp2_with fail
  go_loop [5] (fun v => v = .int .i64 0) (fun _ => 0)
  case atStart => rfl
  case round =>
    subst hrel
    go_wp2_with fail
    go_ret
    exact ⟨rfl, Below.refl _ _⟩

set_option maxHeartbeats 1000000 in
theorem same_c (ls : List (List UInt8)) (ga gb ca cb : Nat) (w : World) (hl : ls.length ≤ 4000001) (ha : ∀ (j : Nat) y, ls[j]? = some y → w.cell? ⟨ga, j, none⟩ = some (.string (B y))) (hb : ∀ (j : Nat) y, ls[j]? = some y → w.cell? ⟨gb, j, none⟩ = some (.string (B y))) :
    Calls Tryd.prog 12 #[.slice (some ⟨ga, 0, none⟩) ls.length ca, .slice (some ⟨gb, 0, none⟩) ls.length cb] w fun e w' => e = .returned (.bool true) ∧ Below w.heap.size w w' := by
  have HA : Hid (Unit → _) := fun _ => ha
  have HB : Hid (Unit → _) := fun _ => hb
  clear ha hb
  go_enter Tryd.func12, Tryd.ntmps12
  go_wp2_with fail
  go_loopw [5] (fun iv wr => ∃ k nq : Nat, k ≤ ls.length ∧ iv = .int .i64 k ∧ wr = w.drewN nq) (fun iv _ => ls.length - (intOf iv).toNat)
  case atStart => exact ⟨0, 0, Nat.zero_le _, rfl, rfl⟩
  case round =>
    obtain ⟨k, nq, hk, rfl, rfl⟩ := hrel
    by_cases hlt : k < ls.length
    · obtain ⟨y, hy⟩ : ∃ y, ls[k]? = some y := ⟨ls[k], List.getElem?_eq_getElem hlt⟩
      have c1 := HA.out () k y hy
      have c2 := HB.out () k y hy
      have i1 : (k : Int) < (ls.length : Int) := by omega
      clear hy
      go_wp2_with fail
      go_quiet (fail)
      go_wp2_with fail
      go_roundw
      case rel => exact ⟨k + 1, _, by omega, by go_num, rfl⟩
      case measure => simp [intOf]; omega
    · go_wp2_with fail
      go_ret
      exact ⟨rfl, below_drewN (Below.refl _ _) _⟩

set_option maxHeartbeats 400000 in
theorem bytes3_any (a : ByteArray) (w : World) (ha : a.size ≤ 9223372036854775807) :
    Calls Tryd.prog 10 #[.string a] w fun r w' => (∃ y, r = .returned (.bool y)) ∧ w' = w := by
  go_enter Tryd.func10, Tryd.ntmps10
  go_wp2
  all_goals
    go_ret
    exact ⟨⟨_, rfl⟩, rfl⟩
end Go.Proofs.Qxb6603774aDoor
