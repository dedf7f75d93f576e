import Derived.Test.Qxb6603097aDoorPlain2
import Derived.Test.Qxb6603097aDoorWalkA
namespace Go.Proofs.Qxb6603097aDoor
open Go.RowKit Pl

set_option maxRecDepth 100000 in
set_option maxHeartbeats 2000000 in
theorem model_empty (s : ByteArray) (w : World) (h0 : s.size = 0) :
    Calls Tryd.prog 8 #[.string s] w fun e w' => e = .returned (modV (modOf false ((s.data.toList.drop 0).takeWhile dig) ((s.data.toList.drop 0).dropWhile dig))) ∧ w' = w := by
  have hno := mod_no false s.data.toList 0 (fun b hb => by rw [List.getElem?_eq_none (by rw [← Lib.size_eq]; omega)] at hb; cases hb)
  rw [hno]
  clear hno
  go_enter Tryd.func8, Tryd.ntmps8
  go_wp2_with fail
  go_rounds 1
  exact bodyPost_ret (v := modV (false, [], [], false)) (by simp [results, Tryd.results8, go_sem, modV]; rfl) rfl ⟨rfl, rfl⟩
end Go.Proofs.Qxb6603097aDoor
