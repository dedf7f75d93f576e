import Derived.Test.Qxb6603774aDoorFrame
import Derived.Test.Qxb6603774aDoorCards
import Derived.Test.Qxb6603774aDoorTie
namespace Go.Proofs.Qxb6603774aDoor.file
open Go.ChangeShapes Go.WideShapes Go.ChangeAt Go.RowKit
open Go.ChangeMaps (open_string shut_string)
set_option linter.unusedVariables false
/-- What the walk gives: the Go function returns true and leaves all that was there. -/
def Walked : Prop := ∀ (a0 : ByteArray) (W : World), W.ShapedOpen Tryd.prog → a0.size ≤ maxLen → Calls Tryd.prog 5 #[.string a0] W fun e w' => e = .returned (.bool true) ∧ Below W.heap.size W w'

set_option maxRecDepth 100000 in
theorem lifted (hwalk : Walked) (os : Os) (started : os.Started) (H : Type) (enc : TypeId × Value → H) :
    ReturnsInHanded {} Tryd.checked os 5 .any (fun w args => (Rows.fnSplitFileAgreesWithSplitOnPlainNodesSpec.pre enc Tryd.prog Tryd.f5 Rows.fnSplitFileAgreesWithSplitOnPlainNodesRow.domain false w args ∧ laidMetH Tryd.prog Rows.fnSplitFileAgreesWithSplitOnPlainNodesRow.laid w) ∧ sizedMet enc Tryd.prog Tryd.f5 (OpenSpec.ofChange Rows.fnSplitFileAgreesWithSplitOnPlainNodesSpec) false w args)
      (Rows.fnSplitFileAgreesWithSplitOnPlainNodesSpec.post enc Tryd.prog Tryd.f5 false true false false) := by
  refine Frame.returns_laid_shaped (C := Tryd.checked) (X := fun w _ => laidMetH Tryd.prog Rows.fnSplitFileAgreesWithSplitOnPlainNodesRow.laid w) (fun _ _ _ hh h => h.of_heap hh) Frame.own started (by kernel_rfl) Tryd.func5
    (ChangeSpec.witness_shaped (enc := enc) (C := Tryd.checked) (os := os) (X := fun w _ => laidMetH Tryd.prog Rows.fnSplitFileAgreesWithSplitOnPlainNodesRow.laid w) false (World.laidAll Tryd.prog os Rows.fnSplitFileAgreesWithSplitOnPlainNodesRow.laid) #[.string ⟨#[]⟩] 8 (World.laidAll_os _ _ _)
      (World.shaped_of_ZipB (by kernel_rfl) (by kernel_rfl)) (by kernel_rfl) (by kernel_rfl) (by kernel_rfl)
      (by rw [MakeChecks.laidMetH_plain _ _ _ (by kernel_rfl)]; exact laidMet_laidAll _ (by kernel_rfl) (by kernel_rfl))) ?_
  intro W base args ds gs before hval0 hW hc _ hL hsh _
  have hval : ∀ (j : Nat) t v, Tryd.f5.params[j]? = some t → args[j]? = some v → Value.okWide Tryd.prog W .any base t v := hval0
  have hW' := hW
  obtain ⟨p, q, hA0, hV, rfl, _, _⟩ := hW
  have hA : DataW.TrodAll enc Tryd.prog W 0 (fun _ => true) true Tryd.f5.params.toList args.toList ds p := hA0
  rw [Tryd.params5] at hA hval
  obtain ⟨v0, vs0, d0, ds0, p0, q0, hargs, rfl, rfl, h0, r0⟩ := trodAll_cons hA
  obtain ⟨rfl, rfl, rfl⟩ := trodAll_nil r0
  obtain rfl : args = #[v0] := by cases args; simp_all
  obtain ⟨rfl, rfl⟩ := trodVars_none hV
  obtain ⟨a0, rfl, rfl, rfl, w0⟩ := open_string Tryd.underlying9 (hval 0 9 v0 rfl rfl) h0
  clear hA0 hval0
  simp only [List.append_nil] at hW'
  refine (hwalk a0 W hsh w0).mono fun e W' ⟨he, hb⟩ => ?_
  subst he
  exact ⟨_, rfl, _, _, _, [], [], [], hW', (trodAll_cons_mk (shut_bool Tryd.underlying4 _) trodAll_mk0), (trodAll_cons_mk (shut_string Tryd.underlying9 w0) trodAll_mk0), rfl, hb.frame _, fun h => by cases h⟩

theorem row_holds (hwalk : Walked) : Rows.FnSplitFileAgreesWithSplitOnPlainNodesSaid :=
  OpenClaim.holds_of_wide 5 Tryd.f5 rfl rfl rfl rfl rfl rfl rfl ⟨rfl, rfl, rfl, rfl, rfl⟩ rfl rfl rfl rfl rfl (by kernel_rfl) Tryd.func5 (by kernel_rfl)
    (of_decide_eq_true (by kernel_rfl)) (by unfold Func.isWrapper; first | (rw [if_pos (by decide +kernel)]; kernel_rfl) | (rw [if_neg (by decide +kernel)]; exact ⟨rfl, rfl⟩))
    (fun os started H enc _ => lifted hwalk os started H enc)
theorem card_holds (hwalk : Walked) : Rows.FnSplitFileAgreesWithSplitOnPlainNodesCardSaid :=
  Claim7.holds_tied_plain_at .later [] [.data, .pinned] true (true, "29759c293c4fd508f5148d4be0370f597d4db6458de136c245f990d06842c241") false (row_holds hwalk) (fun _ h => by cases h) (by kernel_rfl) (fun _ h => by cases h) fnSplitFileAgreesWithSplitOnPlainNodes_row_tie rfl ⟨rfl, rfl⟩ (by kernel_rfl) rfl
    (fun f fn hf hfn => by
      obtain rfl : f = 5 := Option.some.inj ((show Tryd.prog.funcNamed Rows.fnSplitFileAgreesWithSplitOnPlainNodesRow.func = some 5 by kernel_rfl).symm.trans hf) |>.symm
      obtain rfl : fn = Tryd.f5 := (Option.some.inj (Tryd.func5.symm.trans hfn)).symm
      exact ⟨by kernel_rfl, fun j t ht => by
        rw [Tryd.params5] at ht
        have hm : t ∈ [9] := by simpa using Array.mem_of_getElem? ht
        have hall : ([9].all fun u => !Tryd.prog.wantsStandIn u) = true := by kernel_rfl
        exact (show Tryd.prog.wantsStandIn t = false by simpa using List.all_eq_true.1 hall t hm)⟩)
    (by kernel_rfl)
end Go.Proofs.Qxb6603774aDoor.file
