import Derived.Test.Qxb6603906aDoorFrame
import Derived.Test.Qxb6603906aDoorCards
import Derived.Test.Qxb6603906aDoorTie
namespace Go.Proofs.Qxb6603906aDoor.trip
open Go.ChangeShapes Go.WideShapes Go.ChangeAt Go.RowKit
open Go.ChangeMaps (open_string shut_string)
set_option linter.unusedVariables false
/-- What the walk gives: the Go function returns true and leaves all that was there. -/
def Walked : Prop := ∀ (a0 : Bool) (a1 : ByteArray) (a2 : Int) (W : World), W.ShapedOpen Tryd.prog → a1.size ≤ maxLen → (Lit.int .i64 a2).wf = true → Calls Tryd.prog 4 #[.bool a0, .string a1, .int .i64 a2] W fun e w' => e = .returned (.bool true) ∧ Below W.heap.size W w'

set_option maxRecDepth 100000 in
theorem lifted (hwalk : Walked) (os : Os) (started : os.Started) (H : Type) (enc : TypeId × Value → H) :
    ReturnsInHanded {} Tryd.checked os 4 .any (fun w args => (Rows.fnAppendTextParseRoundTripSpec.pre enc Tryd.prog Tryd.f4 Rows.fnAppendTextParseRoundTripRow.domain false w args ∧ laidMetH Tryd.prog Rows.fnAppendTextParseRoundTripRow.laid w) ∧ sizedMet enc Tryd.prog Tryd.f4 (OpenSpec.ofChange Rows.fnAppendTextParseRoundTripSpec) false w args)
      (Rows.fnAppendTextParseRoundTripSpec.post enc Tryd.prog Tryd.f4 false true false false) := by
  refine Frame.returns_laid_shaped (C := Tryd.checked) (X := fun w _ => laidMetH Tryd.prog Rows.fnAppendTextParseRoundTripRow.laid w) (fun _ _ _ hh h => h.of_heap hh) Frame.own started (by kernel_rfl) Tryd.func4
    (ChangeSpec.witness_shaped (enc := enc) (C := Tryd.checked) (os := os) (X := fun w _ => laidMetH Tryd.prog Rows.fnAppendTextParseRoundTripRow.laid w) false (World.laidAll Tryd.prog os Rows.fnAppendTextParseRoundTripRow.laid) #[.bool false, .string ⟨#[]⟩, .int .i64 0] 8 (World.laidAll_os _ _ _)
      (World.shaped_of_ZipB (by kernel_rfl) (by kernel_rfl)) (by kernel_rfl) (by kernel_rfl) (by kernel_rfl)
      (by rw [MakeChecks.laidMetH_plain _ _ _ (by kernel_rfl)]; exact laidMet_laidAll _ (by kernel_rfl) (by kernel_rfl))) ?_
  intro W base args ds gs before hval0 hW hc _ hL hsh _
  have hval : ∀ (j : Nat) t v, Tryd.f4.params[j]? = some t → args[j]? = some v → Value.okWide Tryd.prog W .any base t v := hval0
  have hW' := hW
  obtain ⟨p, q, hA0, hV, rfl, _, _⟩ := hW
  have hA : DataW.TrodAll enc Tryd.prog W 0 (fun _ => true) true Tryd.f4.params.toList args.toList ds p := hA0
  rw [Tryd.params4] at hA hval
  obtain ⟨v0, vs0, d0, ds0, p0, q0, hargs, rfl, rfl, h0, r0⟩ := trodAll_cons hA
  obtain ⟨v1, vs1, d1, ds1, p1, q1, rfl, rfl, rfl, h1, r1⟩ := trodAll_cons r0
  obtain ⟨v2, vs2, d2, ds2, p2, q2, rfl, rfl, rfl, h2, r2⟩ := trodAll_cons r1
  obtain ⟨rfl, rfl, rfl⟩ := trodAll_nil r2
  obtain rfl : args = #[v0, v1, v2] := by cases args; simp_all
  obtain ⟨rfl, rfl⟩ := trodVars_none hV
  obtain ⟨a0, rfl, rfl, rfl⟩ := open_bool Tryd.underlying4 (hval 0 4 v0 rfl rfl) h0
  obtain ⟨a1, rfl, rfl, rfl, w1⟩ := open_string Tryd.underlying9 (hval 1 9 v1 rfl rfl) h1
  obtain ⟨a2, rfl, rfl, rfl, w2⟩ := open_int Tryd.underlying3 (hval 2 3 v2 rfl rfl) h2
  clear hA0 hval0
  simp only [List.append_nil] at hW'
  refine (hwalk a0 a1 a2 W hsh w1 w2).mono fun e W' ⟨he, hb⟩ => ?_
  subst he
  exact ⟨_, rfl, _, _, _, [], [], [], hW', (trodAll_cons_mk (shut_bool Tryd.underlying4 _) trodAll_mk0), (trodAll_cons_mk (shut_bool Tryd.underlying4 a0) (trodAll_cons_mk (shut_string Tryd.underlying9 w1) (trodAll_cons_mk (shut_int Tryd.underlying3 w2) trodAll_mk0))), rfl, hb.frame _, fun h => by cases h⟩

theorem row_holds (hwalk : Walked) : Rows.FnAppendTextParseRoundTripSaid :=
  OpenClaim.holds_of_wide 4 Tryd.f4 rfl rfl rfl rfl rfl rfl rfl ⟨rfl, rfl, rfl, rfl, rfl⟩ rfl rfl rfl rfl rfl (by kernel_rfl) Tryd.func4 (by kernel_rfl)
    (of_decide_eq_true (by kernel_rfl)) (by unfold Func.isWrapper; first | (rw [if_pos (by decide +kernel)]; kernel_rfl) | (rw [if_neg (by decide +kernel)]; exact ⟨rfl, rfl⟩))
    (fun os started H enc _ => lifted hwalk os started H enc)
theorem card_holds (hwalk : Walked) : Rows.FnAppendTextParseRoundTripCardSaid :=
  Claim7.holds_tied_plain_at .later [] [.data, .pinned] true (true, "594052b2551727886cef3365ef04a9cf743e8d3fde1242c66bda7b55e9604bcb") false (row_holds hwalk) (fun _ h => by cases h) (by kernel_rfl) (fun _ h => by cases h) fnAppendTextParseRoundTrip_row_tie rfl ⟨rfl, rfl⟩ (by kernel_rfl) rfl
    (fun f fn hf hfn => by
      obtain rfl : f = 4 := Option.some.inj ((show Tryd.prog.funcNamed Rows.fnAppendTextParseRoundTripRow.func = some 4 by kernel_rfl).symm.trans hf) |>.symm
      obtain rfl : fn = Tryd.f4 := (Option.some.inj (Tryd.func4.symm.trans hfn)).symm
      exact ⟨by kernel_rfl, fun j t ht => by
        rw [Tryd.params4] at ht
        have hm : t ∈ [4, 9, 3] := by simpa using Array.mem_of_getElem? ht
        have hall : ([4, 9, 3].all fun u => !Tryd.prog.wantsStandIn u) = true := by kernel_rfl
        exact (show Tryd.prog.wantsStandIn t = false by simpa using List.all_eq_true.1 hall t hm)⟩)
    (by kernel_rfl)
end Go.Proofs.Qxb6603906aDoor.trip
