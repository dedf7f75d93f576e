import Derived.Test.Qxb6603042aDoorFrame
import Derived.Test.Qxb6603042aDoorCards
import Derived.Test.Qxb6603042aDoorTie
namespace Go.Proofs.Qxb6603042aDoor.exact
open Go.ChangeShapes Go.WideShapes Go.ChangeAt Go.RowKit
open Go.ChangeMaps (open_string shut_string)
set_option linter.unusedVariables false
/-- What the walk gives: the Go function returns true and leaves all that was there. -/
def Walked : Prop := ∀ (a0 : ByteArray) (a1 : ByteArray) (a2 : ByteArray) (a3 : Bool) (a4 : ByteArray) (a5 : ByteArray) (a6 : Int) (a7 : ByteArray) (a8 : Int) (W : World), W.ShapedOpen Tryd.prog → a0.size ≤ maxLen → a1.size ≤ maxLen → a2.size ≤ maxLen → a4.size ≤ maxLen → a5.size ≤ maxLen → (Lit.int .i64 a6).wf = true → a7.size ≤ maxLen → (Lit.int .i64 a8).wf = true → Calls Tryd.prog 3 #[.string a0, .string a1, .string a2, .bool a3, .string a4, .string a5, .int .i64 a6, .string a7, .int .i64 a8] W fun e w' => e = .returned (.bool true) ∧ Below W.heap.size W w'

set_option maxRecDepth 100000 in
theorem lifted (hwalk : Walked) (os : Os) (started : os.Started) (H : Type) (enc : TypeId × Value → H) :
    ReturnsInHanded {} Tryd.checked os 3 .any (fun w args => (Rows.fnNewApplicationExactTextSpec.pre enc Tryd.prog Tryd.f3 Rows.fnNewApplicationExactTextRow.domain false w args ∧ laidMetH Tryd.prog Rows.fnNewApplicationExactTextRow.laid w) ∧ sizedMet enc Tryd.prog Tryd.f3 (OpenSpec.ofChange Rows.fnNewApplicationExactTextSpec) false w args)
      (Rows.fnNewApplicationExactTextSpec.post enc Tryd.prog Tryd.f3 false true false false) := by
  refine Frame.returns_laid_shaped (C := Tryd.checked) (X := fun w _ => laidMetH Tryd.prog Rows.fnNewApplicationExactTextRow.laid w) (fun _ _ _ hh h => h.of_heap hh) Frame.own started (by kernel_rfl) Tryd.func3
    (ChangeSpec.witness_shaped (enc := enc) (C := Tryd.checked) (os := os) (X := fun w _ => laidMetH Tryd.prog Rows.fnNewApplicationExactTextRow.laid w) false (World.laidAll Tryd.prog os Rows.fnNewApplicationExactTextRow.laid) #[.string ⟨#[]⟩, .string ⟨#[]⟩, .string ⟨#[]⟩, .bool false, .string ⟨#[]⟩, .string ⟨#[]⟩, .int .i64 0, .string ⟨#[]⟩, .int .i64 0] 8 (World.laidAll_os _ _ _)
      (World.shaped_of_ZipB (by kernel_rfl) (by kernel_rfl)) (by kernel_rfl) (by kernel_rfl) (by kernel_rfl)
      (by rw [MakeChecks.laidMetH_plain _ _ _ (by kernel_rfl)]; exact laidMet_laidAll _ (by kernel_rfl) (by kernel_rfl))) ?_
  intro W base args ds gs before hval0 hW hc _ hL hsh _
  have hval : ∀ (j : Nat) t v, Tryd.f3.params[j]? = some t → args[j]? = some v → Value.okWide Tryd.prog W .any base t v := hval0
  have hW' := hW
  obtain ⟨p, q, hA0, hV, rfl, _, _⟩ := hW
  have hA : DataW.TrodAll enc Tryd.prog W 0 (fun _ => true) true Tryd.f3.params.toList args.toList ds p := hA0
  rw [Tryd.params3] at hA hval
  obtain ⟨v0, vs0, d0, ds0, p0, q0, hargs, rfl, rfl, h0, r0⟩ := trodAll_cons hA
  obtain ⟨v1, vs1, d1, ds1, p1, q1, rfl, rfl, rfl, h1, r1⟩ := trodAll_cons r0
  obtain ⟨v2, vs2, d2, ds2, p2, q2, rfl, rfl, rfl, h2, r2⟩ := trodAll_cons r1
  obtain ⟨v3, vs3, d3, ds3, p3, q3, rfl, rfl, rfl, h3, r3⟩ := trodAll_cons r2
  obtain ⟨v4, vs4, d4, ds4, p4, q4, rfl, rfl, rfl, h4, r4⟩ := trodAll_cons r3
  obtain ⟨v5, vs5, d5, ds5, p5, q5, rfl, rfl, rfl, h5, r5⟩ := trodAll_cons r4
  obtain ⟨v6, vs6, d6, ds6, p6, q6, rfl, rfl, rfl, h6, r6⟩ := trodAll_cons r5
  obtain ⟨v7, vs7, d7, ds7, p7, q7, rfl, rfl, rfl, h7, r7⟩ := trodAll_cons r6
  obtain ⟨v8, vs8, d8, ds8, p8, q8, rfl, rfl, rfl, h8, r8⟩ := trodAll_cons r7
  obtain ⟨rfl, rfl, rfl⟩ := trodAll_nil r8
  obtain rfl : args = #[v0, v1, v2, v3, v4, v5, v6, v7, v8] := by cases args; simp_all
  obtain ⟨rfl, rfl⟩ := trodVars_none hV
  obtain ⟨a0, rfl, rfl, rfl, w0⟩ := open_string Tryd.underlying9 (hval 0 9 v0 rfl rfl) h0
  obtain ⟨a1, rfl, rfl, rfl, w1⟩ := open_string Tryd.underlying9 (hval 1 9 v1 rfl rfl) h1
  obtain ⟨a2, rfl, rfl, rfl, w2⟩ := open_string Tryd.underlying9 (hval 2 9 v2 rfl rfl) h2
  obtain ⟨a3, rfl, rfl, rfl⟩ := open_bool Tryd.underlying4 (hval 3 4 v3 rfl rfl) h3
  obtain ⟨a4, rfl, rfl, rfl, w4⟩ := open_string Tryd.underlying9 (hval 4 9 v4 rfl rfl) h4
  obtain ⟨a5, rfl, rfl, rfl, w5⟩ := open_string Tryd.underlying9 (hval 5 9 v5 rfl rfl) h5
  obtain ⟨a6, rfl, rfl, rfl, w6⟩ := open_int Tryd.underlying3 (hval 6 3 v6 rfl rfl) h6
  obtain ⟨a7, rfl, rfl, rfl, w7⟩ := open_string Tryd.underlying9 (hval 7 9 v7 rfl rfl) h7
  obtain ⟨a8, rfl, rfl, rfl, w8⟩ := open_int Tryd.underlying3 (hval 8 3 v8 rfl rfl) h8
  clear hA0 hval0
  simp only [List.append_nil] at hW'
  refine (hwalk a0 a1 a2 a3 a4 a5 a6 a7 a8 W hsh w0 w1 w2 w4 w5 w6 w7 w8).mono fun e W' ⟨he, hb⟩ => ?_
  subst he
  exact ⟨_, rfl, _, _, _, [], [], [], hW', (trodAll_cons_mk (shut_bool Tryd.underlying4 _) trodAll_mk0), (trodAll_cons_mk (shut_string Tryd.underlying9 w0) (trodAll_cons_mk (shut_string Tryd.underlying9 w1) (trodAll_cons_mk (shut_string Tryd.underlying9 w2) (trodAll_cons_mk (shut_bool Tryd.underlying4 a3) (trodAll_cons_mk (shut_string Tryd.underlying9 w4) (trodAll_cons_mk (shut_string Tryd.underlying9 w5) (trodAll_cons_mk (shut_int Tryd.underlying3 w6) (trodAll_cons_mk (shut_string Tryd.underlying9 w7) (trodAll_cons_mk (shut_int Tryd.underlying3 w8) trodAll_mk0))))))))), rfl, hb.frame _, fun h => by cases h⟩

theorem row_holds (hwalk : Walked) : Rows.FnNewApplicationExactTextSaid :=
  OpenClaim.holds_of_wide 3 Tryd.f3 rfl rfl rfl rfl rfl rfl rfl ⟨rfl, rfl, rfl, rfl, rfl⟩ rfl rfl rfl rfl rfl (by kernel_rfl) Tryd.func3 (by kernel_rfl)
    (of_decide_eq_true (by kernel_rfl)) (by unfold Func.isWrapper; first | (rw [if_pos (by decide +kernel)]; kernel_rfl) | (rw [if_neg (by decide +kernel)]; exact ⟨rfl, rfl⟩))
    (fun os started H enc _ => lifted hwalk os started H enc)
theorem card_holds (hwalk : Walked) : Rows.FnNewApplicationExactTextCardSaid :=
  Claim7.holds_tied_plain_at .later [] [.data, .pinned] true (true, "a602a91377a71d14fafb45ea7d73131cefa22765e740a3303856e14f706b3331") false (row_holds hwalk) (fun _ h => by cases h) (by kernel_rfl) (fun _ h => by cases h) fnNewApplicationExactText_row_tie rfl ⟨rfl, rfl⟩ (by kernel_rfl) rfl
    (fun f fn hf hfn => by
      obtain rfl : f = 3 := Option.some.inj ((show Tryd.prog.funcNamed Rows.fnNewApplicationExactTextRow.func = some 3 by kernel_rfl).symm.trans hf) |>.symm
      obtain rfl : fn = Tryd.f3 := (Option.some.inj (Tryd.func3.symm.trans hfn)).symm
      exact ⟨by kernel_rfl, fun j t ht => by
        rw [Tryd.params3] at ht
        have hm : t ∈ [9, 9, 9, 4, 9, 9, 3, 9, 3] := by simpa using Array.mem_of_getElem? ht
        have hall : ([9, 9, 9, 4, 9, 9, 3, 9, 3].all fun u => !Tryd.prog.wantsStandIn u) = true := by kernel_rfl
        exact (show Tryd.prog.wantsStandIn t = false by simpa using List.all_eq_true.1 hall t hm)⟩)
    (by kernel_rfl)
end Go.Proofs.Qxb6603042aDoor.exact
