import Derived.Test.Qxb6603042aDoorExtended
namespace Go.Proofs.Qxb6603042aDoor
open Go.RowKit Pl

theorem bcell {n : Nat} {W w1 : World} (hb : Below n W w1) : (∀ b o, b < n → w1.cell? ⟨b, o, none⟩ = W.cell? ⟨b, o, none⟩) ∧ (∀ b o, b < n → w1.frozen? ⟨b, o, none⟩ = W.frozen? ⟨b, o, none⟩) :=
  ⟨fun b o h => hb.cell (p := ⟨b, o, none⟩) h, fun b o h => hb.frozen (p := ⟨b, o, none⟩) h⟩

/-- Extended at the block that NewApplication has just made. -/
theorem extended_fresh (name c x H : ByteArray) (oi : Int) (bs : Nat) (m : Int) (w : World) (hH : H.data.toList = headL name.data.toList) (hn : name.size ≤ 4000000) (hc : c.size ≤ 4000000) (hx : x.size ≤ 4000000) (hoi : oi = name.size + 14)
    (hm : w.cell? ⟨0, 0, none⟩ = some (.int .i64 m)) (h0 : w.cell? ⟨bs, 0, none⟩ = some (.string c)) (h1 : w.cell? ⟨bs, 1, none⟩ = some (.string x)) :
    Calls Tryd.prog 10 #[.agg #[.string ⟨#[]⟩, .int .i64 0, .string (H ++ ⟨#[10, 125]⟩), .int .i64 oi], .slice (some ⟨bs, 0, none⟩) 1 1] w fun e w' =>
      e = .returned (.string (B (freshL name.data.toList c.data.toList x.data.toList))) ∧ Below w.heap.size w w' := by
  have hs : H.size = name.size + 14 := by rw [Lib.size_eq, hH, Lib.size_eq name]; simp [headL]
  obtain rfl : oi = H.size := by omega
  have ha : (H ++ ⟨#[10, 125]⟩ : ByteArray).size = H.size + 2 := by rw [app_size]; rfl
  have hd : (H ++ ⟨#[10, 125]⟩ : ByteArray).data.toList = H.data.toList ++ [10, 125] := by rw [app_data]
  have e1 : ((H ++ ⟨#[10, 125]⟩ : ByteArray).extract 0 ((H ++ ⟨#[10, 125]⟩ : ByteArray).size - 1)).data.toList = headL name.data.toList ++ [10] := by
    rw [Lib.extract_data, ha, hd, List.drop_zero, ← hH, show H.size + 2 - 1 - 0 = H.data.toList.length + 1 by rw [← Lib.size_eq]; omega, List.take_length_add_append]
    rfl
  have e2 : ((H ++ ⟨#[10, 125]⟩ : ByteArray).extract H.size ((H ++ ⟨#[10, 125]⟩ : ByteArray).size - 1)).data.toList = [10] := by
    rw [Lib.extract_data, ha, hd, show H.size = H.data.toList.length from Lib.size_eq H]
    simp
  have h := extended_any ⟨#[]⟩ (H ++ ⟨#[10, 125]⟩) c x 0 H.size bs m w (by omega) (by omega) (by omega) (by omega) hm h0 h1 (by rw [e1, trimRightS_nl]; exact hasSuffix_nl _)
  rw [e1, e2, trimRightS_nl, indentL_nl, freshL_ext] at h
  exact h

set_option maxHeartbeats 2000000 in
theorem app_nil (name c x : ByteArray) (m : Int) (w : World) (hn : name.size ≤ 4000000) (hc : c.size ≤ 4000000) (hx : x.size ≤ 4000000) (hm : w.cell? ⟨0, 0, none⟩ = some (.int .i64 m)) :
    Calls Tryd.prog 6 #[.string name, .agg #[.string c, .string x], .pointer Option.none] w fun e w' =>
      e = .returned (.agg #[.string ⟨#[]⟩, .int .i64 0, .string (B (freshL name.data.toList c.data.toList x.data.toList)), .int .i64 (12 + name.size + 2)]) ∧ Below w.heap.size w w' := by
  have hlt : 0 < w.heap.size := World.block_lt_of_cell? _ _ hm
  go_enter Tryd.func6, Tryd.ntmps6
  go_wp2_with fail
  refine (extended_fresh name c x _ _ _ m _ (by rw [app_data, app_data]; rfl) hn hc hx (by omega) ?_ ?_ ?_).mono ?_
  · go_cell
  · go_cell
  · go_cell
  rintro e w1 ⟨rfl, hb1⟩
  obtain ⟨hcl, hfz⟩ := bcell hb1
  have hz := hb1.size
  simp only [World.size_alloc] at hz hcl hfz
  have hb0 : Below w.heap.size w w1 := by
    refine Below.trans ?_ (hb1.mono (by simp only [World.size_alloc]; omega))
    go_grown
  clear hb1
  go_wp2_with fail
  refine bodyPost_ret (v := .agg #[.string ⟨#[]⟩, .int .i64 0, .string (B (freshL name.data.toList c.data.toList x.data.toList)), .int .i64 (12 + name.size + 2)]) (by simp [results, Tryd.results6, go_sem, hcl]) rfl ⟨rfl, ?_⟩
  go_grown
end Go.Proofs.Qxb6603042aDoor
