import Derived.Test.Qxb6603042aDoorLike
import Derived.Test.Qxb6603042aDoorLikeB
import Derived.Test.Qxb6603042aDoorCopied
import Derived.Test.Qxb6603042aDoorLiftExact
import Derived.Shelf.Vars
namespace Go.Proofs.Qxb6603042aDoor.exact
open Go.RowKit Pl

/-- NewApplication where like has a block: by the line model. -/
theorem app_like (name c x nm fl tl : ByteArray) (ln : Int) (ol bl : Nat) (m : Int) (w : World) (hn : name.size ≤ 4000000) (hc : c.size ≤ 4000000) (hx : x.size ≤ 4000000) (hnm : nm.size ≤ 4000000) (htl : tl.size ≤ 4000000) (hol : ol + 1 ≤ tl.size)
    (hm : w.cell? ⟨0, 0, none⟩ = some (.int .i64 m)) (k0 : w.cell? ⟨bl, 0, none⟩ = some (.string nm)) (k2 : w.cell? ⟨bl, 2, none⟩ = some (.string fl)) (k3 : w.cell? ⟨bl, 3, none⟩ = some (.int .i64 ln)) (k4 : w.cell? ⟨bl, 4, none⟩ = some (.string tl)) (k5 : w.cell? ⟨bl, 5, none⟩ = some (.int .i64 ol)) :
    Calls Tryd.prog 6 #[.string name, .agg #[.string c, .string x], .pointer (some ⟨bl, 0, none⟩)] w fun e w' =>
      e = .returned (.agg #[.string ⟨#[]⟩, .int .i64 0, .string (B (if moreB (modelL (tl.extract ol (tl.size - 1)).data.toList) = true then (freshL name.data.toList c.data.toList x.data.toList).dropLast ++ commentL nm.data.toList ++ modelL (tl.extract ol (tl.size - 1)).data.toList ++ [125] else freshL name.data.toList c.data.toList x.data.toList)), .int .i64 (12 + name.size + 2)]) ∧ Below w.heap.size w w' := by
  rw [← app_model]
  obtain ⟨x0, r, h⟩ := splitL_cons 10 (Lib.trimRightS (tl.extract ol (tl.size - 1)).data.toList [32, 9, 13])
  by_cases hx0 : Lib.trimS x0 [32, 9, 13] = []
  · exact app_like_a name c x nm fl tl ln ol bl m w hn hc hx hnm htl hol hm k0 k2 k3 k4 k5 x0 r h hx0
  · exact app_like_b name c x nm fl tl ln ol bl m w hn hc hx hnm htl hol hm k0 k2 k3 k4 k5 x0 r h hx0

set_option maxHeartbeats 2000000 in
/-- NewApplication where like has no block. -/
theorem app_empty (name c x : ByteArray) (tl : ByteArray) (bl : Nat) (m : Int) (w : World) (hn : name.size ≤ 4000000) (hc : c.size ≤ 4000000) (hx : x.size ≤ 4000000) (hm : w.cell? ⟨0, 0, none⟩ = some (.int .i64 m)) (k4 : w.cell? ⟨bl, 4, none⟩ = some (.string tl)) (htl : tl.toList.isEmpty = true) :
    Calls Tryd.prog 6 #[.string name, .agg #[.string c, .string x], .pointer (some ⟨bl, 0, none⟩)] w fun e w' =>
      e = .returned (.agg #[.string ⟨#[]⟩, .int .i64 0, .string (B (freshL name.data.toList c.data.toList x.data.toList)), .int .i64 (12 + name.size + 2)]) ∧ Below w.heap.size w w' := by
  have hlt : 0 < w.heap.size := World.block_lt_of_cell? _ _ hm
  have hbl : bl < w.heap.size := World.block_lt_of_cell? _ _ k4
  have HK : Hid (Unit → _) := fun _ => k4
  clear k4
  go_enter Tryd.func6, Tryd.ntmps6
  go_wp2_with fail
  refine (extended_fresh name c x _ _ _ m _ (by rw [app_data, app_data]; rfl) hn hc hx (by omega) ?_ ?_ ?_).mono ?_
  · go_cell
  · go_cell
  · go_cell
  rintro e w1 ⟨rfl, hb1⟩
  obtain ⟨hcl, hfz⟩ := bcell hb1
  have hz := hb1.size
  simp only [World.size_alloc] at hz hcl hfz
  have hb0 : Below w.heap.size w w1 := by
    refine Below.trans ?_ (hb1.mono (by simp only [World.size_alloc]; omega))
    go_grown
  clear hb1
  have k1 := cell_later hb0 (HK.out ())
  go_wp2_with fail
  refine bodyPost_ret (v := .agg #[.string ⟨#[]⟩, .int .i64 0, .string (B (freshL name.data.toList c.data.toList x.data.toList)), .int .i64 (12 + name.size + 2)]) (by simp [results, Tryd.results6, go_sem, hcl]) rfl ⟨rfl, ?_⟩
  go_grown

set_option maxHeartbeats 1000000 in
theorem bytes9_any (a b c e f h : ByteArray) (d : Bool) (g i : Int) (w : World) (ha : a.size ≤ 9223372036854775807) (hb : b.size ≤ 9223372036854775807) (hc : c.size ≤ 9223372036854775807) (he : e.size ≤ 9223372036854775807) (hf : f.size ≤ 9223372036854775807) (hh : h.size ≤ 9223372036854775807) :
    Calls Tryd.prog 5 #[.string a, .string b, .string c, .bool d, .string e, .string f, .int .i64 g, .string h, .int .i64 i] w fun r w' => (∃ y, r = .returned (.bool y)) ∧ w' = w := by
  go_enter Tryd.func5, Tryd.ntmps5
  go_wp2
  all_goals
    go_ret
    exact ⟨⟨_, rfl⟩, rfl⟩
end Go.Proofs.Qxb6603042aDoor.exact
