import Derived.Test.Qxb6603042aDoorLib
import Derived.Handy
import Derived.WalkSpells
import Derived.WalkLawsBesides
namespace Go.Proofs.Qxb6603042aDoor
open Go.RowKit Pl

theorem ret_string {a b : List UInt8} (h : a = b) : Ending.returned (.string (B a)) = .returned (.string (B b)) := by rw [h]
theorem isEmpty_B (l : List UInt8) : (B l).toList.isEmpty = l.isEmpty := by rw [Lib.toList_data, B_data]

set_option maxHeartbeats 400000 in
theorem indent_any (fl t : ByteArray) (ln : Int) (o : Nat) (m : Int) (w : World) (ht : t.size ≤ 4294967) (ho : o + 1 ≤ t.size) (hm : w.cell? ⟨0, 0, none⟩ = some (.int .i64 m)) :
    Calls Tryd.prog 14 #[.agg #[.string fl, .int .i64 ln, .string t, .int .i64 o]] w fun e w' => e = .returned (.string (B (indentL (t.extract o (t.size - 1)).data.toList))) ∧ Below w.heap.size w w' := by
  have hsz : (t.extract o (t.size - 1)).data.toList.length ≤ 4294967 := by rw [← Lib.size_eq, ByteArray.size_extract]; omega
  obtain ⟨x, r, hxr⟩ := splitL_cons 10 (t.extract o (t.size - 1)).data.toList
  have hrl : r.length ≤ 4294967 := by have := splitL_pieces_le 10 (t.extract o (t.size - 1)).data.toList; rw [hxr, List.length_cons] at this; omega
  have HP : Hid (∀ y ∈ r, y.length ≤ 4294967) := fun y hy => by
    have := splitL_piece 10 (t.extract o (t.size - 1)).data.toList y (by rw [hxr]; simp [hy]); omega
  have HI : Hid (indentL (t.extract o (t.size - 1)).data.toList = indentLines r) := by
    show indentLines _ = _; rw [hxr]; rfl
  have hsp := split_c (t.extract o (t.size - 1)) 10 m (w.alloc (.cells #[.string fl, .int .i64 ln, .string t, .int .i64 o] 27)) (by rw [ByteArray.size_extract]; omega) (cell_later ((Below.refl _ _).alloc (Nat.le_refl _) _) hm)
  rw [hxr] at hsp
  clear hxr hsz hm
  by_cases hr : r = []
  · subst hr
    go_enter Tryd.func14, Tryd.ntmps14
    go_wp2_with fail
    refine hsp.mono ?_
    rintro e w1 ⟨rfl, rfl⟩
    clear hsp
    go_wp2_with fail
    go_rounds 1
    go_ret
    exact ⟨by rw [HI.out]; rfl, ((Below.refl _ _).alloc (Nat.le_refl _) _).alloc (by simp) _⟩
  · go_enter Tryd.func14, Tryd.ntmps14
    go_wp2_with fail
    refine hsp.mono ?_
    rintro e w1 ⟨rfl, rfl⟩
    clear hsp
    have hcells := Lib.pieces_cell_at (w.alloc (.cells #[.string fl, .int .i64 ln, .string t, .int .i64 o] 27)) ((x :: r).map B) 9
    generalize hW1 : (w.alloc (.cells #[.string fl, .int .i64 ln, .string t, .int .i64 o] 27)).alloc (.cells (((x :: r).map B).map Value.string).toArray 9) = W1 at hcells ⊢
    have hs1 : w.heap.size + 2 ≤ W1.heap.size := by rw [← hW1]; simp
    have hb1 : Below w.heap.size w W1 := by rw [← hW1]; exact ((Below.refl _ _).alloc (Nat.le_refl _) _).alloc (by simp) _
    clear hW1
    have HC : Hid _ := hcells; clear hcells
    go_wp2_with fail
    go_loopw [20] (fun i wr => ∃ k : Nat, k ≤ r.length ∧ i = .int .i64 k ∧ indentLines r = indentLines (r.drop k) ∧ Below (w.heap.size + 2) W1 wr) (fun i _ => r.length - (intOf i).toNat)
    case atStart => exact ⟨0, Nat.zero_le _, rfl, rfl, Below.refl _ _⟩
    case round =>
      obtain ⟨k, hk, rfl, HK0, hb⟩ := hrel
      have HK : Hid _ := HK0; clear HK0
      have hsw := hb.size
      by_cases hlt : k < r.length
      · obtain ⟨y, hy⟩ : ∃ y, r[k]? = some y := ⟨r[k], List.getElem?_eq_getElem hlt⟩
        have hyl := HP.out y (List.mem_of_getElem? hy)
        have hc : wr.cell? ⟨w.heap.size + 1, 1 + k, none⟩ = some (.string (B y)) := by
          rw [hb.cell (p := ⟨w.heap.size + 1, 1 + k, none⟩) (by show w.heap.size + 1 < _; omega)]
          have := HC.out (1 + k) (B y) (by rw [Nat.add_comm 1 k]; simp [hy])
          simpa using this
        have htl := fun W => trimLeft_c (B y) W
        rw [B_data] at htl
        have hzl := trimLeftS_le y [32, 9, 13]
        have e1 := indent_skip r k y hy
        have e2 := indent_hit r k y hy
        clear hy
        generalize Lib.trimLeftS y [32, 9, 13] = z at htl hzl e1 e2
        have HE1 : Hid _ := e1; have HE2 : Hid _ := e2; clear e1 e2
        rw [← B_size, ← B_size y] at hzl
        rw [← B_size] at hyl
        by_cases hz : z = []
        · have hz0 : (B z).toList.isEmpty = true := by rw [isEmpty_B, hz]; rfl
          have HE : Hid _ := HK.out.trans (HE1.out hz)
          clear HE1 HE2 hz
          go_wp2_with fail
          refine (htl _).mono ?_
          rintro e w2 ⟨rfl, hb2⟩
          clear htl
          go_wp2_with fail
          go_roundw
          case rel => exact ⟨k + 1, by omega, by go_num, HE.out, hb.trans (hb2.mono (by omega))⟩
          case measure => simp [intOf]; omega
        · have hz0 : (B z).toList.isEmpty = false := by rw [isEmpty_B]; cases z with | nil => exact absurd rfl hz | cons _ _ => rfl
          have HE : Hid _ := HK.out.trans (HE2.out hz)
          clear HE1 HE2 hz
          go_wp2_with fail
          refine (htl _).mono ?_
          rintro e w2 ⟨rfl, hb2⟩
          clear htl
          go_wp2_with fail
          go_ret
          refine ⟨?_, hb1.trans ((hb.trans (hb2.mono (by omega))).mono (by omega))⟩
          rw [HI.out, HE.out, B_extract]
          refine ret_string ?_
          rw [List.drop_zero, B_size, B_size]
          congr 1
      · have HE : Hid (indentLines r = [32, 32, 32, 32]) := by
          show _ = _
          rw [HK.out, List.drop_eq_nil_of_le (by omega)]; rfl
        go_wp2_with fail
        go_ret
        exact ⟨by rw [HI.out, HE.out]; rfl, hb1.trans (hb.mono (by omega))⟩
end Go.Proofs.Qxb6603042aDoor
