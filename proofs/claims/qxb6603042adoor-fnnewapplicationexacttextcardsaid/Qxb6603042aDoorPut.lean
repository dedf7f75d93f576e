import Derived.Test.Qxb6603042aDoorBlanks
namespace Go.Proofs.Qxb6603042aDoor
open Go.RowKit Pl

theorem Tryd.info5 : (Tryd.prog.info? 5).map (fun i => (i.zero, i.size, i.bytes)) = some (some (.int .u8 0), 1, 1) := by kernel_rfl
theorem Tryd.info9 : (Tryd.prog.info? 9).map (fun i => (i.zero, i.size, i.bytes)) = some (some (.string ⟨#[]⟩), 1, 16) := by kernel_rfl

/-- The world owns, from block B on, a row of bytes that holds l. -/
def OwnB (Bk : Nat) (v : Value) (l : List UInt8) (w : World) : Prop := w.ownsRow Bk 5 1 v l.length (Lib.byteCells l)

theorem byteCells_snoc (l : List UInt8) (c : UInt8) : Lib.byteCells l ++ [.int .u8 c.toNat] = Lib.byteCells (l ++ [c]) := by simp [Lib.byteCells]

set_option maxHeartbeats 400000 in
theorem put_any (Bk : Nat) (v : Value) (l : List UInt8) (s : ByteArray) (w : World) (hs : l.length + s.size ≤ 100000000) (hown : OwnB Bk v l w) (hB : Bk ≤ w.heap.size) :
    Calls Tryd.prog 20 #[v, .string s] w fun e w' => (∃ v', e = .returned v' ∧ OwnB Bk v' (l ++ s.data.toList) w') ∧ Below Bk w w' := by
  obtain ⟨i0, hi, hz0, hz1, hz2⟩ := info_parts Tryd.info5
  have HI : Hid (Unit → _) := fun _ => And.intro hi (And.intro hz0 (And.intro hz1 hz2))
  clear hi hz0 hz1 hz2
  have HOWN : Hid (Unit → _) := fun _ => hown
  clear hown
  go_enter Tryd.func20, Tryd.ntmps20
  go_wp2_with fail
  go_loopw [0, 5] (fun v i wr => ∃ k : Nat, k ≤ s.size ∧ i = .int .i64 k ∧ Hid (Unit → OwnB Bk v (l ++ s.data.toList.take k) wr) ∧ Below Bk w wr) (fun _ i _ => s.size - (intOf i).toNat)
  case atStart => exact ⟨0, Nat.zero_le _, rfl, fun _ => by simpa using HOWN.out (), Below.refl _ _⟩
  case round =>
    obtain ⟨k, hk, rfl, HO, hb⟩ := hrel
    obtain ⟨hi, hz0, hz1, hz2⟩ := HI.out ()
    have hsz := hb.size
    by_cases hlt : k < s.size
    · have hto : l ++ s.data.toList.take (k + 1) = (l ++ s.data.toList.take k) ++ [s[k]] := by
        rw [List.take_add_one, get_byte s k hlt]; simp
      have hll : (l ++ s.data.toList.take k).length ≤ l.length + k := by
        rw [List.length_append]; have := List.length_take_le k s.data.toList; omega
      have HT : Hid (Unit → _) := fun _ => hto
      clear hto
      go_wp2_with (at_builtin; refine wpList_append_own _ rfl _ _ 52 rfl Bk 5 i0 (.int .u8 0) 1 1 Tryd.underlying52 hi hz0 hz1 hz2 rfl (by decide) _ _ _ rfl ((HO.out ()).alloc _) ⟨wr.heap.size, 0, none⟩ 1 1 [.int .u8 s[k].toNat] rfl rfl ?c1 ?c2 ?c3 ?c4 ?c5 ?_)
      case c1 => exact cell_one_new _ _ _
      case c2 => intro u hu; simp at hu; subst hu; rfl
      case c3 => unfold maxLen; omega
      case c4 => omega
      case c5 => simp only [World.size_alloc]; omega
      intro v' w1 hown' hgrow _
      have hb1 : Below Bk w w1 := (hb.alloc (by omega) _).grown hgrow (by simp only [World.size_alloc]; omega) (fun j e => (World.ownsRow.lt (HO.out ()) j e).1)
      have HO1 : Hid (Unit → OwnB Bk v' (l ++ s.data.toList.take (k + 1)) w1) := fun _ => by
        have el : (l ++ s.data.toList.take k ++ [s[k]]).length = l.length + k + 1 := by
          rw [List.length_append, List.length_append, List.length_take, ← Lib.size_eq, Nat.min_eq_left hk]; rfl
        rw [HT.out ()]
        unfold OwnB
        rw [← byteCells_snoc, el]
        exact hown'
      clear hown' hgrow HO hb
      go_wp2
      go_roundw
      case rel => exact ⟨k + 1, by omega, by go_num, HO1, hb1⟩
      case measure => simp [intOf]; omega
    · have he : s.data.toList.take k = s.data.toList := List.take_of_length_le (by rw [← Lib.size_eq]; omega)
      have HO1 : Hid (Unit → OwnB Bk u0 (l ++ s.data.toList) wr) := fun _ => by rw [← he]; exact HO.out ()
      clear HO he
      go_wp2
      go_ret
      exact ⟨⟨_, rfl, HO1.out ()⟩, hb⟩
end Go.Proofs.Qxb6603042aDoor
