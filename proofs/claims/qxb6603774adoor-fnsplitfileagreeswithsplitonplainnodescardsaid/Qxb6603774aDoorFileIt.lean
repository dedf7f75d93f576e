import Derived.RangeFuncNested
import Derived.RangeFuncBound
import Derived.RangeFuncCalls
import Derived.RangeFuncLeaves
import Derived.RangeFuncBox
import Derived.Maps.AppendAt
import Derived.Shelf.Abstract
import Derived.Shelf.RegionOpen
import Derived.WalkKit
import Derived.OwnWalkIn
import Derived.TacticsInMore
import Derived.LoopNIn
import Derived.LoopIn
import Derived.Test.Qxb6603774aDoorWalkA
import Derived.Test.Qxb6603774aDoorShelfI
namespace Go.Proofs.Qxb6603774aDoor
open Go.RowKit Go.Shelf Pl
attribute [local go_sem] Oper.semAt_some

theorem index_no (c : UInt8) : ∀ l : List UInt8, c ∉ l → Lib.indexByte l c = -1
  | [], _ => rfl
  | b :: l, h => by
    have hb : (b == c) = false := by simpa using fun e => h (by simp [e])
    have ih := index_no c l (fun hm => h (List.mem_cons_of_mem _ hm))
    rw [Lib.indexByte, hb, ih]; rfl
theorem index_yes (c : UInt8) (t : List UInt8) : ∀ y : List UInt8, c ∉ y → Lib.indexByte (y ++ c :: t) c = (y.length : Int)
  | [], _ => by simp [Lib.indexByte]
  | b :: y, h => by
    have hb : (b == c) = false := by simpa using fun e => h (by simp [e])
    have ih := index_yes c t y (fun hm => h (List.mem_cons_of_mem _ hm))
    have hn : ((y.length : Int) == -1) = false := beq_eq_false_iff_ne.2 (by omega)
    rw [List.cons_append, Lib.indexByte, hb, ih]
    simp only [Bool.false_eq_true, if_false, hn, List.length_cons]
    omega
theorem part (c : UInt8) : ∀ l : List UInt8, c ∉ l ∨ ∃ y t, l = y ++ c :: t ∧ c ∉ y
  | [] => .inl (by simp)
  | b :: l => by
    by_cases e : b = c
    · exact .inr ⟨[], l, by rw [e]; rfl, by simp⟩
    · rcases part c l with h | ⟨y, t, rfl, h⟩
      · exact .inl (by simp only [List.mem_cons, not_or]; exact ⟨fun x => e x.symm, h⟩)
      · exact .inr ⟨b :: y, t, rfl, by simp only [List.mem_cons, not_or]; exact ⟨fun x => e x.symm, h⟩⟩

/-- How much of the text is still to come, read off the world. -/
def leftAt (n1 : Nat) (W : World) : Nat :=
  match W.cell? ⟨n1, 0, none⟩ with
  | some (.string s) => s.size
  | _ => 0
theorem leftAt_eq {n1 : Nat} {W : World} {s : ByteArray} (h : W.cell? ⟨n1, 0, none⟩ = some (.string s)) : leftAt n1 W = s.size := by rw [leftAt, h]

/-- The iterator's three boxes lie as they lay. -/
def Boxes (n1 : Nat) (W W' : World) : Prop := ∀ b, n1 ≤ b → b < n1 + 3 → W'.cell? ⟨b, 0, none⟩ = W.cell? ⟨b, 0, none⟩ ∧ W'.frozen? ⟨b, 0, none⟩ = W.frozen? ⟨b, 0, none⟩

set_option maxRecDepth 100000 in
set_option maxHeartbeats 4000000 in
/-- strings.splitSeq's closure at the separator of one byte: every piece is handed to yield, in order. -/
theorem it_c (n : Nat) (hn : 1 ≤ n) (l n1 : Nat) (s0 : ByteArray) (hs : s0.size ≤ 4000000) (J : Nat → World → Prop) (hJs : ∀ k W v, J k W → J k (W.setCell ⟨n1, 0, none⟩ v))
    (hY : ∀ k x W, (splitL 10 s0.data.toList)[k]? = some x → J k W → YieldAt Fence.wide (n - 1) Tryd.prog l #[.string (B x)] W fun e W' => e = .returned (.bool true) ∧ J (k + 1) W' ∧ Boxes n1 W W')
    (W : World) (c1 : W.cell? ⟨n1, 0, none⟩ = some (.string s0)) (f1 : W.frozen? ⟨n1, 0, none⟩ = false) (c2 : W.cell? ⟨n1 + 1, 0, none⟩ = some (.string ⟨#[10]⟩)) (c3 : W.cell? ⟨n1 + 2, 0, none⟩ = some (.int .i64 0)) (h0 : J 0 W) :
    CallsIn Fence.wide n Tryd.prog 32 #[.func (.yield l) #[] #[], .pointer (some ⟨n1 + 1, 0, none⟩), .pointer (some ⟨n1, 0, none⟩), .pointer (some ⟨n1 + 2, 0, none⟩)] W
      fun e W' => (∃ v, e = .returned v) ∧ J (splitL 10 s0.data.toList).length W' := by
  obtain ⟨ls, hls⟩ : ∃ ls, ls = splitL 10 s0.data.toList := ⟨_, rfl⟩
  rw [← hls] at hY ⊢
  refine callsIn_of_wp Tryd.func32 rfl trivial ?_ rfl
  simp only [Tryd.ntmps32, List.size_toArray, List.length_cons, List.length_nil, Nat.reduceAdd, Nat.reduceSub, Array.replicate_succ, Array.replicate_zero, List.push_toArray, List.append_toArray, List.nil_append, List.cons_append]
  gi_wp2
  gi_loopw [7] (fun _ wr => ∃ (k : Nat) (R : ByteArray), wr.cell? ⟨n1, 0, none⟩ = some (.string R) ∧ wr.frozen? ⟨n1, 0, none⟩ = false ∧ wr.cell? ⟨n1 + 1, 0, none⟩ = some (.string ⟨#[10]⟩) ∧ wr.cell? ⟨n1 + 2, 0, none⟩ = some (.int .i64 0) ∧ R.size ≤ 4000000 ∧ J k wr ∧ Hid (Unit → ls.drop k = splitL 10 R.data.toList))
    (fun _ wr => leftAt n1 wr)
  case atStart =>
    exact ⟨0, s0, c1, f1, c2, c3, hs, h0, fun _ => by rw [List.drop_zero]; exact hls⟩
  case round =>
    obtain ⟨k, R, r1, r2, r3, r4, hR, hJ, HS⟩ := hrel
    have hidx := fun W' => Any.strings_Index_one Tryd.lays143 R 10 W'
    rcases part 10 R.data.toList with hno | ⟨y, t, hyt, hy10⟩
    · rw [index_no 10 _ hno] at hidx
      have hdr : ls.drop k = [R.data.toList] := by rw [HS.out (), splitL_none 10 _ hno]
      have hget : ls[k]? = some R.data.toList := by
        have := congrArg (·[0]?) hdr
        simpa using this
      have HL : Hid (Unit → ls.length = k + 1) := fun _ => by
        have := congrArg List.length hdr
        rw [List.length_drop] at this
        simp at this
        omega
      obtain ⟨fn, tmps, assign, body, hy, hRd⟩ := hY k R.data.toList wr hget hJ
      rw [B_of] at hy
      clear hno HS hdr hget hls
      gi_wp2_with (refine ⟨trivial, ?_⟩; gi_at_call 31; refine (callsIn_wide.2 (hidx _)).mono ?_; clear hidx; rintro e w' ⟨rfl, rfl⟩)
      refine hRd.mono ?_
      rintro e W3 ⟨rfl, hJ3, hb3⟩
      gi_wp2
      go_end0
      exact ⟨⟨_, rfl⟩, by rw [HL.out ()]; exact hJ3⟩
    · rw [hyt, index_yes 10 t y hy10] at hidx
      have hspl : splitL 10 R.data.toList = y :: splitL 10 t := by rw [hyt]; exact splitL_pre 10 y hy10 t
      have hdr : ls.drop k = y :: splitL 10 t := by rw [HS.out (), hspl]
      have hget : ls[k]? = some y := by
        have := congrArg (·[0]?) hdr
        simpa using this
      have HD : Hid (Unit → ls.drop (k + 1) = splitL 10 t) := fun _ => by
        have := congrArg (List.drop 1) hdr
        rw [List.drop_drop] at this
        simpa using this
      obtain ⟨m, hm⟩ : ∃ m, m = y.length := ⟨_, rfl⟩
      rw [← hm] at hidx
      have hml : m + 1 ≤ R.size := by
        rw [Lib.size_eq, hyt, List.length_append, List.length_cons]; omega
      have hex1 : R.extract 0 m = B y := by
        rw [← B_of R, B_extract, hyt, hm]; simp
      have hex2 : (R.extract (m + 1) R.size) = B t := by
        rw [← B_of R, B_extract, B_of R, hyt, hm]
        rw [show y.length + 1 = (y ++ [10]).length by simp, show y ++ 10 :: t = (y ++ [10]) ++ t by simp, List.drop_left', List.take_of_length_le]
        · rw [← B_of R, B_size, hyt]; simp; omega
        · rfl
      obtain ⟨fn, tmps, assign, body, hy, hRd⟩ := hY k y wr hget hJ
      rw [← hex1] at hy
      have HE : Hid (Unit → R.extract (m + 1) R.size = B t) := fun _ => hex2
      clear HS hdr hget hls hspl hyt hy10 hm hex1 hex2
      gi_wp2_with (refine ⟨trivial, ?_⟩; gi_at_call 31; refine (callsIn_wide.2 (hidx _)).mono ?_; clear hidx; rintro e w' ⟨rfl, rfl⟩)
      refine hRd.mono ?_
      clear hRd hy
      rintro e W3 ⟨rfl, hJ3, hb3⟩
      have q1 := (hb3 n1 (Nat.le_refl _) (by omega)).1.trans r1
      have q2 := (hb3 n1 (Nat.le_refl _) (by omega)).2.trans r2
      have q3 := (hb3 (n1 + 1) (by omega) (by omega)).1.trans r3
      have q4 := (hb3 (n1 + 2) (by omega) (by omega)).1.trans r4
      clear hb3 r2 r3 r4
      gi_wp2
      go_roundw
      case rel =>
        have hsz : (R.extract (m + 1) R.size).size ≤ 4000000 := by rw [ByteArray.size_extract]; omega
        refine ⟨k + 1, R.extract (m + 1) R.size, World.cell?_setCell_same (h := q1) .., by rw [World.frozen?_setCell]; exact q2, ?_, ?_, hsz, hJs _ _ _ hJ3, fun _ => ?_⟩
        · rw [World.cell?_setCell_other (h := by simp) ..]; exact q3
        · rw [World.cell?_setCell_other (h := by simp) ..]; exact q4
        · rw [HD.out (), HE.out (), B_data]
      case measure =>
        rw [leftAt_eq (World.cell?_setCell_same (h := q1) ..), leftAt_eq r1, ByteArray.size_extract]
        omega
end Go.Proofs.Qxb6603774aDoor
