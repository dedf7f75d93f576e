import Derived.Test.Qxb6603042aDoorPlain
import Derived.Test.Qxb6603042aDoorChecked
import Derived.Test.Qxb6603042aDoorShelf
import Derived.WalkKit
import Derived.Lib.Builder
import Derived.Lib.OthersKept
import Derived.Shelf.Strings.PiecesUse
namespace Go.Proofs.Qxb6603042aDoor
open Go.RowKit Pl

theorem split_c (s : ByteArray) (c : UInt8) (m : Int) (w : World) (hs : s.size < 4294967281) (hm : w.cell? ⟨0, 0, none⟩ = some (.int .i64 m)) :
    Calls Tryd.prog 11 #[.string s, .string ⟨#[c]⟩] w fun e w' =>
      e = .returned (.slice (some ⟨w.heap.size, 0, none⟩) (splitL c s.data.toList).length (splitL c s.data.toList).length) ∧
      w' = w.alloc (.cells (((splitL c s.data.toList).map B).map Value.string).toArray 9) := by
  have h := Any.strings_Split Tryd.lays146 (by kernel_rfl) s ⟨#[c]⟩ m w hs hm (Nat.le_refl 1)
  have e1 : Lib.splitB ⟨#[c]⟩ 0 (Lib.countB s ⟨#[c]⟩) s = (splitL c s.data.toList).map B := splitB_one c s
  have e2 : Lib.countB s ⟨#[c]⟩ + 1 = (splitL c s.data.toList).length := by rw [splitL_length]; exact congrArg (· + 1) (countB_one c s)
  rw [e1, e2] at h
  exact h
theorem trimRight_c (s : ByteArray) (w : World) (hs : s.size ≤ 9223372036854775807) :
    Calls Tryd.prog 12 #[.string s, .string ⟨#[32, 9, 13]⟩] w fun e w' => e = .returned (.string (B (Lib.trimRightS s.data.toList [32, 9, 13]))) ∧ Below w.heap.size w w' := by
  exact Any.strings_TrimRight_laid Tryd.lays162 (by kernel_rfl) s ⟨#[32, 9, 13]⟩ w hs (by decide) (ascii_of_all (by decide))
theorem trim_c (s : ByteArray) (w : World) (hs : s.size ≤ 9223372036854775807) :
    Calls Tryd.prog 13 #[.string s, .string ⟨#[32, 9, 13]⟩] w fun e w' => e = .returned (.string (B (Lib.trimS s.data.toList [32, 9, 13]))) ∧ Below w.heap.size w w' := by
  exact Any.strings_Trim_laid Tryd.lays160 (by kernel_rfl) s ⟨#[32, 9, 13]⟩ w hs (by decide) (ascii_of_all (by decide))
theorem trim4_c (s : ByteArray) (w : World) (hs : s.size ≤ 9223372036854775807) :
    Calls Tryd.prog 13 #[.string s, .string ⟨#[32, 9, 13, 10]⟩] w fun e w' => e = .returned (.string (B (Lib.trimS s.data.toList [32, 9, 13, 10]))) ∧ Below w.heap.size w w' := by
  exact Any.strings_Trim_laid Tryd.lays160 (by kernel_rfl) s ⟨#[32, 9, 13, 10]⟩ w hs (by decide) (ascii_of_all (by decide))
theorem trimLeft_c (s : ByteArray) (w : World) :
    Calls Tryd.prog 34 #[.string s, .string ⟨#[32, 9, 13]⟩] w fun e w' => e = .returned (.string (B (Lib.trimLeftS s.data.toList [32, 9, 13]))) ∧ Below w.heap.size w w' := by
  exact Any.strings_TrimLeft_laid Tryd.lays161 (by kernel_rfl) s ⟨#[32, 9, 13]⟩ w (by decide) (ascii_of_all (by decide))
theorem trimSuffix_c (s : ByteArray) (w : World) (hs : s.size ≤ 9223372036854775807) :
    Calls Tryd.prog 15 #[.string s, .string ⟨#[10]⟩] w fun e w' => e = .returned (.string (B (Lib.trimSuffix s.data.toList [10]))) ∧ w' = w := by
  exact Any.strings_TrimSuffix Tryd.lays102 s ⟨#[10]⟩ w hs
theorem hasSuffix_c (s : ByteArray) (w : World) (hs : s.size ≤ 9223372036854775807) :
    Calls Tryd.prog 24 #[.string s, .string ⟨#[10]⟩] w fun e w' => e = .returned (.bool (Lib.hasSuffix s.data.toList [10])) ∧ w' = w := by
  exact Any.strings_HasSuffix Tryd.lays100 s ⟨#[10]⟩ w hs
theorem join_c (bk o c : Nat) (xs : List ByteArray) (w : World)
    (hcells : ∀ (j : Nat) x, xs[j]? = some x → w.cell? ⟨bk, o + j, none⟩ = some (.string x))
    (hbk : bk < w.heap.size) (hN : xs.length ≤ 140737488355328) (hcap : xs.length ≤ c)
    (hlen : (Lib.join (xs.map (·.data.toList)) [10]).length ≤ 140737488355328) :
    Calls Tryd.prog 16 #[.slice (some ⟨bk, o, none⟩) xs.length c, .string ⟨#[10]⟩] w fun e w' => e = .returned (.string (B (Lib.join (xs.map (·.data.toList)) [10]))) ∧ Below w.heap.size w w' := by
  exact Any.strings_Join Tryd.lays156 Tryd.Builder_Extra_156 bk o c xs ⟨#[10]⟩ w hcells hbk hN hcap hlen
theorem join0_c (a : Option Addr) (c : Nat) (w : World) : Calls Tryd.prog 16 #[.slice a 0 c, .string ⟨#[10]⟩] w fun e w' => e = .returned (.string (B [])) ∧ w' = w := by
  exact Any.strings_Join_none Tryd.lays156 Tryd.Builder_Extra_156 a c ⟨#[10]⟩ w
theorem write_c (B b : Nat) (l : List UInt8) (s : ByteArray) (w : World) (h : Lib.IsBuilderF 57 5 B b (Lib.byteCells l) w) (hlen : l.length + s.size ≤ 140737488355328) (hBw : B ≤ w.heap.size) :
    Calls Tryd.prog 23 #[.pointer (some ⟨b, 0, none⟩), .string s] w fun e w' => e = .returned (.tuple #[.int .i64 s.size, .nilIface]) ∧ Lib.IsBuilderF 57 5 B b (Lib.byteCells (l ++ s.data.toList)) w' ∧ Below B w w' ∧ Lib.OthersKept 5 (some b) w w' := by
  refine (Any.Builder_WriteString_k Tryd.lays166 Tryd.Builder_Extra_166 B b (Lib.byteCells l) s w h (by rw [Lib.byteCells_length]; exact hlen) hBw).mono ?_
  rintro e w' ⟨rfl, h1, h2, h3⟩
  refine ⟨rfl, .inr ?_, h2, h3⟩
  rw [Lib.byteCells_append, ← Lib.strCells_eq]
  exact h1
theorem string_c (B b : Nat) (l : List UInt8) (w : World) (h : Lib.IsBuilderF 57 5 B b (Lib.byteCells l) w) (hBw : B ≤ w.heap.size) :
    Calls Tryd.prog 25 #[.pointer (some ⟨b, 0, none⟩)] w fun e w' => e = .returned (.string (Pl.B l)) ∧ Below B w w' := by
  refine (Any.Builder_String_any_k Tryd.lays169 Tryd.Builder_Extra_169 B b l w h hBw).mono ?_
  rintro e w' ⟨rfl, h1, h2, h3⟩
  exact ⟨rfl, h2⟩
end Go.Proofs.Qxb6603042aDoor
