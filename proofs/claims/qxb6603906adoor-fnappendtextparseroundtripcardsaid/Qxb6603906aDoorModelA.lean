import Derived.Test.Qxb6603906aDoorWalkA
import Derived.Test.Qxb6603906aDoorLaw
import Derived.RangeFuncBox
import Derived.Laws.IdiomStrings
namespace Go.Proofs.Qxb6603906aDoor
open Go.RowKit Pl

theorem Tryd.info5 : (Tryd.prog.info? 5).map (fun i => (i.zero, i.size, i.bytes)) = some (some (.int .u8 0), 1, 1) := by kernel_rfl

/-- The world owns, from block Bk on, a row of bytes that holds l. -/
def OwnB (Bk : Nat) (v : Value) (l : List UInt8) (w : World) : Prop := w.ownsRow Bk 5 1 v l.length (Lib.byteCells l)
theorem byteCells_snoc (l : List UInt8) (c : UInt8) : Lib.byteCells l ++ [.int .u8 c.toNat] = Lib.byteCells (l ++ [c]) := by simp [Lib.byteCells]
theorem ownB_snoc {Bk : Nat} {v : Value} {l : List UInt8} {c : UInt8} {w : World} (h : w.ownsRow Bk 5 1 v (l.length + 1) (Lib.byteCells l ++ [.int .u8 c.toNat])) : OwnB Bk v (l ++ [c]) w := by
  unfold OwnB
  rw [← byteCells_snoc, List.length_append]
  exact h
theorem ownB_cell {Bk g cap : Nat} {l : List UInt8} {w : World} (h : OwnB Bk (.slice (some ⟨g, 0, none⟩) l.length cap) l w) (k : Nat) (hk : k < l.length) : w.cell? ⟨g, k, none⟩ = some (.int .u8 l[k].toNat) := by
  rw [World.ownsRow.cellAt h k (by omega)]
  simp [Lib.byteCells, hk]

/-- A mark of an exponent. -/
def isX (c : UInt8) : Bool := decide (c = 101 ∨ c = 69)
theorem expmark_c (c : UInt8) (w : World) : Calls Tryd.prog 16 #[.int .u8 c.toNat] w fun e w' => e = .returned (.bool (isX c)) ∧ w' = w := by
  have HX : Hid (Unit → (isX c = (((c.toNat : Int) == 101) || ((c.toNat : Int) == 69)))) := fun _ => by
    rw [isX, Bool.eq_iff_iff, decide_eq_true_iff, Bool.or_eq_true, eq101, eq69]
  go_enter Tryd.func16, Tryd.ntmps16
  cases h1 : ((c.toNat : Int) == 101)
  all_goals
    cases h2 : ((c.toNat : Int) == 69)
    all_goals
      go_wp2_with fail
      go_ret
      exact ⟨by rw [HX.out (), h1, h2]; rfl, rfl⟩

/-- The model's next state, as it reckons it. -/
def nxI (st : Nat) (c : UInt8) : Int := if nxt st c = 9 then -1 else (nxt st c : Int)
theorem nxt_le (st : Nat) (c : UInt8) : nxt st c ≤ 9 := by
  unfold nxt
  split <;> (repeat' split) <;> omega
theorem nxt_8 (st : Nat) (c : UInt8) (h : nxt st c = 8) : dig c = true := by
  unfold nxt at h
  split at h <;> (repeat' split at h) <;> first | assumption | omega
theorem ne45 {c : UInt8} (h : ((c.toNat : Int) == 45) = false) : ¬ c = 45 := fun e => by rw [(eq45 c).2 e] at h; cases h
theorem ne48 {c : UInt8} (h : ((c.toNat : Int) == 48) = false) : ¬ c = 48 := fun e => by rw [(eq48 c).2 e] at h; cases h
theorem ne46 {c : UInt8} (h : ((c.toNat : Int) == 46) = false) : ¬ c = 46 := fun e => by rw [(eq46 c).2 e] at h; cases h
theorem ne43 {c : UInt8} (h : ((c.toNat : Int) == 43) = false) : ¬ c = 43 := fun e => by rw [(eq43 c).2 e] at h; cases h
theorem isX_yes {c : UInt8} (h : true = isX c) : c = 101 ∨ c = 69 := by rw [isX] at h; exact of_decide_eq_true h.symm
theorem isX_no {c : UInt8} (h : false = isX c) : ¬ (c = 101 ∨ c = 69) := by rw [isX] at h; exact of_decide_eq_false h.symm
theorem dig_45 {c : UInt8} (h : dig c = true) : ¬ c = 45 ∧ ¬ c = 46 ∧ ¬ c = 43 ∧ ¬ c = 101 ∧ ¬ c = 69 := by
  obtain ⟨h1, h2, h3, h4, h5⟩ := dig_no c h
  exact ⟨h4, h1, h5, h2, h3⟩
theorem mA_cons (st : Nat) (neg : Bool) (sig : List UInt8) (wn : Nat) (en : Bool) (e : Nat) (big : Bool) (c : UInt8) (t : List UInt8) : mA st neg sig wn en e big (c :: t) = if nxt st c = 9 then no else
      mA (nxt st c) (neg || (st == 0 && c == 45)) (if nxt st c = 2 ∨ nxt st c = 3 ∨ nxt st c = 5 then sig ++ [c] else sig)
        (if nxt st c = 2 ∨ nxt st c = 3 then wn + 1 else wn) (en || (st == 6 && c == 45))
        (if nxt st c = 8 ∧ big = false then up e c else e) (big || (nxt st c == 8 && decide (100000000000000000 ≤ up e c))) t := by rw [mA]

/-- zzParseModel's four results. -/
def modV (d : Ans) : Value := .tuple #[.bool d.1, .string (B d.2.1), .int .i64 d.2.2.1, .bool d.2.2.2]

/-- Between two rounds of the model. -/
def MRel (s : ByteArray) (w : World) (d : Ans) (v6 v7 v8 v9 v10 v11 v12 v13 : Value) (wr : World) : Prop :=
  ∃ (st : Nat) (neg : Bool) (sig : List UInt8) (wn : Nat) (en : Bool) (e : Nat) (big : Bool) (k g cap : Nat),
    st ≤ 8 ∧ k ≤ s.size ∧ wn ≤ k ∧ sig.length ≤ k ∧ e < 1100000000000000000 ∧ (big = false → e < 100000000000000000) ∧
    v6 = .int .i64 st ∧ v7 = .bool neg ∧ v8 = .slice (some ⟨g, 0, none⟩) sig.length cap ∧ v9 = .int .i64 wn ∧ v10 = .bool en ∧ v11 = .int .i64 e ∧ v12 = .bool big ∧ v13 = .int .i64 k ∧
    Hid (Unit → OwnB w.heap.size v8 sig wr) ∧ Below w.heap.size w wr ∧ Hid (Unit → d = mA st neg sig wn en e big (s.data.toList.drop k))
theorem dropB (s : ByteArray) (i : Nat) (h : i < s.size) : s.data.toList.drop i = s[i] :: s.data.toList.drop (i + 1) := by
  rw [List.drop_eq_getElem_cons (by rw [← Lib.size_eq]; exact h)]; rfl
/-! ### The digits by their first and last place -/
def accB (st : Nat) : Bool := decide (st = 2 ∨ st = 3 ∨ st = 5 ∨ st = 8)
theorem finM_no {st : Nat} (h : accB st = false) (neg : Bool) (sig : List UInt8) (wn : Nat) (en : Bool) (e : Nat) (big : Bool) : finM st neg sig wn en e big = no := if_neg (of_decide_eq_false h)
theorem finM_yes {st : Nat} (h : accB st = true) (neg : Bool) (sig : List UInt8) (wn : Nat) (en : Bool) (e : Nat) (big : Bool) : finM st neg sig wn en e big = if big then no else finG neg sig wn (if en then -(e : Int) else (e : Int)) := if_pos (of_decide_eq_true h)
theorem lead_cut (sig : List UInt8) (i : Nat) (hi : i ≤ sig.length) (h1 : ∀ m, m < i → sig[m]? = some 48) (h2 : ∀ b, sig[i]? = some b → b ≠ 48) : Lib.trimLeftB sig 48 = sig.drop i ∧ leadOf sig = i := by
  have h := (takeWhile_take (· == (48 : UInt8)) sig i (fun j b hj hb => by rw [h1 j hj] at hb; cases hb; rfl) (fun b hb => by simpa using h2 b hb)).2
  have ht : Lib.trimLeftB sig 48 = sig.drop i := h
  refine ⟨ht, ?_⟩
  rw [leadOf, ht, List.length_drop]
  omega
theorem right_cut (m : List UInt8) (k : Nat) (hk : k < m.length) (h1 : ∀ b, m[k]? = some b → b ≠ 48) (h2 : ∀ q, k < q → q < m.length → m[q]? = some 48) : Lib.trimRightB m 48 = m.take (k + 1) := by
  have h := (takeWhile_take (· == (48 : UInt8)) m.reverse (m.length - (k + 1)) (fun j b hj hb => by
    rw [List.getElem?_reverse (by omega), h2 (m.length - 1 - j) (by omega) (by omega)] at hb
    cases hb; rfl) (fun b hb => by
    rw [List.getElem?_reverse (by omega), show m.length - 1 - (m.length - (k + 1)) = k by omega] at hb
    simpa using h1 b hb)).2
  unfold Lib.trimRightB
  rw [h, List.drop_reverse, List.reverse_reverse, show m.length - (m.length - (k + 1)) = k + 1 by omega]
theorem digs_zero (sig : List UInt8) (h : ∀ m, m < sig.length → sig[m]? = some 48) : digsOf sig = [] := by
  have h1 := (lead_cut sig sig.length (Nat.le_refl _) h (fun b hb => by rw [List.getElem?_eq_none (Nat.le_refl _)] at hb; cases hb)).1
  rw [digsOf, h1, List.drop_length]; rfl
theorem digs_cut (sig : List UInt8) (i j : Nat) (hij : i ≤ j) (hj : j < sig.length) (h1 : ∀ m, m < i → sig[m]? = some 48) (h2 : ∀ b, sig[i]? = some b → b ≠ 48) (h3 : ∀ b, sig[j]? = some b → b ≠ 48) (h4 : ∀ m, j < m → m < sig.length → sig[m]? = some 48) :
    digsOf sig = (sig.drop i).take (j + 1 - i) ∧ leadOf sig = i := by
  obtain ⟨h5, h6⟩ := lead_cut sig i (by omega) h1 h2
  refine ⟨?_, h6⟩
  rw [digsOf, h5, right_cut (sig.drop i) (j - i) (by rw [List.length_drop]; omega) (fun b hb => by rw [List.getElem?_drop, show i + (j - i) = j by omega] at hb; exact h3 b hb) (fun q hq hl => by rw [List.length_drop] at hl; rw [List.getElem?_drop]; exact h4 (i + q) (by omega) (by omega)), show j - i + 1 = j + 1 - i by omega]

/-- Between two rounds of the second loop. -/
def FRel (sig : List UInt8) (v17 v18 v19 : Value) : Prop :=
  ∃ k : Nat, k ≤ sig.length ∧ v19 = .int .i64 k ∧
    ((v17 = .int .i64 (-1) ∧ v18 = .int .i64 (-1) ∧ Hid (Unit → ∀ m, m < k → sig[m]? = some 48)) ∨
     (∃ i j : Nat, v17 = .int .i64 i ∧ v18 = .int .i64 j ∧ i ≤ j ∧ j < k ∧ Hid (Unit → (∀ m, m < i → sig[m]? = some 48) ∧ (∀ b, sig[i]? = some b → b ≠ 48) ∧ (∀ b, sig[j]? = some b → b ≠ 48) ∧ (∀ m, j < m → m < k → sig[m]? = some 48))))
/-- 'string(b[i:j])' of a row of bytes. -/
theorem conv_cut {Bk g cap : Nat} {l : List UInt8} {w : World} (h : OwnB Bk (.slice (some ⟨g, 0, none⟩) l.length cap) l w) (i j : Nat) (hij : i < j) (hj : j ≤ l.length) (cap' : Nat) :
    (convert 33 9 (.slice (some ⟨g, i, none⟩) (j - i) cap')).run Tryd.prog w = .ok (.string (B ((l.drop i).take (j - i)))) w := by
  have hl : ((l.drop i).take (j - i)).length = j - i := by rw [List.length_take, List.length_drop]; omega
  have hr := run_convert_bytes_back w 33 9 5 ⟨g, i, none⟩ cap' ((l.drop i).take (j - i)) Tryd.underlying33 Tryd.underlying5 Tryd.underlying9 (fun q hq => by
    rw [hl] at hq
    rw [Go.WideShapes.add_plain, ownB_cell h (i + q) (by omega)]
    simp)
  rw [hl] at hr
  exact hr
theorem ownB_cap {Bk g cap : Nat} {l : List UInt8} {w : World} (h : OwnB Bk (.slice (some ⟨g, 0, none⟩) l.length cap) l w) : l.length ≤ cap ∧ cap ≤ maxLen := by
  rcases h.2 with ⟨h', _⟩ | ⟨g', cap', cur, h', _, _, hnc, hcm, _, _⟩
  · simp at h'
  · simp only [Value.slice.injEq, Option.some.injEq, Addr.mk.injEq, and_true, true_and] at h'
    obtain ⟨rfl, rfl⟩ := h'
    exact ⟨hnc, hcm⟩
end Go.Proofs.Qxb6603906aDoor
