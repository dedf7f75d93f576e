import Derived.Lib.SplitLaws
import Derived.Lib.TrimByte
import Derived.Lib.Strings
namespace Go.Proofs.Qxb6603906aDoor.Pl
open Go

def B (l : List UInt8) : ByteArray := ⟨l.toArray⟩
theorem B_data (l : List UInt8) : (B l).data.toList = l := rfl
theorem B_of (s : ByteArray) : B s.data.toList = s := rfl
theorem B_size (l : List UInt8) : (B l).size = l.length := by rw [Lib.size_eq, B_data]
theorem B_eq {X : ByteArray} {l : List UInt8} (h : X.data.toList = l) : X = B l := by rw [← h]; rfl
theorem isEmpty_B (l : List UInt8) : (B l).toList.isEmpty = l.isEmpty := by rw [Lib.toList_data, B_data]
theorem B_app (a b : List UInt8) : B a ++ B b = B (a ++ b) := by
  apply B_eq
  rw [ByteArray.data_append, Array.toList_append, B_data, B_data]

def digB (n : Int) : Bool := decide (48 ≤ n) && decide (n ≤ 57)
def dig (c : UInt8) : Bool := digB c.toNat

/-- neg, digits, exp, ok. -/
abbrev Ans := Bool × List UInt8 × Int × Bool
def no : Ans := (false, [], 0, false)
def zr : Ans := (false, [], 0, true)

/-- The number that digits write, upon e. -/
def up (e : Nat) (c : UInt8) : Nat := e * 10 + (c.toNat - 48)
def valF (e : Nat) (l : List UInt8) : Nat := l.foldl up e
theorem valF_nil (e : Nat) : valF e [] = e := rfl
theorem valF_cons (e : Nat) (c : UInt8) (t : List UInt8) : valF e (c :: t) = valF (up e c) t := by unfold valF; rw [List.foldl_cons]

/-- The digits of a significand. -/
def digsOf (sig : List UInt8) : List UInt8 := Lib.trimRightB (Lib.trimLeftB sig 48) 48
/-- The zeros ahead of it. -/
def leadOf (sig : List UInt8) : Nat := sig.length - (Lib.trimLeftB sig 48).length
/-- The answer, all read: sig the significand, wn of its digits whole, x the exponent. -/
def finG (neg : Bool) (sig : List UInt8) (wn : Nat) (x : Int) : Ans :=
  if digsOf sig = [] then zr
  else if 10000 < (wn : Int) - leadOf sig + x ∨ (wn : Int) - leadOf sig + x < -10000 then no
  else (neg, digsOf sig, (wn : Int) - leadOf sig + x, true)

/-- The sign, and what follows it. -/
def negL : List UInt8 → Bool
  | [] => false
  | c :: _ => c == 45
def restL : List UInt8 → List UInt8
  | [] => []
  | c :: t => if c = 45 then t else c :: t
def signR : List UInt8 → List UInt8
  | [] => []
  | c :: t => if c = 45 ∨ c = 43 then t else c :: t

/-- A written exponent: wr its digits, r what follows. -/
def expW (neg : Bool) (wr r : List UInt8) : Option Int :=
  if wr = [] ∨ 18 ≤ (Lib.trimLeftB wr 48).length ∨ r ≠ [] then none
  else some (if neg then -(valF 0 (Lib.trimLeftB wr 48) : Int) else (valF 0 (Lib.trimLeftB wr 48) : Int))
/-- What follows the significand. -/
def expL : List UInt8 → Option Int
  | [] => some 0
  | c :: t => if c = 101 ∨ c = 69 then expW (negL t) ((signR t).takeWhile dig) ((signR t).dropWhile dig) else none

def parse3 (neg : Bool) (wh fr r : List UInt8) : Ans :=
  (expL r).elim no (finG neg (wh ++ fr) wh.length)
def parse2 (neg : Bool) (wh : List UInt8) : List UInt8 → Ans
  | [] => parse3 neg wh [] []
  | c :: t => if c = 46 then (if t.takeWhile dig = [] then no else parse3 neg wh (t.takeWhile dig) (t.dropWhile dig)) else parse3 neg wh [] (c :: t)
def parse1 (neg : Bool) (r : List UInt8) : Ans :=
  if r.takeWhile dig = [] ∨ (1 < (r.takeWhile dig).length ∧ (r.takeWhile dig)[0]? = some 48) then no else parse2 neg (r.takeWhile dig) (r.dropWhile dig)
/-- Parse. -/
def parseL (l : List UInt8) : Ans := parse1 (negL l) (restL l)

/-- The model's next state; 9: refused. -/
def nxt (st : Nat) (c : UInt8) : Nat :=
  match st with
  | 0 => if c = 45 then 1 else if c = 48 then 2 else if dig c then 3 else 9
  | 1 => if c = 48 then 2 else if dig c then 3 else 9
  | 2 => if c = 46 then 4 else if c = 101 ∨ c = 69 then 6 else 9
  | 3 => if dig c then 3 else if c = 46 then 4 else if c = 101 ∨ c = 69 then 6 else 9
  | 4 => if dig c then 5 else 9
  | 5 => if dig c then 5 else if c = 101 ∨ c = 69 then 6 else 9
  | 6 => if c = 43 then 7 else if c = 45 then 7 else if dig c then 8 else 9
  | 7 => if dig c then 8 else 9
  | 8 => if dig c then 8 else 9
  | _ => 9
/-- The model's end. -/
def finM (st : Nat) (neg : Bool) (sig : List UInt8) (wn : Nat) (en : Bool) (e : Nat) (big : Bool) : Ans :=
  if st = 2 ∨ st = 3 ∨ st = 5 ∨ st = 8 then (if big then no else finG neg sig wn (if en then -(e : Int) else (e : Int))) else no
/-- The model, from a state on. -/
def mA (st : Nat) (neg : Bool) (sig : List UInt8) (wn : Nat) (en : Bool) (e : Nat) (big : Bool) : List UInt8 → Ans
  | [] => finM st neg sig wn en e big
  | c :: t => if nxt st c = 9 then no else
      mA (nxt st c) (neg || (st == 0 && c == 45)) (if nxt st c = 2 ∨ nxt st c = 3 ∨ nxt st c = 5 then sig ++ [c] else sig)
        (if nxt st c = 2 ∨ nxt st c = 3 then wn + 1 else wn) (en || (st == 6 && c == 45))
        (if nxt st c = 8 ∧ big = false then up e c else e) (big || (nxt st c == 8 && decide (100000000000000000 ≤ up e c))) t

/-! ### Laws of lists -/
theorem takeWhile_take {α : Type} (p : α → Bool) : ∀ (l : List α) (k : Nat), (∀ j b, j < k → l[j]? = some b → p b = true) → (∀ b, l[k]? = some b → p b = false) → l.takeWhile p = l.take k ∧ l.dropWhile p = l.drop k
  | [], k, _, _ => by simp
  | x :: l, 0, _, h2 => by
    have := h2 x rfl
    simp [this]
  | x :: l, k + 1, h1, h2 => by
    have hx := h1 0 x (Nat.succ_pos _) rfl
    have ih := takeWhile_take p l k (fun j b hj hb => h1 (j + 1) b (by omega) (by simpa using hb)) (fun b hb => h2 b (by simpa using hb))
    rw [List.takeWhile_cons, List.dropWhile_cons, if_pos hx, if_pos hx, List.take_succ_cons, List.drop_succ_cons, ih.1, ih.2]
    exact ⟨rfl, rfl⟩
theorem pos_take (p : UInt8 → Bool) (l : List UInt8) (ws k : Nat) (h1 : ws ≤ k) (hd : ∀ j b, ws ≤ j → j < k → l[j]? = some b → p b = true) (hs : ∀ b, l[k]? = some b → p b = false) :
    (l.drop ws).takeWhile p = (l.drop ws).take (k - ws) ∧ (l.drop ws).dropWhile p = l.drop k := by
  have h := takeWhile_take p (l.drop ws) (k - ws) (fun j b hj hb => by rw [List.getElem?_drop] at hb; exact hd (ws + j) b (by omega) (by omega) hb) (fun b hb => by rw [List.getElem?_drop, show ws + (k - ws) = k by omega] at hb; exact hs b hb)
  refine ⟨h.1, h.2.trans ?_⟩
  rw [List.drop_drop, show ws + (k - ws) = k by omega]
/-- The stretch of l from a to b. -/
def cutL (l : List UInt8) (a b : Nat) : List UInt8 := (l.drop a).take (b - a)
theorem ext_cutL (s : ByteArray) (a b : Nat) : s.extract a b = B (cutL s.data.toList a b) := B_eq (by rw [Lib.extract_data]; rfl)
theorem eqN (c : UInt8) (n : Nat) (hn : n < 256) : ((c.toNat : Int) == (n : Int)) = true ↔ c = UInt8.ofNat n := by
  rw [beq_iff_eq]
  have hm : (UInt8.ofNat n).toNat = n := by simp [UInt8.toNat_ofNat']; omega
  constructor
  · intro h; apply UInt8.toNat_inj.1; rw [hm]; omega
  · intro h; rw [h, hm]
theorem eq48 (c : UInt8) : ((c.toNat : Int) == 48) = true ↔ c = 48 := eqN c 48 (by decide)
theorem eq46 (c : UInt8) : ((c.toNat : Int) == 46) = true ↔ c = 46 := eqN c 46 (by decide)
theorem eq45 (c : UInt8) : ((c.toNat : Int) == 45) = true ↔ c = 45 := eqN c 45 (by decide)
theorem eq43 (c : UInt8) : ((c.toNat : Int) == 43) = true ↔ c = 43 := eqN c 43 (by decide)
theorem eq69 (c : UInt8) : ((c.toNat : Int) == 69) = true ↔ c = 69 := eqN c 69 (by decide)
theorem eq101 (c : UInt8) : ((c.toNat : Int) == 101) = true ↔ c = 101 := eqN c 101 (by decide)
theorem all_takeWhile (p : UInt8 → Bool) : ∀ l : List UInt8, ∀ x ∈ l.takeWhile p, p x = true
  | [], x, h => by simp at h
  | a :: l, x, h => by
    rw [List.takeWhile_cons] at h
    split at h
    · rename_i ha
      rcases List.mem_cons.1 h with rfl | h
      · exact ha
      · exact all_takeWhile p l x h
    · simp at h
theorem dropWhile_eq (p : UInt8 → Bool) (l : List UInt8) : l.dropWhile p = l.drop (l.takeWhile p).length := by
  have h := List.takeWhile_append_dropWhile (p := p) (l := l)
  conv => rhs; arg 2; rw [← h]
  rw [List.drop_left]
theorem trimL_le (l : List UInt8) : (Lib.trimLeftB l 48).length ≤ l.length := (List.dropWhile_sublist _).length_le
theorem trimR_le (l : List UInt8) : (Lib.trimRightB l 48).length ≤ l.length := by
  unfold Lib.trimRightB
  rw [List.length_reverse]
  have := (List.dropWhile_sublist (l := l.reverse) (· == (48 : UInt8))).length_le
  rw [List.length_reverse] at this
  exact this
theorem drop_lead (l : List UInt8) : l.drop (leadOf l) = Lib.trimLeftB l 48 := by
  unfold leadOf Lib.trimLeftB
  have h := List.takeWhile_append_dropWhile (p := (· == (48 : UInt8))) (l := l)
  have hl := congrArg List.length h
  rw [List.length_append] at hl
  rw [show l.length - (l.dropWhile (· == 48)).length = (l.takeWhile (· == 48)).length by omega, ← dropWhile_eq]
end Go.Proofs.Qxb6603906aDoor.Pl
