import Derived.Test.Qxb6603774aDoorFileG
import Derived.Test.Qxb6603774aDoorLiftFile
import Derived.Shelf.Vars
import Derived.Laws.IdiomStrings
namespace Go.Proofs.Qxb6603774aDoor
open Go.RowKit Pl

theorem Tryd.info5 : (Tryd.prog.info? 5).map (fun i => (i.zero, i.size, i.bytes)) = some (some (.int .u8 0), 1, 1) := by kernel_rfl
theorem eq10 (c : UInt8) : ((c.toNat : Int) == 10) = true ↔ c = 10 := eqN c 10 (by decide)
theorem eq44 (c : UInt8) : ((c.toNat : Int) == 44) = true ↔ c = 44 := eqN c 44 (by decide)
theorem eq35 (c : UInt8) : ((c.toNat : Int) == 35) = true ↔ c = 35 := eqN c 35 (by decide)
def bomB (l : List UInt8) : Bool := decide (l[0]? = some 239 ∧ l[1]? = some 187 ∧ l[2]? = some 191)
/-- What the law's guard lets by. -/
def PlainAll (l : List UInt8) : Prop := l = [] ∨ ((∀ x ∈ splitL 44 l, GoodN x) ∧ 10 ∉ l)
theorem bom_pos (s : ByteArray) (h0 : 0 < s.size) (h1 : 1 < s.size) (h2 : 2 < s.size) : bomB s.data.toList = (((s[0].toNat : Int) == 239) && ((s[1].toNat : Int) == 187) && ((s[2].toNat : Int) == 191)) := by
  rw [bomB, Bool.eq_iff_iff, decide_eq_true_iff, get_byte s 0 h0, get_byte s 1 h1, get_byte s 2 h2, Bool.and_eq_true, Bool.and_eq_true]
  have e0 := eqN s[0] 239 (by decide)
  have e1 := eqN s[1] 187 (by decide)
  have e2 := eqN s[2] 191 (by decide)
  constructor
  · rintro ⟨p, q, r⟩
    exact ⟨⟨e0.2 (Option.some.inj p), e1.2 (Option.some.inj q)⟩, e2.2 (Option.some.inj r)⟩
  · rintro ⟨⟨p, q⟩, r⟩
    exact ⟨congrArg some (e0.1 p), congrArg some (e1.1 q), congrArg some (e2.1 r)⟩
theorem bom_neg (s : ByteArray) (h : ¬ 3 ≤ s.size) : bomB s.data.toList = false := by
  apply decide_eq_false
  rintro ⟨_, _, p⟩
  rw [List.getElem?_eq_none (by rw [← Lib.size_eq]; omega)] at p
  cases p
/-- The row of the file's bytes, k of them written. -/
def rowK (l : List UInt8) (k : Nat) : List Value := Lib.byteCells ((l.take k).map nl) ++ List.replicate (l.length - k) (.int .u8 0)
theorem rowK_set (l : List UInt8) (k : Nat) (c : UInt8) (hc : l[k]? = some c) : (rowK l k).set k (.int .u8 ((nl c).toNat : Int)) = rowK l (k + 1) := by
  have hk := (List.getElem?_eq_some_iff.1 hc).1
  have hl : (Lib.byteCells ((l.take k).map nl)).length = k := by simp [Lib.byteCells]; omega
  unfold rowK
  rw [show l.length - k = (l.length - (k + 1)) + 1 by omega, List.replicate_succ, List.set_append_right _ _ (by omega), hl, Nat.sub_self, List.set_cons_zero, List.take_add_one, hc]
  simp [Lib.byteCells]
theorem rowK_len (l : List UInt8) (k : Nat) (h : k ≤ l.length) : (rowK l k).length = l.length := by
  unfold rowK
  rw [List.length_append, List.length_replicate]
  have hl : (Lib.byteCells ((l.take k).map nl)).length = k := by simp [Lib.byteCells]; omega
  omega
theorem rowK_end (l : List UInt8) : rowK l l.length = Lib.byteCells (l.map nl) := by
  unfold rowK
  rw [Nat.sub_self, List.replicate_zero, List.append_nil, List.take_of_length_le (Nat.le_refl _)]
theorem rowK_zero (l : List UInt8) : rowK l 0 = List.replicate l.length (.int .u8 0) := by
  unfold rowK
  simp [Lib.byteCells]
theorem conv_row {Bk g cap : Nat} {l : List UInt8} {w : World} (h : w.ownsRow Bk 5 1 (.slice (some ⟨g, 0, none⟩) l.length cap) l.length (Lib.byteCells l)) : (convert 27 9 (.slice (some ⟨g, 0, none⟩) l.length cap)).run Tryd.prog w = .ok (.string (B l)) w :=
  run_convert_bytes_back w 27 9 5 ⟨g, 0, none⟩ cap l Tryd.underlying27 Tryd.underlying5 Tryd.underlying9 (fun j hj => World.ownsRow.cells h (g := g) rfl j (.int .u8 l[j].toNat) (by simp [Lib.byteCells, hj]))
theorem nl_44 {c : UInt8} (h : ((c.toNat : Int) == 44) = true) : nl c = 10 := by
  rw [nl, if_pos ((eq44 c).1 h)]
theorem nl_no {c : UInt8} (h : ((c.toNat : Int) == 44) = false) : nl c = c := by
  rw [nl, if_neg (fun e => by rw [(eq44 c).2 e] at h; cases h)]

namespace file
set_option maxRecDepth 100000 in
set_option maxHeartbeats 40000000 in
theorem walk : Walked := by
  intro s w hsh l0
  unfold maxLen at l0
  obtain ⟨mx, hm⟩ : ∃ m, w.cell? ⟨0, 0, none⟩ = some (.int .i64 m) := cell_of_shapedOpen_int (P := Tryd.prog) (g := 0) (t := 3) (zero := #[.int .i64 0]) hsh (of_decide_eq_true (by kernel_rfl)) (by kernel_rfl) rfl (by kernel_rfl) (by kernel_rfl) Tryd.underlying3
  clear hsh
  by_cases hs : s.size ≤ 1048576
  rotate_left
  · go_enter Tryd.func5, Tryd.ntmps5
    go_wp2_with fail
    refine (bytes3_any _ _ l0).mono ?_
    rintro e w' ⟨⟨y, rfl⟩, rfl⟩
    cases y
    all_goals
      go_wp2_with fail
      go_ret
      exact ⟨rfl, Below.refl _ _⟩
  go_enter Tryd.func5, Tryd.ntmps5
  go_wp2_with fail
  refine (bytes3_any _ _ l0).mono ?_
  rintro e w' ⟨⟨y, rfl⟩, rfl⟩
  have HM : Hid (Unit → _) := fun _ => hm
  clear hm l0
  cases y
  · go_wp2_with fail
    go_ret
    exact ⟨rfl, Below.refl _ _⟩
  go_upto_region 5 with fail
  go_cut [30] (fun v wx => v = .bool (bomB s.data.toList) ∧ wx = w')
  case first =>
    as_aux_lemma =>
      by_cases h3 : 3 ≤ s.size
      · have h3i : decide ((3 : Int) ≤ (s.size : Int)) = true := by simp; omega
        have q0 : 0 < s.size := by omega
        have q1 : 1 < s.size := by omega
        have q2 : 2 < s.size := by omega
        have HB : Hid (Unit → _) := fun _ => bom_pos s q0 q1 q2
        cases e0 : ((s[0].toNat : Int) == 239)
        all_goals
          cases e1 : ((s[1].toNat : Int) == 187)
          all_goals
            cases e2 : ((s[2].toNat : Int) == 191)
            all_goals
              go_wp2_with fail
              go_meet
              exact ⟨by rw [HB.out (), e0, e1, e2]; rfl, rfl⟩
      · have h3i : decide ((3 : Int) ≤ (s.size : Int)) = false := by simp; omega
        have HB : Hid (Unit → bomB s.data.toList = false) := fun _ => bom_neg s h3
        go_wp2_with fail
        go_meet
        exact ⟨by rw [HB.out ()], rfl⟩
  case rest =>
  obtain ⟨rfl, rfl⟩ := hcut
  cases hbom : bomB s.data.toList
  rotate_left
  · go_upto_if 30 with fail
    go_light
    repeat (first | go_values | go_skip | go_guarded | go_step | go_upon)
    refine bodyPost_ret (v := .bool true) ?_ rfl ⟨rfl, Below.refl _ _⟩
    simp [results, Tryd.results5, go_sem]
  have HNB : Hid (Unit → NoBom s.data.toList) := fun _ => of_decide_eq_false hbom
  clear hbom
  go_upto_if 32 with fail
  go_cut [] (fun wx => Hid (Unit → PlainAll s.data.toList) ∧ wx = wc)
  case first =>
    rename_i J1 K1 hJ1 hM1
    by_cases h0 : 0 < s.size
    rotate_left
    · have hnil : s.data.toList = [] := List.eq_nil_of_length_eq_zero (by rw [← Lib.size_eq]; omega)
      have he : s.toList.isEmpty = true := by rw [Lib.toList_data, hnil]; rfl
      have HP : Hid (Unit → PlainAll s.data.toList) := fun _ => .inl hnil
      clear hnil
      rw [show (!s.toList.isEmpty) = false by rw [he]; rfl]
      as_aux_lemma =>
        go_wp2_with fail
        go_meet
        exact ⟨HP, rfl⟩
    have he := ne_of_pos s h0
    rw [show (!s.toList.isEmpty) = true by rw [he]; rfl]
    go_wp2_with fail
    go_loopw [3, 4] (fun vp vi wr => ∃ p i : Nat, vp = .int .i64 p ∧ vi = .int .i64 i ∧ p ≤ i ∧ i ≤ s.size + 1 ∧ Hid (Unit → (i ≤ s.size → SegI s.data.toList p i) ∧ (i = s.size + 1 → PlainAll s.data.toList)) ∧ wr = wc) (fun _ vi _ => s.size + 1 - (intOf vi).toNat)
    case atStart => exact ⟨0, 0, rfl, rfl, Nat.le_refl _, Nat.zero_le _, fun _ => ⟨fun _ => seg0 _, fun h => by omega⟩, rfl⟩
    case round =>
    obtain ⟨p, i, rfl, rfl, hpi, hi, HI, rfl⟩ := hrel
    by_cases hend : i = s.size + 1
    · have hgt : (s.size : Int) < (i : Int) := by go_light; omega
      have HP : Hid (Unit → PlainAll s.data.toList) := fun _ => (HI.out ()).2 hend
      clear HI hend
      as_aux_lemma =>
        go_wp2_with fail
        go_meet
        exact ⟨HP, rfl⟩
    have hile : i ≤ s.size := by go_light; omega
    have hei : decide ((i : Int) ≤ (s.size : Int)) = true := by go_light; simp; omega
    have HSG : Hid (Unit → SegI s.data.toList p i) := fun _ => (HI.out ()).1 hile
    clear HI hend hi
    by_cases hlt : i < s.size
    · have hlti : decide ((i : Int) < (s.size : Int)) = true := by go_light; simp; omega
      have hnei : ((i : Int) == (s.size : Int)) = false := by go_light; simp; omega
      have HG : Hid (Unit → _) := fun _ => get_byte s i hlt
      cases h10 : ((s[i].toNat : Int) == 10)
      rotate_left
      · go_upto_if 48 with fail
        clear hJ1
        go_light
        repeat (first | go_values | go_skip | go_guarded | go_step | go_upon)
        refine bodyPost_ret (v := .bool true) ?_ rfl ⟨rfl, Below.refl _ _⟩
        simp [results, Tryd.results5, go_sem]
      cases h44 : ((s[i].toNat : Int) == 44)
      · have HON : Hid (Unit → SegI s.data.toList p (i + 1)) := fun _ => seg_on (HSG.out ()) (HG.out ()) (fun e => by rw [(eq10 _).2 e] at h10; cases h10) (fun e => by rw [(eq44 _).2 e] at h44; cases h44)
        clear HSG HG
        as_aux_lemma =>
          go_wp2_with fail
          go_roundw
          case rel =>
            go_light
            exact ⟨p, i + 1, rfl, by go_num, by omega, by omega, fun _ => ⟨fun _ => HON.out (), fun h => by omega⟩, by first | rfl | trivial⟩
          case measure => go_light; simp [intOf]; omega
      by_cases hip : i = p
      · have hipi : ((i : Int) == (p : Int)) = true := by go_light; simp; omega
        clear hJ1 hip
        as_aux_lemma =>
          go_wp2_with fail
          all_goals
            go_ret
            exact ⟨rfl, Below.refl _ _⟩
      have hipi : ((i : Int) == (p : Int)) = false := by go_light; simp; omega
      have hpl : p < s.size := by go_light; omega
      obtain ⟨i1, hi1⟩ : ∃ i1, i = i1 + 1 := ⟨i - 1, by go_light; omega⟩
      have hi1l : i1 < s.size := by go_light; omega
      have hi1i : (i : Int) - 1 = (i1 : Int) := by go_light; omega
      have HGP : Hid (Unit → _) := fun _ => get_byte s p hpl
      have HGL : Hid (Unit → _) := fun _ => get_byte s i1 hi1l
      have HI1 : Hid (Unit → i = i1 + 1) := fun _ => hi1
      clear hi1
      have hb1 := fun W => blank_c s[p] W
      have hb2 := fun W => blank_c s[i1] W
      have HPI : Hid (Unit → p < i) := fun _ => by go_light; omega
      cases hbp : blankB s[p]
      rotate_left
      · rw [hbp] at hb1
        clear hJ1
        as_aux_lemma =>
          go_upto_if 78 with (go_at_call 11; first | (refine (hb1 _).mono ?_; clear hb1; rintro e w2 ⟨rfl, rfl⟩) | (refine (hb2 _).mono ?_; clear hb2; rintro e w2 ⟨rfl, rfl⟩))
          go_light
          repeat (first | go_values | go_skip | go_guarded | go_step | go_upon)
          refine bodyPost_ret (v := .bool true) ?_ rfl ⟨rfl, Below.refl _ _⟩
          simp [results, Tryd.results5, go_sem]
      rw [hbp] at hb1
      cases hbl : blankB s[i1]
      rotate_left
      · rw [hbl] at hb2
        clear hJ1
        as_aux_lemma =>
          go_upto_if 78 with (go_at_call 11; first | (refine (hb1 _).mono ?_; clear hb1; rintro e w2 ⟨rfl, rfl⟩) | (refine (hb2 _).mono ?_; clear hb2; rintro e w2 ⟨rfl, rfl⟩))
          go_light
          repeat (first | go_values | go_skip | go_guarded | go_step | go_upon)
          refine bodyPost_ret (v := .bool true) ?_ rfl ⟨rfl, Below.refl _ _⟩
          simp [results, Tryd.results5, go_sem]
      rw [hbl] at hb2
      cases h35 : ((s[p].toNat : Int) == 35)
      rotate_left
      · clear hJ1
        as_aux_lemma =>
          go_upto_if 78 with (go_at_call 11; first | (refine (hb1 _).mono ?_; clear hb1; rintro e w2 ⟨rfl, rfl⟩) | (refine (hb2 _).mono ?_; clear hb2; rintro e w2 ⟨rfl, rfl⟩))
          go_light
          repeat (first | go_values | go_skip | go_guarded | go_step | go_upon)
          refine bodyPost_ret (v := .bool true) ?_ rfl ⟨rfl, Below.refl _ _⟩
          simp [results, Tryd.results5, go_sem]
      have HON : Hid (Unit → SegI s.data.toList (i + 1) (i + 1)) := fun _ => by
        have hc : s.data.toList[i]? = some 44 := by rw [HG.out (), (eq44 _).1 h44]
        have hpi' := HPI.out ()
        refine seg_comma (HSG.out ()) hc (seg_good (HSG.out ()).ile hpi' (HGP.out ()) ?_ hbp hbl (fun e => by rw [(eq35 _).2 e] at h35; cases h35))
        rw [show i - 1 = i1 by rw [HI1.out ()]; rfl]; exact HGL.out ()
      clear HSG HG HGP HGL HI1 HPI
      as_aux_lemma =>
        go_wp2_with (go_at_call 11; first | (refine (hb1 _).mono ?_; clear hb1; rintro e w2 ⟨rfl, rfl⟩) | (refine (hb2 _).mono ?_; clear hb2; rintro e w2 ⟨rfl, rfl⟩))
        go_roundw
        case rel =>
          go_light
          exact ⟨i + 1, i + 1, by go_num, by go_num, Nat.le_refl _, by omega, fun _ => ⟨fun _ => HON.out (), fun h => by omega⟩, by first | rfl | trivial⟩
        case measure => go_light; simp [intOf]; omega
    have hieq : i = s.size := by go_light; omega
    have hlti : decide ((i : Int) < (s.size : Int)) = false := by go_light; simp; omega
    have hnei : ((i : Int) == (s.size : Int)) = true := by go_light; simp; omega
    by_cases hip : i = p
    · have hipi : ((i : Int) == (p : Int)) = true := by go_light; simp; omega
      clear hJ1 hip
      as_aux_lemma =>
        go_wp2_with fail
        all_goals
          go_ret
          exact ⟨rfl, Below.refl _ _⟩
    have hipi : ((i : Int) == (p : Int)) = false := by go_light; simp; omega
    have hpl : p < s.size := by go_light; omega
    obtain ⟨i1, hi1⟩ : ∃ i1, i = i1 + 1 := ⟨i - 1, by go_light; omega⟩
    have hi1l : i1 < s.size := by go_light; omega
    have hi1i : (i : Int) - 1 = (i1 : Int) := by go_light; omega
    have HGP : Hid (Unit → _) := fun _ => get_byte s p hpl
    have HGL : Hid (Unit → _) := fun _ => get_byte s i1 hi1l
    have HI1 : Hid (Unit → i = i1 + 1) := fun _ => hi1
    have HIE : Hid (Unit → i = s.size) := fun _ => hieq
    clear hi1 hieq
    have hb1 := fun W => blank_c s[p] W
    have hb2 := fun W => blank_c s[i1] W
    have HPI : Hid (Unit → p < i) := fun _ => by go_light; omega
    cases hbp : blankB s[p]
    rotate_left
    · rw [hbp] at hb1
      clear hJ1
      as_aux_lemma =>
        go_upto_if 78 with (go_at_call 11; first | (refine (hb1 _).mono ?_; clear hb1; rintro e w2 ⟨rfl, rfl⟩) | (refine (hb2 _).mono ?_; clear hb2; rintro e w2 ⟨rfl, rfl⟩))
        go_light
        repeat (first | go_values | go_skip | go_guarded | go_step | go_upon)
        refine bodyPost_ret (v := .bool true) ?_ rfl ⟨rfl, Below.refl _ _⟩
        simp [results, Tryd.results5, go_sem]
    rw [hbp] at hb1
    cases hbl : blankB s[i1]
    rotate_left
    · rw [hbl] at hb2
      clear hJ1
      as_aux_lemma =>
        go_upto_if 78 with (go_at_call 11; first | (refine (hb1 _).mono ?_; clear hb1; rintro e w2 ⟨rfl, rfl⟩) | (refine (hb2 _).mono ?_; clear hb2; rintro e w2 ⟨rfl, rfl⟩))
        go_light
        repeat (first | go_values | go_skip | go_guarded | go_step | go_upon)
        refine bodyPost_ret (v := .bool true) ?_ rfl ⟨rfl, Below.refl _ _⟩
        simp [results, Tryd.results5, go_sem]
    rw [hbl] at hb2
    cases h35 : ((s[p].toNat : Int) == 35)
    rotate_left
    · clear hJ1
      as_aux_lemma =>
        go_upto_if 78 with (go_at_call 11; first | (refine (hb1 _).mono ?_; clear hb1; rintro e w2 ⟨rfl, rfl⟩) | (refine (hb2 _).mono ?_; clear hb2; rintro e w2 ⟨rfl, rfl⟩))
        go_light
        repeat (first | go_values | go_skip | go_guarded | go_step | go_upon)
        refine bodyPost_ret (v := .bool true) ?_ rfl ⟨rfl, Below.refl _ _⟩
        simp [results, Tryd.results5, go_sem]
    have HON : Hid (Unit → PlainAll s.data.toList) := fun _ => by
      have hpi' := HPI.out ()
      have hsl : i = s.data.toList.length := by rw [HIE.out (), Lib.size_eq]
      have hsg := HSG.out ()
      have hgd : GoodN ((s.data.toList.drop p).take (i - p)) := seg_good hsg.ile hpi' (HGP.out ()) (by rw [show i - 1 = i1 by rw [HI1.out ()]; rfl]; exact HGL.out ()) hbp hbl (fun e => by rw [(eq35 _).2 e] at h35; cases h35)
      rw [hsl] at hsg hgd
      exact .inr (seg_end hsg hgd)
    clear HSG HGP HGL HI1 HPI
    as_aux_lemma =>
      go_wp2_with (go_at_call 11; first | (refine (hb1 _).mono ?_; clear hb1; rintro e w2 ⟨rfl, rfl⟩) | (refine (hb2 _).mono ?_; clear hb2; rintro e w2 ⟨rfl, rfl⟩))
      go_roundw
      case rel =>
        go_light
        exact ⟨i + 1, i + 1, by go_num, by go_num, Nat.le_refl _, by omega, fun _ => ⟨fun h => by have := HIE.out (); omega, fun _ => HON.out ()⟩, by first | rfl | trivial⟩
      case measure => go_light; simp [intOf]; omega
  case rest =>
  obtain ⟨HP, rfl⟩ := hcut
  as_aux_lemma =>
    obtain ⟨i0, hi, hz0, hz1, hz2⟩ := info_parts Tryd.info5
    go_wp2_with (at_make; refine wpList_make_full _ rfl _ _ 27 rfl wc.heap.size 5 i0 (.int .u8 0) 1 Tryd.underlying27 hi hz0 hz1 _ _ _ _ s.size rfl rfl rfl rfl ?b2 ?b3 (Nat.le_refl _) ?_)
    case b2 => rw [hz2]; omega
    case b3 => unfold maxLen; omega
    intro w1 hown1 hgrow1
    have hb1 : Below wc.heap.size wc w1 := (Below.refl _ _).grown hgrow1 (Nat.le_refl _) (fun _ e => by cases e)
    have HR1 : Hid (Unit → w1.ownsRow wc.heap.size 5 1 (.slice (some ⟨wc.heap.size, 0, none⟩) s.size s.size) s.size (rowK s.data.toList 0)) := fun _ => by
      have e : (madeCells #[Value.int .u8 0] s.size).toList = rowK s.data.toList 0 := by
        rw [rowK_zero, ← Lib.size_eq]; exact toList_madeCells_one (.int .u8 0) s.size
      rw [← e]; exact hown1
    clear hown1 hgrow1 hi hz0 hz1 hz2
    go_wp2_with fail
    go_loopw [6] (fun v wr => ∃ k : Nat, k ≤ s.size ∧ v = .int .i64 k ∧ Hid (Unit → wr.ownsRow wc.heap.size 5 1 (.slice (some ⟨wc.heap.size, 0, none⟩) s.size s.size) s.size (rowK s.data.toList k)) ∧ Below wc.heap.size wc wr) (fun v _ => s.size - (intOf v).toNat)
    case atStart => exact ⟨0, Nat.zero_le _, rfl, HR1, hb1⟩
    case round =>
    clear HR1 hb1
    obtain ⟨k, hk, rfl, HR, hb⟩ := hrel
    have hsz := hb.size
    by_cases hlt : k < s.size
    · have hlti : decide ((k : Int) < (s.size : Int)) = true := by go_light; simp; omega
      have HG : Hid (Unit → _) := fun _ => get_byte s k hlt
      obtain ⟨u, hu⟩ : ∃ u, wr.cell? ⟨wc.heap.size, k, none⟩ = some u := by
        rw [World.ownsRow.cellAt (HR.out ()) k (by go_light; omega)]
        exact ⟨_, List.getElem?_eq_getElem (by rw [rowK_len _ _ (by rw [← Lib.size_eq]; exact hk), ← Lib.size_eq]; exact hlt)⟩
      have hfr : wr.frozen? ⟨wc.heap.size, k, none⟩ = false := World.ownsRow.frozenAt (HR.out ()) k
      cases h44 : ((s[k].toNat : Int) == 44)
      · have HS : Hid (Unit → (wr.setCell ⟨wc.heap.size, k, none⟩ (.int .u8 (s[k].toNat : Int))).ownsRow wc.heap.size 5 1 (.slice (some ⟨wc.heap.size, 0, none⟩) s.size s.size) s.size (rowK s.data.toList (k + 1))) := fun _ => by
          have h := (World.ownsRow.stored (HR.out ()) k (.int .u8 (s[k].toNat : Int))).1
          have e := rowK_set s.data.toList k s[k] (HG.out ())
          rw [nl_no h44] at e
          rw [e] at h; exact h
        clear HR HG
        go_wp2_with fail
        go_roundw
        case rel =>
          go_light
          exact ⟨k + 1, hlt, by go_num, HS, hb.setCell (p := ⟨wc.heap.size, k, none⟩) (Nat.le_refl _) _⟩
        case measure => go_light; simp [intOf]; omega
      · have HS : Hid (Unit → (wr.setCell ⟨wc.heap.size, k, none⟩ (.int .u8 10)).ownsRow wc.heap.size 5 1 (.slice (some ⟨wc.heap.size, 0, none⟩) s.size s.size) s.size (rowK s.data.toList (k + 1))) := fun _ => by
          have h := (World.ownsRow.stored (HR.out ()) k (.int .u8 10)).1
          have e := rowK_set s.data.toList k s[k] (HG.out ())
          rw [nl_44 h44] at e
          have e10 : Value.int .u8 ((10 : UInt8).toNat : Int) = .int .u8 10 := rfl
          rw [e10] at e
          rw [e] at h; exact h
        clear HR HG
        go_wp2_with fail
        go_roundw
        case rel =>
          go_light
          exact ⟨k + 1, hlt, by go_num, HS, hb.setCell (p := ⟨wc.heap.size, k, none⟩) (Nat.le_refl _) _⟩
        case measure => go_light; simp [intOf]; omega
    have hlti : decide ((k : Int) < (s.size : Int)) = false := by go_light; simp; omega
    have hkk : k = s.size := by go_light; omega
    subst hkk
    have hFl : (s.data.toList.map nl).length = s.size := by rw [List.length_map, Lib.size_eq]
    have hcv : (convert 27 9 (.slice (some ⟨wc.heap.size, 0, none⟩) s.size s.size)).run Tryd.prog wr = .ok (.string (B (s.data.toList.map nl))) wr := by
      have h := HR.out ()
      rw [show s.size = s.data.toList.length from Lib.size_eq s, rowK_end, ← Lib.size_eq] at h
      have h2 := conv_row (Bk := wc.heap.size) (g := wc.heap.size) (cap := s.size) (l := s.data.toList.map nl) (w := wr) (by rw [hFl]; exact h)
      rw [hFl] at h2
      exact h2
    have hsf := splitfile_c (B (s.data.toList.map nl)) wr (by rw [B_size, hFl]; go_light; omega) (by rw [B_data]; exact bom_map (HNB.out ())) (by
      rw [B_data]
      rcases HP.out () with h | ⟨h1, h2⟩
      · rw [h]
        intro x hx
        rw [show x = [] from List.mem_singleton.1 hx]; exact nil_plain
      · rw [split_map _ h2]
        exact fun x hx => good_plain (h1 x hx))
    rw [B_data] at hsf
    obtain ⟨LS, hLS⟩ : ∃ LS, LS = outs (splitL 10 (s.data.toList.map nl)) := ⟨_, rfl⟩
    have hcase : (s.size = 0 ∧ LS = []) ∨ (0 < s.size ∧ LS = splitL 44 s.data.toList) := by
      rcases HP.out () with h | ⟨h1, h2⟩
      · left
        refine ⟨by rw [Lib.size_eq, h]; rfl, ?_⟩
        rw [hLS, h]; rfl
      · by_cases hz : s.size = 0
        · left
          have hn : s.data.toList = [] := List.eq_nil_of_length_eq_zero (by rw [← Lib.size_eq]; exact hz)
          exact ⟨hz, by rw [hLS, hn]; rfl⟩
        · right
          refine ⟨Nat.pos_of_ne_zero hz, ?_⟩
          rw [hLS, split_map _ h2, outs_all h1]
    rw [← hLS] at hsf
    clear hLS HR HP HNB hFl
    generalize B (s.data.toList.map nl) = Fb at hcv hsf
    have HSF : Hid (Unit → _) := fun _ => hsf
    clear hsf
    have HCASE : Hid (Unit → _) := fun _ => hcase
    clear hcase
    go_wp2_with fail
    refine (HSF.out ()).mono ?_
    clear HSF hcv
    rintro e w2 ⟨⟨v, rfl, hrow⟩, hb2⟩
    have hb02 : Below wc.heap.size wc w2 := hb.trans (hb2.mono hsz)
    have hz2 := hb02.size
    have hm2 := cell_later hb02 (HM.out ())
    have HROW : Hid (Unit → _) := fun _ => hrow
    clear hrow hb2 hb
    go_wp2_with fail
    rcases HCASE.out () with ⟨hs0, rfl⟩ | ⟨hs0, hLS⟩
    · refine (nsplit_nil s _ hs0).mono ?_
      rintro e w3 ⟨rfl, rfl⟩
      obtain ⟨pa, ca, rfl⟩ : ∃ pa ca, v = .slice pa 0 ca := by
        rcases (HROW.out ()).2 with ⟨h, _⟩ | ⟨g, cap, cur, h, _⟩
        · exact ⟨none, 0, h⟩
        · exact ⟨_, cap, h⟩
      go_wp2_with fail
      refine (same_nil _ _ _ _ _).mono ?_
      rintro e w4 ⟨rfl, hb4⟩
      go_wp2_with fail
      go_ret
      exact ⟨rfl, hb02.trans (hb4.mono hz2)⟩
    · refine (nsplit_any s mx w2 (by go_light; omega) hs0 hm2).mono ?_
      rw [← hLS]
      rintro e w3 ⟨rfl, hb3, _, hc3⟩
      have hlen := splitL_pieces_le 44 s.data.toList
      rw [← hLS, ← Lib.size_eq] at hlen
      have hne : LS ≠ [] := by rw [hLS]; exact splitL_ne 44 _
      obtain ⟨ga, ca, rfl⟩ : ∃ ga ca, v = .slice (some ⟨ga, 0, none⟩) LS.length ca := by
        rcases (HROW.out ()).2 with ⟨_, h⟩ | ⟨g, cap, cur, h, _⟩
        · exact absurd (List.eq_nil_of_length_eq_zero h) hne
        · exact ⟨g, cap, h⟩
      have hga : ga < w2.heap.size := (World.ownsRow.lt (HROW.out ()) ga rfl).2
      have ha : ∀ (j : Nat) y, LS[j]? = some y → w3.cell? ⟨ga, j, none⟩ = some (.string (B y)) := fun j y hy => by
        have hj := (List.getElem?_eq_some_iff.1 hy).1
        rw [hb3.cell (p := ⟨ga, j, none⟩) hga, World.ownsRow.cellAt (HROW.out ()) j (by rw [Nat.mul_one]; exact hj), cellsOf, List.getElem?_map, hy]
        rfl
      have hsm := same_c LS ga w2.heap.size ca LS.length w3 (by go_light; omega) ha hc3
      have hb03 : Below wc.heap.size wc w3 := hb02.trans (hb3.mono hz2)
      have HSM : Hid (Unit → _) := fun _ => hsm
      clear hsm ha hc3 HROW hLS hne
      go_wp2_with fail
      refine (HSM.out ()).mono ?_
      clear HSM
      rintro e w4 ⟨rfl, hb4⟩
      go_wp2_with fail
      go_ret
      exact ⟨rfl, hb03.trans (hb4.mono hb03.size)⟩
end file
end Go.Proofs.Qxb6603774aDoor
namespace Go.Proofs.Qxb6603774aDoor
/-- THE STATEMENT. -/
theorem fileProved : Rows.FnSplitFileAgreesWithSplitOnPlainNodesCardSaid := file.card_holds file.walk
end Go.Proofs.Qxb6603774aDoor
