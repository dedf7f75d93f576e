import Derived.Test.Qxb6603774aDoorFileR
import Derived.Deep.Onto
namespace Go.Proofs.Qxb6603774aDoor
open Go.RowKit Go.Shelf Pl
attribute [local go_sem] Oper.semAt_some

theorem Tryd.info9 : (Tryd.prog.info? 9).map (fun i => (i.zero, i.size, i.bytes)) = some (some (.string ⟨#[]⟩), 1, 16) := by kernel_rfl

/-- A node that a file's line gives unchanged. -/
structure PlainN (x : List UInt8) : Prop where
  trim : Lib.trimS x [32, 9, 13] = x
  hash : ∀ b, x[0]? = some b → b ≠ 35
/-- The nodes of a file's lines, each line a plain node or empty. -/
def outs (ls : List (List UInt8)) : List (List UInt8) := ls.filter (fun x => !x.isEmpty)
def cellsOf (ls : List (List UInt8)) : List Value := ls.map (fun y => Value.string (B y))
theorem outs_snoc (ls : List (List UInt8)) (k : Nat) (x : List UInt8) (h : ls[k]? = some x) : outs (ls.take (k + 1)) = outs (ls.take k) ++ (if x = [] then [] else [x]) := by
  rw [List.take_add_one, h]
  unfold outs
  rw [Option.toList_some, List.filter_append]
  cases x with
  | nil => rfl
  | cons a t => rfl

theorem trim_c (s : ByteArray) (w : World) (hs : s.size ≤ 9223372036854775807) : Calls Tryd.prog 17 #[.string s, .string ⟨#[32, 9, 13]⟩] w fun e w' => e = .returned (.string (B (Lib.trimS s.data.toList [32, 9, 13]))) ∧ Below w.heap.size w w' :=
  Any.strings_Trim_laid Tryd.lays160 (by kernel_rfl) s ⟨#[32, 9, 13]⟩ w hs (by decide) (fun j b h => by
    have h' : ([32, 9, 13] : List UInt8)[j]? = some b := h
    have hm := List.mem_of_getElem? h'
    simp at hm
    rcases hm with rfl | rfl | rfl <;> decide)

set_option maxHeartbeats 400000 in
theorem comment_c (s : ByteArray) (w : World) (h0 : 0 < s.size) (h35 : ((s[0].toNat : Int) == 35) = false) : Calls Tryd.prog 18 #[.string s] w fun e w' => e = .returned (.bool false) ∧ w' = w := by
  have hne := ne_of_pos s h0
  go_enter Tryd.func18, Tryd.ntmps18
  go_wp2_with fail
  go_ret
  exact ⟨rfl, rfl⟩

set_option maxHeartbeats 400000 in
theorem seq_c (s p : ByteArray) (w : World) : Calls Tryd.prog 15 #[.string s, .string p] w fun e w' =>
    e = .returned (.func (.func 32) #[] #[.pointer (some ⟨w.heap.size + 1, 0, none⟩), .pointer (some ⟨w.heap.size, 0, none⟩), .pointer (some ⟨w.heap.size + 2, 0, none⟩)]) ∧
    w' = ((w.alloc (.cells #[.string s] 9)).alloc (.cells #[.string p] 9)).alloc (.cells #[.int .i64 0] 3) := by
  go_enter Tryd.func15, Tryd.ntmps15
  go_wp2
  go_ret
  exact ⟨rfl, rfl⟩

/-- Between two rounds: the box of nodes, and the row that it owns. -/
def FI (s : ByteArray) (w : World) (k : Nat) (W : World) : Prop :=
  (∃ v, Boxed W w.heap.size 23 v ∧ W.ownsRow (w.heap.size + 4) 9 1 v (outs ((splitL 10 s.data.toList).take k)).length (cellsOf (outs ((splitL 10 s.data.toList).take k)))) ∧ Below w.heap.size w W ∧ w.heap.size + 4 ≤ W.heap.size
theorem FI.alloc {s : ByteArray} {w : World} {k : Nat} {W : World} (o : Obj) : FI s w k W → FI s w k (W.alloc o)
  | ⟨⟨v, hv, hr⟩, hb, hz⟩ => ⟨⟨v, hv.alloc o, hr.alloc o⟩, hb.alloc hb.size o, by rw [World.size_alloc]; exact Nat.le_succ_of_le hz⟩
theorem FI.put {s : ByteArray} {w : World} {k : Nat} {W : World} {l : Nat} {q : Obj} (o' : Obj) (hl : W.heap[l]? = some q) (ho : q.isCells = false) (hle : w.heap.size ≤ l) : FI s w k W → FI s w k (W.putObj l o')
  | ⟨⟨v, hv, hr⟩, hb, hz⟩ => ⟨⟨v, hv.kept (grownBy_putObj' W l o') (fun e => by
      obtain rfl : w.heap.size = l := by simpa using e
      rw [show W.heap[w.heap.size]? = _ from hv] at hl; cases hl; cases ho), ownsRow_putObj hr o' hl ho⟩,
      hb.grown (grownBy_putObj' W l o') hb.size (fun j e => by cases e; exact hle), by rw [World.putObj_size]; exact hz⟩
theorem FI.set {s : ByteArray} {w : World} {k : Nat} {W : World} (u : Value) : FI s w k W → FI s w k (W.setCell ⟨w.heap.size + 1, 0, none⟩ u)
  | ⟨⟨v, hv, hr⟩, hb, hz⟩ => ⟨⟨v, (Below.heap_setCell W ⟨w.heap.size + 1, 0, none⟩ u w.heap.size (by show w.heap.size ≠ w.heap.size + 1; omega)).trans hv, ownsRow_setCell_below hr (by show w.heap.size + 1 < w.heap.size + 4; omega) u⟩,
      hb.setCell (p := ⟨w.heap.size + 1, 0, none⟩) (Nat.le_succ _) u, Nat.le_trans hz (KeepsWalks.setCell W _ u).size⟩
theorem grown_of_below {W W' : World} (h : Below W.heap.size W W') : W.grownBy W' none := ⟨h.os, h.tape, h.output, h.size, fun k hk _ => h.block k hk⟩
theorem keeps_of_below {W W' : World} (h : Below W.heap.size W W') : KeepsOthers W W' := ⟨h.size, fun k _ hk _ => (h.block k (Array.getElem?_eq_some_iff.1 hk).1).trans hk⟩
theorem boxes_of_below {n1 : Nat} {W W' : World} (h : Below W.heap.size W W') (hn : n1 + 3 ≤ W.heap.size) : Boxes n1 W W' := fun b _ h2 =>
  ⟨h.cell (p := ⟨b, 0, none⟩) (by show b < W.heap.size; omega), h.frozen (p := ⟨b, 0, none⟩) (by show b < W.heap.size; omega)⟩
theorem FI.below {s : ByteArray} {w : World} {k : Nat} {W W' : World} (h : Below W.heap.size W W') : FI s w k W → FI s w k W'
  | ⟨⟨v, hv, hr⟩, hb, hz⟩ => ⟨⟨v, (h.block _ hv.lt).trans hv, hr.kept (grown_of_below h) (by cases v.ownBlock <;> simp)⟩, hb.trans (h.mono hb.size), Nat.le_trans hz h.size⟩

set_option maxRecDepth 100000 in
set_option maxHeartbeats 4000000 in
theorem splitfile_c (s : ByteArray) (w : World) (hs : s.size ≤ 4000000) (hpre : Lib.trimPrefix s.data.toList [239, 187, 191] = s.data.toList) (hpl : ∀ x ∈ splitL 10 s.data.toList, PlainN x) :
    Calls Tryd.prog 13 #[.string s] w fun e w' => (∃ v, e = .returned v ∧ w'.ownsRow w.heap.size 9 1 v (outs (splitL 10 s.data.toList)).length (cellsOf (outs (splitL 10 s.data.toList)))) ∧ Below w.heap.size w w' := by
  have htp := fun W => Any.strings_TrimPrefix Tryd.lays101 s ⟨#[239, 187, 191]⟩ W
  have hpe : (⟨(Lib.trimPrefix s.data.toList (⟨#[239, 187, 191]⟩ : ByteArray).data.toList).toArray⟩ : ByteArray) = s := by
    show (⟨(Lib.trimPrefix s.data.toList [239, 187, 191]).toArray⟩ : ByteArray) = s
    rw [hpre]
  rw [hpe] at htp
  clear hpe hpre
  refine (callsIn_wide (n := 3)).1 ?_
  refine callsIn_of_wp_marks Tryd.func13 rfl trivial ?_ rfl
  simp only [Tryd.ntmps13, List.size_toArray, List.length_cons, List.length_nil, Nat.reduceAdd, Nat.reduceSub, Array.replicate_succ, Array.replicate_zero, List.push_toArray, List.append_toArray, List.nil_append, List.cons_append]
  gi_wp2_with (first | (refine ⟨trivial, ?_⟩; gi_at_call 16; refine (callsIn_wide.2 (htp _)).mono ?_; clear htp; rintro e w' ⟨rfl, rfl⟩) | (refine ⟨trivial, ?_⟩; gi_at_call 15; refine (callsIn_wide.2 (seq_c _ _ _)).mono ?_; rintro e w' ⟨rfl, rfl⟩))
  obtain ⟨w0, hw0⟩ : ∃ w0, (((w.alloc (.cells #[.slice none 0 0] 23)).alloc (.cells #[.string s] 9)).alloc (.cells #[.string ⟨#[10]⟩] 9)).alloc (.cells #[.int .i64 0] 3) = w0 := ⟨_, rfl⟩
  have hz0 : w0.heap.size = w.heap.size + 4 := by rw [← hw0]; simp
  have hB0 : Below w.heap.size w w0 := by rw [← hw0]; go_grown
  have bO : Boxed w0 w.heap.size 23 (.slice none 0 0) := by rw [← hw0]; exact (((Boxed.new w 23 _).alloc _).alloc _).alloc _
  have b1 : Boxed w0 (w.heap.size + 1) 9 (.string s) := by
    rw [← hw0]; have := ((Boxed.new (w.alloc (.cells #[.slice none 0 0] 23)) 9 (.string s)).alloc (.cells #[.string ⟨#[10]⟩] 9)).alloc (.cells #[.int .i64 0] 3); rwa [World.size_alloc] at this
  have b2 : Boxed w0 (w.heap.size + 1 + 1) 9 (.string ⟨#[10]⟩) := by
    rw [← hw0]; have := (Boxed.new ((w.alloc (.cells #[.slice none 0 0] 23)).alloc (.cells #[.string s] 9)) 9 (.string ⟨#[10]⟩)).alloc (.cells #[.int .i64 0] 3); rwa [World.size_alloc, World.size_alloc] at this
  have b3 : Boxed w0 (w.heap.size + 1 + 2) 3 (.int .i64 0) := by
    rw [← hw0]; have := Boxed.new (((w.alloc (.cells #[.slice none 0 0] 23)).alloc (.cells #[.string s] 9)).alloc (.cells #[.string ⟨#[10]⟩] 9)) 3 (.int .i64 0); rwa [World.size_alloc, World.size_alloc, World.size_alloc] at this
  rw [hw0]
  clear hw0
  obtain ⟨i0, hi, hzz0, hzz1, hzz2⟩ := info_parts Tryd.info9
  have hlen := splitL_pieces_le 10 s.data.toList
  rw [← Lib.size_eq] at hlen
  refine range_split (by omega) (w.heap.size + 1) s hs rfl (by rw [hz0]; omega) b1.cell b1.frozen b2.cell b3.cell (FI s w) (fun _ _ o h => h.alloc o) (fun _ _ _ _ o' h h1 h2 h3 => h.put o' h1 h2 (by omega)) (fun _ _ u h => h.set u)
    ⟨⟨_, bO, World.ownsRow_nil _ _ _ _⟩, hB0, by omega⟩
    (fun x => { tmps := #[.string s, undef, .slice none 0 0, .pointer (some ⟨w.heap.size, 0, none⟩), .string (B x), undef, .string s, .string s,
      .func (.func 32) #[] #[.pointer (some ⟨w.heap.size + 1 + 1, 0, none⟩), .pointer (some ⟨w.heap.size + 1, 0, none⟩), .pointer (some ⟨w.heap.size + 1 + 2, 0, none⟩)],
      .string (B x), undef, undef, undef, undef, undef, undef, undef, undef, undef, undef, undef, undef, undef, undef], defers := [] }) ?assign ?body ?done
  case assign =>
    intro l x W K hK
    gi_wp2
    exact hK
  case body =>
    intro l k x W hx hF
    have hpx := hpl x (List.mem_of_getElem? hx)
    have hxl := splitL_piece 10 _ x (List.mem_of_getElem? hx)
    rw [← Lib.size_eq] at hxl
    have htr := fun W' => trim_c (B x) W' (by rw [B_size]; omega)
    rw [B_data, hpx.trim] at htr
    have hos := outs_snoc _ k x hx
    by_cases hx0 : x = []
    · rw [if_pos hx0, List.append_nil] at hos
      have he : (B x).toList.isEmpty = true := by rw [isEmpty_B, hx0]; rfl
      have HF1 : Hid (Unit → ∀ W', Below W.heap.size W W' → FI s w (k + 1) W') := fun _ W' h => by
        have := hF.below h
        unfold FI at this ⊢
        rw [hos]; exact this
      have hzW : w.heap.size + 4 ≤ W.heap.size := hF.2.2
      clear hos hF hpx hx0 hx hxl hpl
      gi_wp2_with (refine ⟨trivial, ?_⟩; gi_at_call 17; refine (CallsIn.inRound l (callsIn_wide.2 (htr _))).mono ?_; clear htr; rintro e w' ⟨rfl, hbw⟩)
      refine ⟨trivial, ?_⟩
      gi_wp2
      obtain ⟨p1, p2, p3⟩ := HF1.out () _ hbw
      exact ⟨keeps_of_below hbw, boxes_of_below hbw (by omega), p1, p2, p3⟩
    · rw [if_neg hx0] at hos
      obtain ⟨L, hL⟩ : ∃ L, L = outs ((splitL 10 s.data.toList).take k) := ⟨_, rfl⟩
      have HOS : Hid (Unit → outs ((splitL 10 s.data.toList).take (k + 1)) = L ++ [x]) := fun _ => by rw [hos, hL]
      have hLl : L.length ≤ s.size + 1 := by
        rw [hL]
        have h1 := (List.filter_sublist (p := fun x : List UInt8 => !x.isEmpty) (l := (splitL 10 s.data.toList).take k)).length_le
        have h2 := List.length_take_le' k (splitL 10 s.data.toList)
        exact Nat.le_trans h1 (Nat.le_trans h2 hlen)
      have h0 : 0 < (B x).size := by rw [B_size]; exact List.length_pos_iff.2 hx0
      have hne := ne_of_pos (B x) h0
      have h35 : (((B x)[0].toNat : Int) == 35) = false := by
        have hg := get_byte (B x) 0 h0
        rw [B_data] at hg
        have hn := hpx.hash _ hg
        apply beq_eq_false_iff_ne.2
        intro e
        apply hn
        apply UInt8.toNat_inj.1
        have e35 : (35 : UInt8).toNat = 35 := rfl
        rw [e35]; omega
      have hcm := fun W' => comment_c (B x) W' h0 h35
      have HFW : Hid (Unit → FI s w k W) := fun _ => hF
      clear hos hpx hx hpl hF h35
      gi_wp2_with (refine ⟨trivial, ?_⟩; gi_at_call 17; refine (CallsIn.inRound l (callsIn_wide.2 (htr _))).mono ?_; clear htr; rintro e W2 ⟨rfl, hbw⟩)
      obtain ⟨⟨v, hv, hr⟩, hB, hsz⟩ := (HFW.out ()).below hbw
      have hzW : w.heap.size + 4 ≤ W.heap.size := (HFW.out ()).2.2
      clear HFW
      rw [← hL] at hr
      clear hL
      have hcell := hv.cell
      gi_wp2_with (first | (refine ⟨trivial, ?_⟩; gi_at_call 18; refine (CallsIn.inRound l (callsIn_wide.2 (hcm _))).mono ?_; clear hcm; rintro e w' ⟨rfl, rfl⟩) | (gi_at_builtin; refine wpListIn_append_own _ rfl _ _ 23 rfl (w.heap.size + 4) 9 i0 (.string ⟨#[]⟩) 1 16 Tryd.underlying23 hi hzz0 hzz1 hzz2 rfl (by decide) _ _ _ rfl (World.ownsRow.alloc hr _) ⟨w'.heap.size, 0, none⟩ 1 1 [.string (B x)] rfl rfl ?c1 ?c2 ?c3 ?c4 ?c5 ?_))
      case c1 => exact cell_one_new _ _ _
      case c2 => intro u hu; simp at hu; subst hu; rfl
      case c3 => unfold maxLen; omega
      case c4 => omega
      case c5 => rw [World.size_alloc]; omega
      intro v' w1 hown' hgrow _
      obtain ⟨g', cap', rfl⟩ := ownsRow_succ hown'
      obtain ⟨hv1, hv2, _, hk2, hb2⟩ := hv.appended (by decide) (World.ownsRow.mono hr (Nat.le_add_right _ _)) hB.size (Nat.le_refl _) (World.ownsRow.mono hown' (Nat.le_add_right _ _)) hgrow
      have hr2 := ownsRow_setCell_below hown' (a := ⟨w.heap.size, 0, none⟩) (by show w.heap.size < w.heap.size + 4; omega) (.slice (some ⟨g', 0, none⟩) (L.length + 1) cap')
      have hbx : Boxes (w.heap.size + 1) w' (w1.setCell ⟨w.heap.size, 0, none⟩ (.slice (some ⟨g', 0, none⟩) (L.length + 1) cap')) := fun b h1 h2 => by
        have e1 := Below.heap_setCell w1 ⟨w.heap.size, 0, none⟩ (.slice (some ⟨g', 0, none⟩) (L.length + 1) cap') b (by show b ≠ w.heap.size; omega)
        have e2 := hgrow.block b (by rw [World.size_alloc]; omega) (fun e => by have := (World.ownsRow.lt hr b e.symm).1; omega)
        have e3 := Below.heap_alloc w' (.cells #[.string (B x)] 9) b (by omega)
        have e4 := e1.trans (e2.trans e3)
        exact ⟨World.cell?_of_block e4, World.frozen?_of_block e4⟩
      have hc1 := hv1.cell
      have hf1 := hv1.frozen
      have HEND : Hid (Unit → _) := fun _ => And.intro hk2 (And.intro hb2 (And.intro hr2 (And.intro hv2 hbx)))
      clear hk2 hb2 hr2 hv2 hbx hown' hgrow hr
      gi_wp2
      obtain ⟨hk2, hb2, hr2, hv2, hbx⟩ := HEND.out ()
      have hFI : FI s w (k + 1) (w1.setCell ⟨w.heap.size, 0, none⟩ (.slice (some ⟨g', 0, none⟩) (L.length + 1) cap')) := by
        refine ⟨⟨_, hv2, ?_⟩, hB.trans hb2, Nat.le_trans hsz hb2.size⟩
        rw [HOS.out (), List.length_append, cellsOf, List.map_append]
        exact hr2
      obtain ⟨p1, p2, p3⟩ := hFI
      have hbx2 := boxes_of_below (n1 := w.heap.size + 1) hbw (by omega)
      have hbx3 : Boxes (w.heap.size + 1) W (w1.setCell ⟨w.heap.size, 0, none⟩ (.slice (some ⟨g', 0, none⟩) (L.length + 1) cap')) := fun b h1 h2 => ⟨(hbx b h1 h2).1.trans (hbx2 b h1 h2).1, (hbx b h1 h2).2.trans (hbx2 b h1 h2).2⟩
      first
        | exact ⟨(keeps_of_below hbw).trans hk2, hbx3, p1, p2, p3⟩
        | exact ⟨rfl, (keeps_of_below hbw).trans hk2, hbx3, p1, p2, p3⟩
  case done =>
    rintro D W ⟨⟨v, hv, hr⟩, hB, hsz⟩ hK hD
    rw [List.take_of_length_le (Nat.le_refl _)] at hr
    have hcell := hv.cell
    gi_wp2
    refine ⟨by simp, .inl ⟨_, _, rfl, run_takeDeferred hK, ?_⟩⟩
    refine ⟨_, results_tmp rfl _ _ _, ⟨⟨v, rfl, World.ownsRow.mono (ownsRow_putObj hr _ hK rfl) (Nat.le_add_right _ _)⟩, hB.trans (belowK_b (w := w) (Nat.le_refl _) W D _ _ (by omega) hK rfl rfl)⟩⟩
end Go.Proofs.Qxb6603774aDoor
