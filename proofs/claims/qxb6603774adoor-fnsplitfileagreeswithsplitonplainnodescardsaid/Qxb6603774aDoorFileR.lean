import Derived.Test.Qxb6603774aDoorFileIt
namespace Go.Proofs.Qxb6603774aDoor
open Go.RowKit Go.Shelf Pl

/-- 'for line := range strings.SplitSeq(s, "\n")' with a body that always runs to its end: I between two rounds. -/
theorem range_split {n : Nat} (h2 : 2 ≤ n) {assign body : Code} {Q : Exit → Act → World → Prop} {a : Act} {w : World} (n1 : Nat) (s0 : ByteArray) (hs : s0.size ≤ 4000000)
    (hg : a.eval (.tmp 8) = .func (.func 32) #[] #[.pointer (some ⟨n1 + 1, 0, none⟩), .pointer (some ⟨n1, 0, none⟩), .pointer (some ⟨n1 + 2, 0, none⟩)])
    (hn1 : n1 + 3 ≤ w.heap.size) (c1 : w.cell? ⟨n1, 0, none⟩ = some (.string s0)) (f1 : w.frozen? ⟨n1, 0, none⟩ = false) (c2 : w.cell? ⟨n1 + 1, 0, none⟩ = some (.string ⟨#[10]⟩)) (c3 : w.cell? ⟨n1 + 2, 0, none⟩ = some (.int .i64 0))
    (I : Nat → World → Prop) (hIa : ∀ k W o, I k W → I k (W.alloc o)) (hIp : ∀ k W l o o', I k W → W.heap[l]? = some o → o.isCells = false → w.heap.size ≤ l → I k (W.putObj l o')) (hIs : ∀ k W v, I k W → I k (W.setCell ⟨n1, 0, none⟩ v))
    (h0 : I 0 w) (a₁ : List UInt8 → Act)
    (hassign : ∀ (l : Nat) (x : List UInt8) (W : World) (K : Act → World → Prop), K (a₁ x) W →
      assign.wpIn (Fence.wide.inRound l) (n - 1 - 1) Tryd.prog (Exit.then K (fun _ _ _ => False)) { tmps := ((#[9] : Array Tmp).zip #[Value.string (B x)]).foldl (fun t (p, v) => t.setIfInBounds p v) a.tmps, defers := [] } W)
    (hbody : ∀ (l k : Nat) (x : List UInt8) (W : World), (splitL 10 s0.data.toList)[k]? = some x → I k W →
      body.wpIn (Fence.wide.inRound l) (n - 1 - 1) Tryd.prog (fun e _ W' => e = .normal ∧ KeepsOthers W W' ∧ Boxes n1 W W' ∧ I (k + 1) W') (a₁ x) W)
    (hdone : ∀ (D : Nat) (W : World), I (splitL 10 s0.data.toList).length W → W.heap[D]? = some (.deferred (some [])) → w.heap.size ≤ D → Q .normal { a with defers := { target := .collected D, args := #[] } :: a.defers } W) :
    (Code.rangeFunc (.tmp 8) #[9] assign body).wpIn Fence.wide n Tryd.prog Q a w := by
  refine wpIn_rangeFunc ?_
  intro fn hfn
  obtain ⟨rec, hrec⟩ : ∃ rec : LoopState → Option Code → Loop, rec = fun st pe => { state := st, pending := pe, fn, tmps := a.tmps, params := #[9], assign, body, defers := w.heap.size } := ⟨_, rfl⟩
  obtain ⟨W1, hW1⟩ : ∃ W1, (w.alloc (.deferred (some []))).alloc (.loop (rec .ready none)) = W1 := ⟨_, rfl⟩
  have hL1 : W1.heap[w.heap.size + 1]? = some (.loop (rec .ready none)) := by
    rw [← hW1]; have := World.alloc_heap_new (w.alloc (.deferred (some []))) (.loop (rec .ready none)); rwa [World.size_alloc] at this
  have hK1 : W1.heap[w.heap.size]? = some (.deferred (some [])) := by
    rw [← hW1]; exact (Below.heap_alloc _ _ _ (by simp)).trans (World.alloc_heap_new w _)
  have hI1 : I 0 W1 := by rw [← hW1]; exact hIa _ _ _ (hIa _ _ _ h0)
  have hb1 : Below w.heap.size w W1 := by
    rw [← hW1]; exact ((Below.refl _ w).alloc (Nat.le_refl _) _).alloc (by simp) _
  have e1 := (hb1.cell (p := ⟨n1, 0, none⟩) (by show n1 < w.heap.size; omega)).trans c1
  have e1f := (hb1.frozen (p := ⟨n1, 0, none⟩) (by show n1 < w.heap.size; omega)).trans f1
  have e2 := (hb1.cell (p := ⟨n1 + 1, 0, none⟩) (by show n1 + 1 < w.heap.size; omega)).trans c2
  have e3 := (hb1.cell (p := ⟨n1 + 2, 0, none⟩) (by show n1 + 2 < w.heap.size; omega)).trans c3
  refine ⟨w.heap.size + 1, [{ target := .collected w.heap.size, args := #[] }], W1, { target := .fn (.func 32) #[.pointer (some ⟨n1 + 1, 0, none⟩), .pointer (some ⟨n1, 0, none⟩), .pointer (some ⟨n1 + 2, 0, none⟩)], args := #[.func (.yield (w.heap.size + 1)) #[] #[]] }, W1, 32,
    #[.func (.yield (w.heap.size + 1)) #[] #[], .pointer (some ⟨n1 + 1, 0, none⟩), .pointer (some ⟨n1, 0, none⟩), .pointer (some ⟨n1 + 2, 0, none⟩)], W1, ?_, ?_, ?_, ?_, fun _ => (by omega), ?_⟩
  · rw [← hW1, hrec]; exact run_enterLoop_outer _ _ _ _ _
  · simp only [resolve, hg]
    simp [go_sem]
  · intro f' _; trivial
  · simp [invoke, go_sem]
  · refine (it_c (n - 1) (by omega) (w.heap.size + 1) n1 s0 hs
      (fun k W => I k W ∧ W.heap[w.heap.size + 1]? = some (.loop (rec .ready none)) ∧ W.heap[w.heap.size]? = some (.deferred (some [])))
      (fun k W v ⟨hi, hl, hd⟩ => ⟨hIs k W v hi, (Below.heap_setCell W _ v _ (by show w.heap.size + 1 ≠ n1; omega)).trans hl, (Below.heap_setCell W _ v _ (by show w.heap.size ≠ n1; omega)).trans hd⟩)
      ?_ W1 e1 e1f e2 e3 ⟨hI1, hL1, hK1⟩).mono ?_
    · -- one round
      rintro k x W hx ⟨hi, hl, hk⟩
      have hlt : w.heap.size + 1 < W.heap.size := (Array.getElem?_eq_some_iff.1 hl).1
      have hy := run_yield (P := Tryd.prog) (args := #[Value.string (B x)]) hl (by rw [hrec]; rfl)
      rw [hrec] at hy
      refine ⟨fn, _, assign, body, hy, roundIn_of_wpIn hfn (hassign _ x W _ ⟨_, run_beginRound hl (by rw [hrec]), ?_⟩)⟩
      obtain ⟨W2, hW2⟩ : ∃ W2, W.putObj (w.heap.size + 1) (.loop { rec .ready none with state := .busy }) = W2 := ⟨_, rfl⟩
      have hl2 : W2.heap[w.heap.size + 1]? = some (.loop { rec .ready none with state := .busy }) := by rw [← hW2]; exact World.putObj_heap_same hlt
      have hk2 : W2.heap[w.heap.size]? = some (.deferred (some [])) := by rw [← hW2]; exact (World.putObj_heap_other (by omega)).trans hk
      have hi2 : I k W2 := by rw [← hW2]; exact hIp k W _ _ _ hi hl rfl (by omega)
      have hbx : ∀ (V : World) (o : Obj), Boxes n1 V (V.putObj (w.heap.size + 1) o) := fun V o b h3 h4 => by
        have hb := World.putObj_heap_other (w := V) (r := w.heap.size + 1) (k := b) (o := o) (by omega)
        exact ⟨World.cell?_of_block hb, World.frozen?_of_block hb⟩
      rw [hW2]
      refine wpIn_mono (hbody _ k x W2 hx hi2) ?_
      rintro e a3 W3 ⟨rfl, hk3, hbx3, hi3⟩
      have hl3 := hk3.same _ _ hl2 rfl
      have hr := run_endRound (P := Tryd.prog) none hl3
      rw [hrec] at hr
      refine ⟨_, _, hr, rfl, ⟨hIp _ _ _ _ _ hi3 hl3 rfl (by omega), ?_, ?_⟩, ?_⟩
      · rw [hrec]; exact World.putObj_heap_same (Array.getElem?_eq_some_iff.1 hl3).1
      · exact (World.putObj_heap_other (by omega)).trans (hk3.same _ _ hk2 rfl)
      · intro b h3 h4
        have p1 := hbx W (.loop { rec .ready none with state := .busy }) b h3 h4
        rw [hW2] at p1
        have p2 := hbx3 b h3 h4
        have p3 := fun o => hbx W3 o b h3 h4
        exact ⟨(p3 _).1.trans (p2.1.trans p1.1), (p3 _).2.trans (p2.2.trans p1.2)⟩
    · -- behind the iterator
      rintro e W2 ⟨⟨v, rfl⟩, hi, hl, hk⟩
      refine ⟨none, _, by have := run_endLoop (P := Tryd.prog) hl (by rw [hrec]; simp); rw [hrec] at this; exact this, ?_⟩
      exact hdone _ _ (hIp _ _ _ _ _ hi hl rfl (by omega)) ((World.putObj_heap_other (by omega)).trans hk) (Nat.le_refl _)
end Go.Proofs.Qxb6603774aDoor
