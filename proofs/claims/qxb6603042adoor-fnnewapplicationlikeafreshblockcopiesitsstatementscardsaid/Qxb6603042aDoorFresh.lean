import Derived.Test.Qxb6603042aDoorLike
import Derived.Test.Qxb6603042aDoorMore
import Derived.Test.Qxb6603042aDoorLiftFresh
import Derived.Shelf.Vars
namespace Go.Proofs.Qxb6603042aDoor.fresh
open Go.RowKit Pl

theorem fresh_len (n c x : List UInt8) (k : Nat) (hn : n.length ≤ k) (hc : c.length ≤ k) (hx : x.length ≤ k) : (freshL n c x).length ≤ 3 * k + 32 ∧ n.length + 16 ≤ (freshL n c x).length := by
  rw [freshL, stmtsL, headL]
  split <;> simp <;> omega

/-- NewApplication where like is a fresh block. -/
theorem app_like_fresh (name c x nm : ByteArray) (n0 c0 x0 : List UInt8) (oi : Int) (bl : Nat) (m : Int) (w : World) (hn : name.size ≤ 4000000) (hc : c.size ≤ 4000000) (hx : x.size ≤ 4000000) (hnm : nm.size ≤ 4000000) (htl : (B (freshL n0 c0 x0)).size ≤ 4000000) (hoi : oi = n0.length + 14)
    (hm : w.cell? ⟨0, 0, none⟩ = some (.int .i64 m)) (k0 : w.cell? ⟨bl, 0, none⟩ = some (.string nm)) (k2 : w.cell? ⟨bl, 2, none⟩ = some (.string ⟨#[]⟩)) (k3 : w.cell? ⟨bl, 3, none⟩ = some (.int .i64 0)) (k4 : w.cell? ⟨bl, 4, none⟩ = some (.string (B (freshL n0 c0 x0)))) (k5 : w.cell? ⟨bl, 5, none⟩ = some (.int .i64 oi)) :
    Calls Tryd.prog 6 #[.string name, .agg #[.string c, .string x], .pointer (some ⟨bl, 0, none⟩)] w fun e w' =>
      e = .returned (.agg #[.string ⟨#[]⟩, .int .i64 0, .string (B (appL (freshL name.data.toList c.data.toList x.data.toList) nm.data.toList (stmtsL c0 x0))), .int .i64 (12 + name.size + 2)]) ∧ Below w.heap.size w w' := by
  have ei : ((B (freshL n0 c0 x0)).extract (n0.length + 14) ((B (freshL n0 c0 x0)).size - 1)).data.toList = 10 :: stmtsL c0 x0 := by
    rw [Lib.extract_data, B_data, B_size, fresh_inner]
  obtain rfl : oi = ((n0.length + 14 : Nat) : Int) := by omega
  have hl : n0.length + 14 + 1 ≤ (B (freshL n0 c0 x0)).size := by
    have := fresh_len n0 c0 x0 (n0.length + c0.length + x0.length) (by omega) (by omega) (by omega)
    rw [B_size]; omega
  have h := app_like_a name c x nm ⟨#[]⟩ (B (freshL n0 c0 x0)) 0 (n0.length + 14) bl m w hn hc hx hnm htl hl hm k0 k2 k3 k4 k5 [] (splitL 10 (stmtsL c0 x0)) (by rw [ei, fresh_trim, fresh_split]) (by decide)
  rw [ei, fresh_copy] at h
  exact h

set_option maxHeartbeats 4000000 in
theorem walk : Walked := by
  intro a0 a1 a2 a3 a4 a5 a6 w hsh l0 l1 l2 l3 l4 l5 l6
  unfold maxLen at l0 l1 l2 l3 l4 l5 l6
  obtain ⟨m, hm⟩ : ∃ m, w.cell? ⟨0, 0, none⟩ = some (.int .i64 m) := cell_of_shapedOpen_int (P := Tryd.prog) (g := 0) (t := 3) (zero := #[.int .i64 0]) hsh (of_decide_eq_true (by kernel_rfl)) (by kernel_rfl) rfl (by kernel_rfl) (by kernel_rfl) Tryd.underlying3
  clear hsh
  go_enter Tryd.func4, Tryd.ntmps4
  go_wp2_with fail
  refine (bytes7_any _ _ _ _ _ _ _ _ l0 l1 l2 l3 l4 l5 l6).mono ?_
  rintro e w' ⟨⟨y, rfl⟩, rfl⟩
  cases y
  · go_wp2_with fail
    go_ret
    exact ⟨rfl, Below.refl _ _⟩
  go_wp2_with fail
  any_goals (solve | (go_ret; exact ⟨rfl, Below.refl _ _⟩))
  have h0 : a0.size ≤ 65536 := by omega
  have h1 : a1.size ≤ 65536 := by omega
  have h2 : a2.size ≤ 65536 := by omega
  have h3 : a3.size ≤ 65536 := by omega
  have h4 : a4.size ≤ 65536 := by omega
  have h5 : a5.size ≤ 65536 := by omega
  have h6 : a6.size ≤ 65536 := by omega
  clear l0 l1 l2 l3 l4 l5 l6
  obtain ⟨F1, hF1⟩ : ∃ F1, F1 = freshL a0.data.toList a1.data.toList a2.data.toList := ⟨_, rfl⟩
  obtain ⟨F3, hF3⟩ : ∃ F3, F3 = freshL a3.data.toList a4.data.toList a5.data.toList := ⟨_, rfl⟩
  have n1 := fresh_len a0.data.toList a1.data.toList a2.data.toList 65536 (by rw [← Lib.size_eq]; omega) (by rw [← Lib.size_eq]; omega) (by rw [← Lib.size_eq]; omega)
  have n3 := fresh_len a3.data.toList a4.data.toList a5.data.toList 65536 (by rw [← Lib.size_eq]; omega) (by rw [← Lib.size_eq]; omega) (by rw [← Lib.size_eq]; omega)
  rw [← hF1, ← B_size, ← Lib.size_eq] at n1
  rw [← hF3, ← B_size, ← Lib.size_eq] at n3
  have p1 := fun W hm => app_nil a0 a1 a2 m W (by omega) (by omega) (by omega) hm
  have p3 := fun W hm => app_nil a3 a4 a5 m W (by omega) (by omega) (by omega) hm
  rw [← hF1] at p1
  rw [← hF3] at p3
  have HF1 : Hid (Unit → _) := fun _ => hF1
  have HF3 : Hid (Unit → _) := fun _ => hF3
  clear hF1 hF3
  have H0lt : 0 < w'.heap.size := World.block_lt_of_cell? _ _ hm
  have HM : Hid (Unit → _) := fun _ => hm
  clear hm
  refine (p1 _ (HM.out ())).mono ?_
  rintro e w1 ⟨rfl, hb1⟩
  have hz1 := hb1.size
  clear p1
  go_wp2_with fail
  refine (p3 _ ?_).mono ?_
  · exact cell_later (hb1.trans (by go_grown)) (HM.out ())
  clear p3
  rintro e w3 ⟨rfl, hb3⟩
  have hz3 := hb3.size
  simp only [World.size_alloc] at hz3
  obtain ⟨c3, f3⟩ := bcell hb3
  simp only [World.size_alloc] at c3
  have s0 := (c3 w1.heap.size 0 (by omega)).trans (show _ = some (.string ⟨#[]⟩) by go_cell)
  have s1 := (c3 w1.heap.size 1 (by omega)).trans (show _ = some (.int .i64 0) by go_cell)
  have s2 := (c3 w1.heap.size 2 (by omega)).trans (show _ = some (.string (B F1)) by go_cell)
  have s3 := (c3 w1.heap.size 3 (by omega)).trans (show _ = some (.int .i64 (12 + a0.size + 2)) by go_cell)
  have t0 := (c3 (w1.heap.size + 1) 0 (by omega)).trans (show _ = some (.string a4) by go_cell)
  have t1 := (c3 (w1.heap.size + 1) 1 (by omega)).trans (show _ = some (.string a5) by go_cell)
  have hb03 : Below w'.heap.size w' w3 := hb1.trans (Below.trans (by go_grown) (hb3.mono (by simp only [World.size_alloc]; omega)))
  clear c3 f3 hb3 hb1
  have q1 : w1.heap.size < w3.heap.size := by omega
  have q2 : w1.heap.size + 1 < w3.heap.size := by omega
  have p2 := fun W bl hm k0 k2 k3 k4 k5 => app_like_fresh a3 a4 a5 a6 a0.data.toList a1.data.toList a2.data.toList (12 + a0.size + 2) bl m W (by omega) (by omega) (by omega) (by omega) (by rw [← HF1.out ()]; omega) (by rw [← Lib.size_eq]; omega) hm k0 k2 k3 k4 k5
  rw [← HF1.out (), ← HF3.out ()] at p2
  obtain ⟨F2, hF2⟩ : ∃ F2, F2 = appL F3 a6.data.toList (stmtsL a1.data.toList a2.data.toList) := ⟨_, rfl⟩
  rw [← hF2] at p2
  have HF2 : Hid (Unit → _) := fun _ => hF2
  clear hF2
  have P2 : Hid _ := p2
  clear p2
  go_wp2_with fail
  refine (P2.out _ _ ?_ ?_ ?_ ?_ ?_ ?_).mono ?_
  · exact cell_later (hb03.trans (by go_grown)) (HM.out ())
  · go_cell
  · go_cell
  · go_cell
  · go_cell
  · go_cell
  clear P2
  rintro e w4 ⟨rfl, hb4⟩
  have hz4 := hb4.size
  obtain ⟨c4, f4⟩ := bcell hb4
  simp only [World.size_alloc] at hz4 c4
  have u0 := (c4 w1.heap.size 0 (by omega)).trans (show _ = some (.string ⟨#[]⟩) from cell_later (by go_grown) s0)
  have u1 := (c4 w1.heap.size 1 (by omega)).trans (show _ = some (.int .i64 0) from cell_later (by go_grown) s1)
  have u2 := (c4 w1.heap.size 2 (by omega)).trans (show _ = some (.string (B F1)) from cell_later (by go_grown) s2)
  have u3 := (c4 w1.heap.size 3 (by omega)).trans (show _ = some (.int .i64 (12 + a0.size + 2)) from cell_later (by go_grown) s3)
  have v0 := (c4 w3.heap.size 0 (by omega)).trans (show _ = some (.string ⟨#[]⟩) by go_cell)
  have v1 := (c4 w3.heap.size 1 (by omega)).trans (show _ = some (.int .i64 0) by go_cell)
  have v2 := (c4 w3.heap.size 2 (by omega)).trans (show _ = some (.string (B F3)) by go_cell)
  have v3 := (c4 w3.heap.size 3 (by omega)).trans (show _ = some (.int .i64 (12 + a3.size + 2)) by go_cell)
  have hb04 : Below w'.heap.size w' w4 := hb03.trans (Below.trans (by go_grown) (hb4.mono (by simp only [World.size_alloc]; omega)))
  clear c4 f4 hb4 hb03 s0 s1 s2 s3 t0 t1
  have q3 : w1.heap.size < w4.heap.size := by omega
  have q4 : w3.heap.size < w4.heap.size := by omega
  go_wp2_with fail
  obtain ⟨st, hst⟩ : ∃ st, st = stmtsL a1.data.toList a2.data.toList := ⟨_, rfl⟩
  have eST : (B F1).extract (12 + a0.size + 2 + 1) ((B F1).size - 1) = B st := by
    refine B_eq ?_
    rw [Lib.extract_data, B_data, B_size, HF1.out (), hst, Lib.size_eq a0, fresh_stmts]
  have hsl : (B st).size ≤ 400000 := by rw [← eST, ByteArray.size_extract]; omega
  rw [eST]
  have H2 : Hid (Unit → F2 = appL F3 a6.data.toList st) := fun _ => by rw [hst]; exact HF2.out ()
  clear eST hst HF2
  refine (more_any _ _ (by omega)).mono ?_
  rintro e w5 ⟨rfl, rfl⟩
  rw [B_data]
  cases hmo : moreB st
  · obtain rfl : F2 = F3 := by rw [H2.out (), appL, if_pos ((more_iff _).1 hmo)]
    go_wp2_with fail
    go_ret
    refine ⟨rfl, ?_⟩
    have hb := hb04
    go_grown
  · have e2 : F2 = F3.dropLast ++ commentL a6.data.toList ++ st ++ [125] := by
      rw [H2.out (), appL, if_neg (fun h => by rw [(more_iff _).2 h] at hmo; cases hmo)]
    have hE : (B F2).toList = ((B F3).extract 0 ((B F3).size - 1) ++ ⟨#[32, 32, 32, 32, 35, 32, 84, 104, 101, 32, 115, 116, 97, 116, 101, 109, 101, 110, 116, 115, 32, 111, 102, 32, 97, 112, 112, 108, 105, 99, 97, 116, 105, 111, 110, 32]⟩ ++ a6 ++ ⟨#[58, 10]⟩ ++ B st ++ ⟨#[125]⟩ : ByteArray).toList := by
      rw [Lib.toList_data, Lib.toList_data, B_data, e2]
      rw [app_data, app_data, app_data, app_data, app_data, Lib.extract_data, B_data, B_data, B_size, List.drop_zero, Nat.sub_zero, List.dropLast_eq_take, commentL]
      simp only [List.append_assoc]
    clear e2 H2 hmo
    go_wp2_with fail
    go_ret
    refine ⟨rfl, ?_⟩
    have hb := hb04
    go_grown

end Go.Proofs.Qxb6603042aDoor.fresh
namespace Go.Proofs.Qxb6603042aDoor
/-- THE STATEMENT. -/
theorem freshBlockProved : Rows.FnNewApplicationLikeAFreshBlockCopiesItsStatementsCardSaid := fresh.card_holds fresh.walk
end Go.Proofs.Qxb6603042aDoor
