import Derived.Test.Qxb6603097aDoorPlain2
import Derived.Test.Qxb6603097aDoorWalkA
namespace Go.Proofs.Qxb6603097aDoor
open Go.RowKit Pl

set_option maxRecDepth 100000 in
set_option maxHeartbeats 8000000 in
theorem model_minus (s : ByteArray) (w : World) (hs : s.size ≤ 1048576) (h0 : 0 < s.size) (h45 : ((s[0].toNat : Int) == 45) = true) :
    Calls Tryd.prog 8 #[.string s] w fun e w' => e = .returned (modV (modOf true ((s.data.toList.drop 1).takeWhile dig) ((s.data.toList.drop 1).dropWhile dig))) ∧ w' = w := by
  have hwhole := fun k h1 hk hd => mod_whole true s.data.toList 1 k h1 hk hd
  have hfrac := fun k j2 h1 hk hd h2 hj hd2 => mod_frac true s.data.toList 1 k j2 h1 hk hd h2 hj hd2
  have hno := mod_no true s.data.toList 1
  have hoth := fun k c h1 hk hc hcd hd => mod_other true s.data.toList 1 k c h1 hk hc hcd hd
  have hbad := fun k j2 h1 hk hd h2 hd2 hs2 hb => mod_bad true s.data.toList 1 k j2 h1 hk hd h2 hd2 hs2 hb
  generalize modOf true ((s.data.toList.drop 1).takeWhile dig) ((s.data.toList.drop 1).dropWhile dig) = d at hwhole hfrac hno hoth hbad ⊢
  have HWH : Hid (Unit → _) := fun _ => hwhole
  have HFR : Hid (Unit → _) := fun _ => hfrac
  have HNO : Hid (Unit → _) := fun _ => hno
  have HOT : Hid (Unit → _) := fun _ => hoth
  have HBA : Hid (Unit → _) := fun _ => hbad
  clear hwhole hfrac hno hoth hbad
  go_enter Tryd.func8, Tryd.ntmps8
  go_wp2_with fail
  go_loop [7] (fun i => ∃ k : Nat, 1 ≤ k ∧ k ≤ s.size ∧ i = .int .i64 k ∧ Hid (Unit → ∀ j b, 1 ≤ j → j < k → s.data.toList[j]? = some b → dig b = true)) (fun i => s.size - (intOf i).toNat)
  case atStart => exact ⟨1, Nat.le_refl _, by omega, by go_num, fun _ j b h1 h2 => by omega⟩
  case round =>
    obtain ⟨k, hk1, hk2, rfl, HB⟩ := hrel
    by_cases hlt : k < s.size
    · have hgk := get_byte s k hlt
      have HGK : Hid (Unit → _) := fun _ => hgk
      clear hgk
      cases hdk : digB (s[k].toNat : Int)
      · by_cases hkw : k = 1
        · have HDF : Hid (Unit → d = (false, [], [], false)) := fun _ => HNO.out () (fun b hb => by rw [← hkw, HGK.out ()] at hb; cases hb; exact hdk)
          have hkwi : ((k : Int) == (1 : Int)) = true := by rw [beq_iff_eq]; omega
          clear HB HNO HWH HFR HOT HBA hkw
          go_wp2_with (go_at_call 13; refine (isDigit_any _ _).mono ?_; rintro e w' ⟨rfl, rfl⟩)
          exact bodyPost_ret (v := modV (false, [], [], false)) (by simp [results, Tryd.results8, go_sem, modV]; rfl) rfl ⟨by rw [HDF.out ()], rfl⟩
        · have hkwi : ((k : Int) == (1 : Int)) = false := by rw [beq_eq_false_iff_ne]; omega
          cases h46 : ((s[k].toNat : Int) == 46)
          · have h46n : ((s[k].toNat : Int) != 46) = true := by rw [bne, h46]; rfl
            have HDF : Hid (Unit → d = (false, [], [], false)) := fun _ => HOT.out () k s[k] hk1 (HGK.out ()) (fun e => by rw [(eq46 _).2 e] at h46; cases h46) hdk (HB.out ())
            clear HB HNO HWH HFR HOT HBA hkw
            go_wp2_with (go_at_call 13; refine (isDigit_any _ _).mono ?_; rintro e w' ⟨rfl, rfl⟩)
            exact bodyPost_ret (v := modV (false, [], [], false)) (by simp [results, Tryd.results8, go_sem, modV]; rfl) rfl ⟨by rw [HDF.out ()], rfl⟩
          · have h46n : ((s[k].toNat : Int) != 46) = false := by rw [bne, h46]; rfl
            have hk46 : s.data.toList[k]? = some 46 := by rw [HGK.out (), (eq46 _).1 h46]
            have H46 : Hid (Unit → _) := fun _ => hk46
            clear hk46 HNO HWH HOT
            go_wp2_with (go_at_call 13; refine (isDigit_any _ _).mono ?_; rintro e w' ⟨rfl, rfl⟩)
            go_loop [7] (fun i => ∃ j2 : Nat, k + 1 ≤ j2 ∧ j2 ≤ s.size ∧ i = .int .i64 j2 ∧ Hid (Unit → ∀ j b, k + 1 ≤ j → j < j2 → s.data.toList[j]? = some b → dig b = true)) (fun i => s.size - (intOf i).toNat)
            case atStart => exact ⟨k + 1, Nat.le_refl _, by omega, by go_num, fun _ j b h1 h2 => by omega⟩
            case round =>
              obtain ⟨j2, hj1, hj2, rfl, HJ⟩ := hrel
              by_cases hltj : j2 < s.size
              · have hgj := get_byte s j2 hltj
                have HGJ : Hid (Unit → _) := fun _ => hgj
                clear hgj
                cases hdj : digB (s[j2].toNat : Int)
                · have HDF : Hid (Unit → d = (false, [], [], false)) := fun _ => HBA.out () k j2 hk1 (H46.out ()) (HB.out ()) hj1 (HJ.out ()) (fun b hb => by rw [HGJ.out ()] at hb; cases hb; exact hdj) (.inr (by rw [← Lib.size_eq]; exact hltj))
                  have hnb : ((j2 : Int) != (s.size : Int)) = true := by rw [bne_iff_ne]; omega
                  clear HB HFR HBA H46 HJ
                  by_cases hjk : j2 = k + 1
                  · have hjki : ((j2 : Int) == (k : Int) + 1) = true := by rw [beq_iff_eq]; omega
                    clear hjk
                    go_wp2_with (go_at_call 13; refine (isDigit_any _ _).mono ?_; rintro e w' ⟨rfl, rfl⟩)
                    exact bodyPost_ret (v := modV (false, [], [], false)) (by simp [results, Tryd.results8, go_sem, modV]; rfl) rfl ⟨by rw [HDF.out ()], rfl⟩
                  · have hjki : ((j2 : Int) == (k : Int) + 1) = false := by rw [beq_eq_false_iff_ne]; omega
                    go_wp2_with (go_at_call 13; refine (isDigit_any _ _).mono ?_; rintro e w' ⟨rfl, rfl⟩)
                    exact bodyPost_ret (v := modV (false, [], [], false)) (by simp [results, Tryd.results8, go_sem, modV]; rfl) rfl ⟨by rw [HDF.out ()], rfl⟩
                · go_wp2_with (go_at_call 13; refine (isDigit_any _ _).mono ?_; rintro e w' ⟨rfl, rfl⟩)
                  go_round
                  case rel =>
                    refine ⟨j2 + 1, by omega, by omega, by go_num, fun _ j b h1 h2 h3 => ?_⟩
                    by_cases hjj : j = j2
                    · subst hjj; rw [HGJ.out ()] at h3; cases h3; exact hdj
                    · exact HJ.out () j b h1 (by omega) h3
                  case measure => simp [intOf]; omega
              · have hjn : j2 = s.size := by omega
                have hdj : decide ((j2 : Int) < (s.size : Int)) = false := by simp; omega
                have hnb : ((j2 : Int) != (s.size : Int)) = false := by rw [hjn]; simp
                by_cases hjk : j2 = k + 1
                · have HDF : Hid (Unit → d = (false, [], [], false)) := fun _ => HBA.out () k j2 hk1 (H46.out ()) (HB.out ()) hj1 (HJ.out ()) (fun b hb => by rw [List.getElem?_eq_none (by rw [← Lib.size_eq]; omega)] at hb; cases hb) (.inl hjk)
                  have hjki : ((j2 : Int) == (k : Int) + 1) = true := by rw [beq_iff_eq]; omega
                  clear HB HFR HBA H46 HJ hjk hjn
                  go_wp2_with fail
                  exact bodyPost_ret (v := modV (false, [], [], false)) (by simp [results, Tryd.results8, go_sem, modV]; rfl) rfl ⟨by rw [HDF.out ()], rfl⟩
                · have hjki : ((j2 : Int) == (k : Int) + 1) = false := by rw [beq_eq_false_iff_ne]; omega
                  have HD : Hid (Unit → _) := fun _ => HFR.out () k j2 (by omega) (H46.out ()) (HB.out ()) (by omega) (by rw [← Lib.size_eq]; exact hjn) (HJ.out ())
                  have hjs : j2 ≤ s.size := by omega
                  clear HFR HBA H46 HJ hjk hjn
                  go_wp2_with fail
                  go_loop [13] (fun i => ∃ a : Nat, 1 ≤ a ∧ a ≤ k ∧ i = .int .i64 a ∧ Hid (Unit → ∀ j c, 1 ≤ j → j < a → s.data.toList[j]? = some c → c = 48)) (fun i => k - (intOf i).toNat)
                  case atStart => exact ⟨1, Nat.le_refl _, by omega, by go_num, fun _ j c h1 h2 => by omega⟩
                  case round =>
                    obtain ⟨a, ha1, ha2, rfl, HA⟩ := hrel
                    by_cases hlta : a < k
                    · have hq : a < s.size := by omega
                      have hga := get_byte s a hq
                      have HGA : Hid (Unit → _) := fun _ => hga
                      clear hga
                      cases hz : ((s[a].toNat : Int) == 48)
                      · have HAS : Hid (Unit → (a < k → ∀ c, s.data.toList[a]? = some c → c ≠ 48)) := fun _ _ c hc e => by
                          rw [HGA.out ()] at hc
                          cases hc
                          rw [(eq48 _).2 e] at hz; cases hz
                        clear HGA
                        go_wp2_with fail
                        go_loop [14] (fun i => ∃ b : Nat, k + 1 ≤ b ∧ b ≤ j2 ∧ i = .int .i64 b ∧ Hid (Unit → ∀ j c, b ≤ j → j < j2 → s.data.toList[j]? = some c → c = 48)) (fun i => (intOf i).toNat)
                        case atStart => exact ⟨j2, by omega, Nat.le_refl _, by go_num, fun _ j c h1 h2 => by omega⟩
                        case round =>
                          obtain ⟨b, hb1, hb2, rfl, HZ⟩ := hrel
                          by_cases hltb : k + 1 < b
                          · obtain ⟨q, rfl⟩ : ∃ q, b = q + 1 := ⟨b - 1, by omega⟩
                            have hq : q < s.size := by omega
                            have hgq := get_byte s q hq
                            have HGQ : Hid (Unit → _) := fun _ => hgq
                            clear hgq
                            cases hz48 : ((s[q].toNat : Int) == 48)
                            · have HBS : Hid (Unit → (k + 1 < q + 1 → ∀ c, s.data.toList[q + 1 - 1]? = some c → c ≠ 48)) := fun _ _ c hc e => by
                                rw [Nat.add_sub_cancel, HGQ.out ()] at hc
                                cases hc
                                rw [(eq48 _).2 e] at hz48; cases hz48
                              obtain ⟨W, hW⟩ : ∃ W, W = cutL s.data.toList a k := ⟨_, rfl⟩
                              obtain ⟨F, hF⟩ : ∃ F, F = cutL s.data.toList (k + 1) (q + 1) := ⟨_, rfl⟩
                              have xW : s.extract a k = B W := by rw [ext_cutL, hW]
                              have xF : s.extract (k + 1) (q + 1) = B F := by rw [ext_cutL, hF]
                              have HD2 : Hid (Unit → d = (true && !(decide (W = []) && decide (F = [])), W, F, true)) := fun _ => by
                                rw [HD.out (), trimL_pos s.data.toList 1 a k (by omega) (by omega) (by rw [← Lib.size_eq]; omega) (HA.out ()) (HAS.out ()), trimR_pos s.data.toList (k + 1) (q + 1) (j2) (by omega) (by omega) (by rw [← Lib.size_eq]; omega) (HZ.out ()) (HBS.out ()), hW, hF]
                              clear hW hF HD HA HAS HB
                              by_cases hWe : W = []
                              · have hW0 : (B W).toList.isEmpty = true := by rw [isEmpty_B, hWe]; rfl
                                by_cases hFe : F = []
                                · have hF0 : (B F).toList.isEmpty = true := by rw [isEmpty_B, hFe]; rfl
                                  have HD3 : Hid (Unit → d = (false, W, F, true)) := fun _ => by rw [HD2.out (), hWe, hFe]; rfl
                                  clear HD2 hWe hFe
                                  go_wp2_with fail
                                  exact bodyPost_ret (v := modV (false, W, F, true)) (by simp [results, Tryd.results8, go_sem, modV]) rfl ⟨by rw [HD3.out ()], rfl⟩
                                · have hF0 : (B F).toList.isEmpty = false := by rw [isEmpty_B]; cases F with | nil => exact absurd rfl hFe | cons _ _ => rfl
                                  have HD3 : Hid (Unit → d = (true, W, F, true)) := fun _ => by rw [HD2.out (), decide_eq_false hFe]; simp
                                  clear HD2 hWe hFe
                                  go_wp2_with fail
                                  exact bodyPost_ret (v := modV (true, W, F, true)) (by simp [results, Tryd.results8, go_sem, modV]) rfl ⟨by rw [HD3.out ()], rfl⟩
                              · have hW0 : (B W).toList.isEmpty = false := by rw [isEmpty_B]; cases W with | nil => exact absurd rfl hWe | cons _ _ => rfl
                                have HD3 : Hid (Unit → d = (true, W, F, true)) := fun _ => by rw [HD2.out (), decide_eq_false hWe]; simp
                                clear HD2 hWe
                                go_wp2_with fail
                                exact bodyPost_ret (v := modV (true, W, F, true)) (by simp [results, Tryd.results8, go_sem, modV]) rfl ⟨by rw [HD3.out ()], rfl⟩

                            · go_wp2_with fail
                              go_round
                              case rel =>
                                refine ⟨q, by omega, by omega, by go_num, fun _ j c h1 h2 h3 => ?_⟩
                                by_cases hjq : j = q
                                · subst hjq; rw [HGQ.out ()] at h3; cases h3; exact (eq48 _).1 hz48
                                · exact HZ.out () j c (by omega) h2 h3
                              case measure => simp [intOf]
                          · have hdb : decide (((k + 1 : Nat) : Int) < (b : Int)) = false := by simp; omega
                            obtain ⟨W, hW⟩ : ∃ W, W = cutL s.data.toList a k := ⟨_, rfl⟩
                            obtain ⟨F, hF⟩ : ∃ F, F = cutL s.data.toList (k + 1) (b) := ⟨_, rfl⟩
                            have xW : s.extract a k = B W := by rw [ext_cutL, hW]
                            have xF : s.extract (k + 1) (b) = B F := by rw [ext_cutL, hF]
                            have HD2 : Hid (Unit → d = (true && !(decide (W = []) && decide (F = [])), W, F, true)) := fun _ => by
                              rw [HD.out (), trimL_pos s.data.toList 1 a k (by omega) (by omega) (by rw [← Lib.size_eq]; omega) (HA.out ()) (HAS.out ()), trimR_pos s.data.toList (k + 1) (b) (j2) (by omega) (by omega) (by rw [← Lib.size_eq]; omega) (HZ.out ()) (fun h => absurd h hltb), hW, hF]
                            clear hW hF HD HA HAS HB
                            by_cases hWe : W = []
                            · have hW0 : (B W).toList.isEmpty = true := by rw [isEmpty_B, hWe]; rfl
                              by_cases hFe : F = []
                              · have hF0 : (B F).toList.isEmpty = true := by rw [isEmpty_B, hFe]; rfl
                                have HD3 : Hid (Unit → d = (false, W, F, true)) := fun _ => by rw [HD2.out (), hWe, hFe]; rfl
                                clear HD2 hWe hFe
                                go_wp2_with fail
                                exact bodyPost_ret (v := modV (false, W, F, true)) (by simp [results, Tryd.results8, go_sem, modV]) rfl ⟨by rw [HD3.out ()], rfl⟩
                              · have hF0 : (B F).toList.isEmpty = false := by rw [isEmpty_B]; cases F with | nil => exact absurd rfl hFe | cons _ _ => rfl
                                have HD3 : Hid (Unit → d = (true, W, F, true)) := fun _ => by rw [HD2.out (), decide_eq_false hFe]; simp
                                clear HD2 hWe hFe
                                go_wp2_with fail
                                exact bodyPost_ret (v := modV (true, W, F, true)) (by simp [results, Tryd.results8, go_sem, modV]) rfl ⟨by rw [HD3.out ()], rfl⟩
                            · have hW0 : (B W).toList.isEmpty = false := by rw [isEmpty_B]; cases W with | nil => exact absurd rfl hWe | cons _ _ => rfl
                              have HD3 : Hid (Unit → d = (true, W, F, true)) := fun _ => by rw [HD2.out (), decide_eq_false hWe]; simp
                              clear HD2 hWe
                              go_wp2_with fail
                              exact bodyPost_ret (v := modV (true, W, F, true)) (by simp [results, Tryd.results8, go_sem, modV]) rfl ⟨by rw [HD3.out ()], rfl⟩

                      · go_wp2_with fail
                        go_round
                        case rel =>
                          refine ⟨a + 1, by omega, by omega, by go_num, fun _ j c h1 h2 h3 => ?_⟩
                          by_cases hja : j = a
                          · subst hja; rw [HGA.out ()] at h3; cases h3; exact (eq48 _).1 hz
                          · exact HA.out () j c h1 (by omega) h3
                        case measure => simp [intOf]; omega
                    · have hda : decide ((a : Int) < ((k : Nat) : Int)) = false := by simp; omega
                      have HAS : Hid (Unit → (a < k → ∀ c, s.data.toList[a]? = some c → c ≠ 48)) := fun _ h => absurd h hlta
                      go_wp2_with fail
                      go_loop [14] (fun i => ∃ b : Nat, k + 1 ≤ b ∧ b ≤ j2 ∧ i = .int .i64 b ∧ Hid (Unit → ∀ j c, b ≤ j → j < j2 → s.data.toList[j]? = some c → c = 48)) (fun i => (intOf i).toNat)
                      case atStart => exact ⟨j2, by omega, Nat.le_refl _, by go_num, fun _ j c h1 h2 => by omega⟩
                      case round =>
                        obtain ⟨b, hb1, hb2, rfl, HZ⟩ := hrel
                        by_cases hltb : k + 1 < b
                        · obtain ⟨q, rfl⟩ : ∃ q, b = q + 1 := ⟨b - 1, by omega⟩
                          have hq : q < s.size := by omega
                          have hgq := get_byte s q hq
                          have HGQ : Hid (Unit → _) := fun _ => hgq
                          clear hgq
                          cases hz48 : ((s[q].toNat : Int) == 48)
                          · have HBS : Hid (Unit → (k + 1 < q + 1 → ∀ c, s.data.toList[q + 1 - 1]? = some c → c ≠ 48)) := fun _ _ c hc e => by
                              rw [Nat.add_sub_cancel, HGQ.out ()] at hc
                              cases hc
                              rw [(eq48 _).2 e] at hz48; cases hz48
                            obtain ⟨W, hW⟩ : ∃ W, W = cutL s.data.toList a k := ⟨_, rfl⟩
                            obtain ⟨F, hF⟩ : ∃ F, F = cutL s.data.toList (k + 1) (q + 1) := ⟨_, rfl⟩
                            have xW : s.extract a k = B W := by rw [ext_cutL, hW]
                            have xF : s.extract (k + 1) (q + 1) = B F := by rw [ext_cutL, hF]
                            have HD2 : Hid (Unit → d = (true && !(decide (W = []) && decide (F = [])), W, F, true)) := fun _ => by
                              rw [HD.out (), trimL_pos s.data.toList 1 a k (by omega) (by omega) (by rw [← Lib.size_eq]; omega) (HA.out ()) (HAS.out ()), trimR_pos s.data.toList (k + 1) (q + 1) (j2) (by omega) (by omega) (by rw [← Lib.size_eq]; omega) (HZ.out ()) (HBS.out ()), hW, hF]
                            clear hW hF HD HA HAS HB
                            by_cases hWe : W = []
                            · have hW0 : (B W).toList.isEmpty = true := by rw [isEmpty_B, hWe]; rfl
                              by_cases hFe : F = []
                              · have hF0 : (B F).toList.isEmpty = true := by rw [isEmpty_B, hFe]; rfl
                                have HD3 : Hid (Unit → d = (false, W, F, true)) := fun _ => by rw [HD2.out (), hWe, hFe]; rfl
                                clear HD2 hWe hFe
                                go_wp2_with fail
                                exact bodyPost_ret (v := modV (false, W, F, true)) (by simp [results, Tryd.results8, go_sem, modV]) rfl ⟨by rw [HD3.out ()], rfl⟩
                              · have hF0 : (B F).toList.isEmpty = false := by rw [isEmpty_B]; cases F with | nil => exact absurd rfl hFe | cons _ _ => rfl
                                have HD3 : Hid (Unit → d = (true, W, F, true)) := fun _ => by rw [HD2.out (), decide_eq_false hFe]; simp
                                clear HD2 hWe hFe
                                go_wp2_with fail
                                exact bodyPost_ret (v := modV (true, W, F, true)) (by simp [results, Tryd.results8, go_sem, modV]) rfl ⟨by rw [HD3.out ()], rfl⟩
                            · have hW0 : (B W).toList.isEmpty = false := by rw [isEmpty_B]; cases W with | nil => exact absurd rfl hWe | cons _ _ => rfl
                              have HD3 : Hid (Unit → d = (true, W, F, true)) := fun _ => by rw [HD2.out (), decide_eq_false hWe]; simp
                              clear HD2 hWe
                              go_wp2_with fail
                              exact bodyPost_ret (v := modV (true, W, F, true)) (by simp [results, Tryd.results8, go_sem, modV]) rfl ⟨by rw [HD3.out ()], rfl⟩

                          · go_wp2_with fail
                            go_round
                            case rel =>
                              refine ⟨q, by omega, by omega, by go_num, fun _ j c h1 h2 h3 => ?_⟩
                              by_cases hjq : j = q
                              · subst hjq; rw [HGQ.out ()] at h3; cases h3; exact (eq48 _).1 hz48
                              · exact HZ.out () j c (by omega) h2 h3
                            case measure => simp [intOf]
                        · have hdb : decide (((k + 1 : Nat) : Int) < (b : Int)) = false := by simp; omega
                          obtain ⟨W, hW⟩ : ∃ W, W = cutL s.data.toList a k := ⟨_, rfl⟩
                          obtain ⟨F, hF⟩ : ∃ F, F = cutL s.data.toList (k + 1) (b) := ⟨_, rfl⟩
                          have xW : s.extract a k = B W := by rw [ext_cutL, hW]
                          have xF : s.extract (k + 1) (b) = B F := by rw [ext_cutL, hF]
                          have HD2 : Hid (Unit → d = (true && !(decide (W = []) && decide (F = [])), W, F, true)) := fun _ => by
                            rw [HD.out (), trimL_pos s.data.toList 1 a k (by omega) (by omega) (by rw [← Lib.size_eq]; omega) (HA.out ()) (HAS.out ()), trimR_pos s.data.toList (k + 1) (b) (j2) (by omega) (by omega) (by rw [← Lib.size_eq]; omega) (HZ.out ()) (fun h => absurd h hltb), hW, hF]
                          clear hW hF HD HA HAS HB
                          by_cases hWe : W = []
                          · have hW0 : (B W).toList.isEmpty = true := by rw [isEmpty_B, hWe]; rfl
                            by_cases hFe : F = []
                            · have hF0 : (B F).toList.isEmpty = true := by rw [isEmpty_B, hFe]; rfl
                              have HD3 : Hid (Unit → d = (false, W, F, true)) := fun _ => by rw [HD2.out (), hWe, hFe]; rfl
                              clear HD2 hWe hFe
                              go_wp2_with fail
                              exact bodyPost_ret (v := modV (false, W, F, true)) (by simp [results, Tryd.results8, go_sem, modV]) rfl ⟨by rw [HD3.out ()], rfl⟩
                            · have hF0 : (B F).toList.isEmpty = false := by rw [isEmpty_B]; cases F with | nil => exact absurd rfl hFe | cons _ _ => rfl
                              have HD3 : Hid (Unit → d = (true, W, F, true)) := fun _ => by rw [HD2.out (), decide_eq_false hFe]; simp
                              clear HD2 hWe hFe
                              go_wp2_with fail
                              exact bodyPost_ret (v := modV (true, W, F, true)) (by simp [results, Tryd.results8, go_sem, modV]) rfl ⟨by rw [HD3.out ()], rfl⟩
                          · have hW0 : (B W).toList.isEmpty = false := by rw [isEmpty_B]; cases W with | nil => exact absurd rfl hWe | cons _ _ => rfl
                            have HD3 : Hid (Unit → d = (true, W, F, true)) := fun _ => by rw [HD2.out (), decide_eq_false hWe]; simp
                            clear HD2 hWe
                            go_wp2_with fail
                            exact bodyPost_ret (v := modV (true, W, F, true)) (by simp [results, Tryd.results8, go_sem, modV]) rfl ⟨by rw [HD3.out ()], rfl⟩

      · go_wp2_with (go_at_call 13; refine (isDigit_any _ _).mono ?_; rintro e w' ⟨rfl, rfl⟩)
        go_round
        case rel =>
          refine ⟨k + 1, by omega, by omega, by go_num, fun _ j b h1 h2 h3 => ?_⟩
          by_cases hjk : j = k
          · subst hjk; rw [HGK.out ()] at h3; cases h3; exact hdk
          · exact HB.out () j b h1 (by omega) h3
        case measure => simp [intOf]; omega
    · have hkn : k = s.size := by omega
      have hdk : decide ((k : Int) < (s.size : Int)) = false := by simp; omega
      by_cases hkw : k = 1
      · have HDF : Hid (Unit → d = (false, [], [], false)) := fun _ => HNO.out () (fun b hb => by rw [List.getElem?_eq_none (by rw [← Lib.size_eq]; omega)] at hb; cases hb)
        have hkwi : ((k : Int) == (1 : Int)) = true := by rw [beq_iff_eq]; omega
        clear HB HNO HWH HFR HOT HBA hkw hkn
        go_wp2_with fail
        exact bodyPost_ret (v := modV (false, [], [], false)) (by simp [results, Tryd.results8, go_sem, modV]; rfl) rfl ⟨by rw [HDF.out ()], rfl⟩
      · have hkwi : ((k : Int) == (1 : Int)) = false := by rw [beq_eq_false_iff_ne]; omega
        have HD0 : Hid (Unit → _) := fun _ => HWH.out () k (by omega) (by rw [← Lib.size_eq]; exact hkn) (HB.out ())
        have HD : Hid (Unit → d = (true && !(decide (Lib.trimLeftB (cutL s.data.toList 1 k) 48 = []) && decide (Lib.trimRightB (cutL s.data.toList k k) 48 = [])), Lib.trimLeftB (cutL s.data.toList 1 k) 48, Lib.trimRightB (cutL s.data.toList k k) 48, true)) := fun _ => by
          have e : Lib.trimRightB (cutL s.data.toList k k) 48 = [] := by simp [cutL, Lib.trimRightB]
          rw [HD0.out (), e]; simp
        clear HD0 HNO HWH HFR HOT HBA hkw hkn
        go_wp2_with fail
        go_loop [13] (fun i => ∃ a : Nat, 1 ≤ a ∧ a ≤ k ∧ i = .int .i64 a ∧ Hid (Unit → ∀ j c, 1 ≤ j → j < a → s.data.toList[j]? = some c → c = 48)) (fun i => k - (intOf i).toNat)
        case atStart => exact ⟨1, Nat.le_refl _, by omega, by go_num, fun _ j c h1 h2 => by omega⟩
        case round =>
          obtain ⟨a, ha1, ha2, rfl, HA⟩ := hrel
          by_cases hlta : a < k
          · have hq : a < s.size := by omega
            have hga := get_byte s a hq
            have HGA : Hid (Unit → _) := fun _ => hga
            clear hga
            cases hz : ((s[a].toNat : Int) == 48)
            · have HAS : Hid (Unit → (a < k → ∀ c, s.data.toList[a]? = some c → c ≠ 48)) := fun _ _ c hc e => by
                rw [HGA.out ()] at hc
                cases hc
                rw [(eq48 _).2 e] at hz; cases hz
              clear HGA
              go_wp2_with fail
              go_loop [14] (fun i => ∃ b : Nat, k ≤ b ∧ b ≤ k ∧ i = .int .i64 b ∧ Hid (Unit → ∀ j c, b ≤ j → j < k → s.data.toList[j]? = some c → c = 48)) (fun i => (intOf i).toNat)
              case atStart => exact ⟨k, by omega, Nat.le_refl _, by go_num, fun _ j c h1 h2 => by omega⟩
              case round =>
                obtain ⟨b, hb1, hb2, rfl, HZ⟩ := hrel
                by_cases hltb : k < b
                · exact absurd hltb (by omega)
                · have hdb : decide (((k : Nat) : Int) < (b : Int)) = false := by simp; omega
                  obtain ⟨W, hW⟩ : ∃ W, W = cutL s.data.toList a k := ⟨_, rfl⟩
                  obtain ⟨F, hF⟩ : ∃ F, F = cutL s.data.toList (k) (b) := ⟨_, rfl⟩
                  have xW : s.extract a k = B W := by rw [ext_cutL, hW]
                  have xF : s.extract (k) (b) = B F := by rw [ext_cutL, hF]
                  have HD2 : Hid (Unit → d = (true && !(decide (W = []) && decide (F = [])), W, F, true)) := fun _ => by
                    rw [HD.out (), trimL_pos s.data.toList 1 a k (by omega) (by omega) (by rw [← Lib.size_eq]; omega) (HA.out ()) (HAS.out ()), trimR_pos s.data.toList (k) (b) (k) (by omega) (by omega) (by rw [← Lib.size_eq]; omega) (HZ.out ()) (fun h => absurd h hltb), hW, hF]
                  clear hW hF HD HA HAS HB
                  by_cases hWe : W = []
                  · have hW0 : (B W).toList.isEmpty = true := by rw [isEmpty_B, hWe]; rfl
                    by_cases hFe : F = []
                    · have hF0 : (B F).toList.isEmpty = true := by rw [isEmpty_B, hFe]; rfl
                      have HD3 : Hid (Unit → d = (false, W, F, true)) := fun _ => by rw [HD2.out (), hWe, hFe]; rfl
                      clear HD2 hWe hFe
                      go_wp2_with fail
                      exact bodyPost_ret (v := modV (false, W, F, true)) (by simp [results, Tryd.results8, go_sem, modV]) rfl ⟨by rw [HD3.out ()], rfl⟩
                    · have hF0 : (B F).toList.isEmpty = false := by rw [isEmpty_B]; cases F with | nil => exact absurd rfl hFe | cons _ _ => rfl
                      have HD3 : Hid (Unit → d = (true, W, F, true)) := fun _ => by rw [HD2.out (), decide_eq_false hFe]; simp
                      clear HD2 hWe hFe
                      go_wp2_with fail
                      exact bodyPost_ret (v := modV (true, W, F, true)) (by simp [results, Tryd.results8, go_sem, modV]) rfl ⟨by rw [HD3.out ()], rfl⟩
                  · have hW0 : (B W).toList.isEmpty = false := by rw [isEmpty_B]; cases W with | nil => exact absurd rfl hWe | cons _ _ => rfl
                    have HD3 : Hid (Unit → d = (true, W, F, true)) := fun _ => by rw [HD2.out (), decide_eq_false hWe]; simp
                    clear HD2 hWe
                    go_wp2_with fail
                    exact bodyPost_ret (v := modV (true, W, F, true)) (by simp [results, Tryd.results8, go_sem, modV]) rfl ⟨by rw [HD3.out ()], rfl⟩

            · go_wp2_with fail
              go_round
              case rel =>
                refine ⟨a + 1, by omega, by omega, by go_num, fun _ j c h1 h2 h3 => ?_⟩
                by_cases hja : j = a
                · subst hja; rw [HGA.out ()] at h3; cases h3; exact (eq48 _).1 hz
                · exact HA.out () j c h1 (by omega) h3
              case measure => simp [intOf]; omega
          · have hda : decide ((a : Int) < ((k : Nat) : Int)) = false := by simp; omega
            have HAS : Hid (Unit → (a < k → ∀ c, s.data.toList[a]? = some c → c ≠ 48)) := fun _ h => absurd h hlta
            go_wp2_with fail
            go_loop [14] (fun i => ∃ b : Nat, k ≤ b ∧ b ≤ k ∧ i = .int .i64 b ∧ Hid (Unit → ∀ j c, b ≤ j → j < k → s.data.toList[j]? = some c → c = 48)) (fun i => (intOf i).toNat)
            case atStart => exact ⟨k, by omega, Nat.le_refl _, by go_num, fun _ j c h1 h2 => by omega⟩
            case round =>
              obtain ⟨b, hb1, hb2, rfl, HZ⟩ := hrel
              by_cases hltb : k < b
              · exact absurd hltb (by omega)
              · have hdb : decide (((k : Nat) : Int) < (b : Int)) = false := by simp; omega
                obtain ⟨W, hW⟩ : ∃ W, W = cutL s.data.toList a k := ⟨_, rfl⟩
                obtain ⟨F, hF⟩ : ∃ F, F = cutL s.data.toList (k) (b) := ⟨_, rfl⟩
                have xW : s.extract a k = B W := by rw [ext_cutL, hW]
                have xF : s.extract (k) (b) = B F := by rw [ext_cutL, hF]
                have HD2 : Hid (Unit → d = (true && !(decide (W = []) && decide (F = [])), W, F, true)) := fun _ => by
                  rw [HD.out (), trimL_pos s.data.toList 1 a k (by omega) (by omega) (by rw [← Lib.size_eq]; omega) (HA.out ()) (HAS.out ()), trimR_pos s.data.toList (k) (b) (k) (by omega) (by omega) (by rw [← Lib.size_eq]; omega) (HZ.out ()) (fun h => absurd h hltb), hW, hF]
                clear hW hF HD HA HAS HB
                by_cases hWe : W = []
                · have hW0 : (B W).toList.isEmpty = true := by rw [isEmpty_B, hWe]; rfl
                  by_cases hFe : F = []
                  · have hF0 : (B F).toList.isEmpty = true := by rw [isEmpty_B, hFe]; rfl
                    have HD3 : Hid (Unit → d = (false, W, F, true)) := fun _ => by rw [HD2.out (), hWe, hFe]; rfl
                    clear HD2 hWe hFe
                    go_wp2_with fail
                    exact bodyPost_ret (v := modV (false, W, F, true)) (by simp [results, Tryd.results8, go_sem, modV]) rfl ⟨by rw [HD3.out ()], rfl⟩
                  · have hF0 : (B F).toList.isEmpty = false := by rw [isEmpty_B]; cases F with | nil => exact absurd rfl hFe | cons _ _ => rfl
                    have HD3 : Hid (Unit → d = (true, W, F, true)) := fun _ => by rw [HD2.out (), decide_eq_false hFe]; simp
                    clear HD2 hWe hFe
                    go_wp2_with fail
                    exact bodyPost_ret (v := modV (true, W, F, true)) (by simp [results, Tryd.results8, go_sem, modV]) rfl ⟨by rw [HD3.out ()], rfl⟩
                · have hW0 : (B W).toList.isEmpty = false := by rw [isEmpty_B]; cases W with | nil => exact absurd rfl hWe | cons _ _ => rfl
                  have HD3 : Hid (Unit → d = (true, W, F, true)) := fun _ => by rw [HD2.out (), decide_eq_false hWe]; simp
                  clear HD2 hWe
                  go_wp2_with fail
                  exact bodyPost_ret (v := modV (true, W, F, true)) (by simp [results, Tryd.results8, go_sem, modV]) rfl ⟨by rw [HD3.out ()], rfl⟩


end Go.Proofs.Qxb6603097aDoor
