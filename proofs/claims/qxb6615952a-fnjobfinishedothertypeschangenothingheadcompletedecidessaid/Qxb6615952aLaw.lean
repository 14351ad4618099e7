/-
  The law (function 4), walked.
-/
import Derived.Test.Qxb6615952aCopy
namespace Go.Proofs.Qxb6615952a.Jf
open Go.RowKit

set_option maxRecDepth 100000 in
set_option maxHeartbeats 12800000 in
theorem law_any (a0 a1 a2 : Option Addr) (T S R : List ByteArray) (c0 c1 c2 : Nat) (p : Int) (xt xs xr : ByteArray) (w : World) (h0 : Strs w a0 T) (h1 : Strs w a1 S) (h2 : Strs w a2 R) (m0 : T.length ≤ maxLen) (m1 : S.length ≤ maxLen) (m2 : R.length ≤ maxLen) :
    Calls Try.prog 4 #[.slice a0 T.length c0, .slice a1 S.length c1, .slice a2 R.length c2, .int .i64 p, .string xt, .string xs, .string xr] w fun e w' => e = .returned (.bool true) ∧ Below w.heap.size w w' := by
  obtain ⟨i0, hi, hz0, hz1, hz2⟩ := info_parts Try.info9
  have nn := fun (w : World) (a : Option Addr) (n c : Nat) => run_neq_slice_nil_any (P := Try.prog) w 22 9 a n c 0 0 Try.underlying22
  have HB := hide (bytes_any a0 a1 a2 T S R c0 c1 c2 p xt xs xr w h0 h1 h2 m0 m1 m2)
  go_enter Try.func4, Try.ntmps4
  go_wp2_with fail
  refine HB.out.mono ?_
  rintro e w' ⟨⟨r, rfl⟩, hw'⟩
  subst w'
  clear HB
  cases r
  · go_wp2
    go_ret
    exact ⟨rfl, Below.refl _ _⟩
  by_cases l0 : T.length ≤ 65536
  case neg => as_aux_lemma => go_wp2; go_ret; exact ⟨rfl, Below.refl _ _⟩
  by_cases l1 : S.length ≤ 65536
  case neg => as_aux_lemma => go_wp2; go_ret; exact ⟨rfl, Below.refl _ _⟩
  by_cases l2 : R.length ≤ 65536
  case neg => as_aux_lemma => go_wp2; go_ret; exact ⟨rfl, Below.refl _ _⟩
  by_cases l3 : xt.size ≤ 65536
  case neg => as_aux_lemma => go_wp2; go_ret; exact ⟨rfl, Below.refl _ _⟩
  by_cases l4 : xs.size ≤ 65536
  case neg => as_aux_lemma => go_wp2; go_ret; exact ⟨rfl, Below.refl _ _⟩
  by_cases l5 : xr.size ≤ 65536
  case neg => as_aux_lemma => go_wp2; go_ret; exact ⟨rfl, Below.refl _ _⟩
  go_upto_if 64 with fail
  go_cut [0] from 15 (fun v wc => Hid (Copied w T v wc))
  case first => as_aux_lemma =>
    have B0 : Hid (Below w.heap.size w w) := hide (Below.refl _ _)
    rcases a0 with _ | ad
    · have HC : Hid (Copied w T (.slice none T.length c0) w) := hide ⟨_, _, rfl, h0, B0.out⟩
      go_wp2
      go_meet
      case rel => exact HC
    · have HS := hide h0
      clear h0
      go_wp2_with (at_make; refine wpList_make_full _ rfl _ _ 22 rfl w.heap.size 9 i0 (.string ⟨#[]⟩) 1 Try.underlying22 hi hz0 hz1 .i64 .i64 _ _ T.length rfl rfl rfl rfl ?k1 ?k2 ?k3 ?_)
      case k1 => rw [hz2]; omega
      case k2 => unfold maxLen; omega
      case k3 => exact Nat.le_refl _
      intro wm hown hgr
      obtain ⟨cur, hcl, hcur⟩ := row_cur hown
      have hbm : Below w.heap.size w wm := B0.out.grown hgr (Nat.le_refl _) (fun k hk => by cases hk)
      have HSm := hide (HS.out.below hbm (Nat.le_refl _))
      have Hcur := hide hcur
      have Hbm := hide hbm
      clear hown hgr hcur hbm HS B0
      obtain ⟨wk, hrun, HC⟩ := copy_run (W := w) c0 hcl Hcur.out HSm.out Hbm.out (Nat.le_refl _)
      clear HSm Hcur Hbm
      go_wp2
      go_meet
      case rel => exact HC
  obtain ⟨W1, hW1⟩ : ∃ W1, W1 = wc := ⟨_, rfl⟩
  subst wc
  obtain ⟨a0', c0', rfl, h0', b1⟩ := hcut.out
  have h1' := h1.below b1 (Nat.le_refl _)
  have h2' := h2.below b1 (Nat.le_refl _)
  clear h0 h1 h2 hcut
  go_upto_if 73 with fail
  go_cut [1] from 15 (fun v wc => Hid (Copied W1 S v wc))
  case first => as_aux_lemma =>
    have B0 : Hid (Below W1.heap.size W1 W1) := hide (Below.refl _ _)
    rcases a1 with _ | ad
    · have HC : Hid (Copied W1 S (.slice none S.length c1) W1) := hide ⟨_, _, rfl, h1', B0.out⟩
      go_wp2
      go_meet
      case rel => exact HC
    · have HS := hide h1'
      clear h1'
      go_wp2_with (at_make; refine wpList_make_full _ rfl _ _ 22 rfl W1.heap.size 9 i0 (.string ⟨#[]⟩) 1 Try.underlying22 hi hz0 hz1 .i64 .i64 _ _ S.length rfl rfl rfl rfl ?k1 ?k2 ?k3 ?_)
      case k1 => rw [hz2]; omega
      case k2 => unfold maxLen; omega
      case k3 => exact Nat.le_refl _
      intro wm hown hgr
      obtain ⟨cur, hcl, hcur⟩ := row_cur hown
      have hbm : Below W1.heap.size W1 wm := B0.out.grown hgr (Nat.le_refl _) (fun k hk => by cases hk)
      have HSm := hide (HS.out.below hbm (Nat.le_refl _))
      have Hcur := hide hcur
      have Hbm := hide hbm
      clear hown hgr hcur hbm HS B0
      obtain ⟨wk, hrun, HC⟩ := copy_run (W := W1) c1 hcl Hcur.out HSm.out Hbm.out (Nat.le_refl _)
      clear HSm Hcur Hbm
      go_wp2
      go_meet
      case rel => exact HC
  obtain ⟨W2, hW2⟩ : ∃ W2, W2 = wc := ⟨_, rfl⟩
  subst wc
  obtain ⟨a1', c1', rfl, h1'', b2⟩ := hcut.out
  have h0'' := h0'.below b2 (Nat.le_refl _)
  have h2'' := h2'.below b2 (Nat.le_refl _)
  have b12 := b1.trans (b2.mono b1.size)
  clear h0' h1' h2' b1 b2 hcut
  go_upto_if 82 with fail
  go_cut [2] from 15 (fun v wc => Hid (Copied W2 R v wc))
  case first => as_aux_lemma =>
    have B0 : Hid (Below W2.heap.size W2 W2) := hide (Below.refl _ _)
    rcases a2 with _ | ad
    · have HC : Hid (Copied W2 R (.slice none R.length c2) W2) := hide ⟨_, _, rfl, h2'', B0.out⟩
      go_wp2
      go_meet
      case rel => exact HC
    · have HS := hide h2''
      clear h2''
      go_wp2_with (at_make; refine wpList_make_full _ rfl _ _ 22 rfl W2.heap.size 9 i0 (.string ⟨#[]⟩) 1 Try.underlying22 hi hz0 hz1 .i64 .i64 _ _ R.length rfl rfl rfl rfl ?k1 ?k2 ?k3 ?_)
      case k1 => rw [hz2]; omega
      case k2 => unfold maxLen; omega
      case k3 => exact Nat.le_refl _
      intro wm hown hgr
      obtain ⟨cur, hcl, hcur⟩ := row_cur hown
      have hbm : Below W2.heap.size W2 wm := B0.out.grown hgr (Nat.le_refl _) (fun k hk => by cases hk)
      have HSm := hide (HS.out.below hbm (Nat.le_refl _))
      have Hcur := hide hcur
      have Hbm := hide hbm
      clear hown hgr hcur hbm HS B0
      obtain ⟨wk, hrun, HC⟩ := copy_run (W := W2) c2 hcl Hcur.out HSm.out Hbm.out (Nat.le_refl _)
      clear HSm Hcur Hbm
      go_wp2
      go_meet
      case rel => exact HC
  obtain ⟨W3, hW3⟩ : ∃ W3, W3 = wc := ⟨_, rfl⟩
  subst wc
  obtain ⟨a2', c2', rfl, k2, b3⟩ := hcut.out
  have k0 := h0''.below b3 (Nat.le_refl _)
  have k1 := h1''.below b3 (Nat.le_refl _)
  have b13 := b12.trans (b3.mono b12.size)
  clear h0'' h1'' h2'' b12 b3 hcut
  go_wp2_with fail
  refine (strBytes_any _ _ _ _ _ k0 m0).mono ?_
  rintro e w' ⟨⟨z, rfl⟩, hw'⟩
  subst w'
  go_upto_if 101 with fail
  go_cut [18] from 19 (fun v wc => (∃ z : Int, v = .int .i64 z) ∧ wc = W3)
  case first => as_aux_lemma =>
    by_cases hz : z ≤ 1048576
    · have HK := hide (fun x => strBytes_any a1' S c1' x W3 k1 m1)
      clear k0 k1 k2
      go_wp2_with fail
      refine (HK.out _).mono ?_
      rintro e w' ⟨⟨z', rfl⟩, hw'⟩
      subst w'
      go_wp2
      go_meet
      case rel => exact ⟨⟨_, rfl⟩, rfl⟩
    · go_wp2
      go_meet
      case rel => exact ⟨⟨_, rfl⟩, rfl⟩
  obtain ⟨⟨z2, rfl⟩, hwc⟩ := hcut
  subst wc
  clear z
  go_upto_if 106 with fail
  go_cut [18] from 19 (fun v wc => (∃ z : Int, v = .int .i64 z) ∧ wc = W3)
  case first => as_aux_lemma =>
    by_cases hz : z2 ≤ 1048576
    · have HK := hide (fun x => strBytes_any a2' R c2' x W3 k2 m2)
      clear k0 k1 k2
      go_wp2_with fail
      refine (HK.out _).mono ?_
      rintro e w' ⟨⟨z', rfl⟩, hw'⟩
      subst w'
      go_wp2
      go_meet
      case rel => exact ⟨⟨_, rfl⟩, rfl⟩
    · go_wp2
      go_meet
      case rel => exact ⟨⟨_, rfl⟩, rfl⟩
  obtain ⟨⟨z3, rfl⟩, hwc⟩ := hcut
  subst wc
  clear z2
  by_cases hz : z3 ≤ 1048576
  case neg => as_aux_lemma => go_wp2; go_ret; exact ⟨rfl, b13⟩
  by_cases eS : S.length = T.length
  case neg => as_aux_lemma => go_wp2; go_ret; exact ⟨rfl, b13⟩
  by_cases eR : R.length = T.length
  case neg => as_aux_lemma => go_wp2; go_ret; exact ⟨rfl, b13⟩
  by_cases hp0 : 0 ≤ p
  case neg => as_aux_lemma => go_wp2; go_ret; exact ⟨rfl, b13⟩
  by_cases hp1 : p ≤ T.length
  case neg => as_aux_lemma => go_wp2; go_ret; exact ⟨rfl, b13⟩
  by_cases hc : xt = tComplete
  case pos => as_aux_lemma =>
    have hq := beq_t xt tComplete _ complete_list hc
    clear hc
    go_wp2; go_ret; exact ⟨rfl, b13⟩
  by_cases hd : xt = tFailed
  case pos => as_aux_lemma =>
    have hq := beq_f xt tComplete _ complete_list hc
    have hq2 := beq_t xt tFailed _ failed_list hd
    clear hc hd
    go_wp2; go_ret; exact ⟨rfl, b13⟩
  have hq := beq_f xt tComplete _ complete_list hc
  have hq2 := beq_f xt tFailed _ failed_list hd
  obtain ⟨q, rfl⟩ := Int.eq_ofNat_of_zero_le hp0
  have hqT : q ≤ T.length := by omega
  have HFi := hide (fin_ins xt xs xr hc hd q T S R eS eR)
  have HFh := hide (fin_head xr T S R)
  have ES := hide eS
  have ER := hide eR
  clear hc hd
  obtain ⟨F, hF⟩ : ∃ F, F = fin (rows T S R) := ⟨_, rfl⟩
  obtain ⟨⟨f1, f2, f3⟩, f4⟩ := F
  have HF := hide hF
  clear hF
  go_upto_region 30 with fail
  clear eS eR
  clear hz hq hq2 hp0 hp1
  go_cut [19, 20] from 21 (fun v1 v2 wc => ∃ b : Nat, v1 = .pointer (some ⟨b, 0, none⟩) ∧ v2 = .bool f4 ∧ Hid (Out W3 b f1 f2 f3 wc))
  case first => as_aux_lemma =>
    have HJ := hide (job_any a0' a1' a2' T S R c0' c1' c2' W3 k0 k1 k2 ES.out ER.out (by omega))
    rw [ES.out, ER.out] at HJ
    clear k0 k1 k2
    go_wp2_with fail
    refine HJ.out.mono ?_
    rintro e w1 ⟨o, st, lb, cap, m, rfl, hJ, hb⟩
    have HN := hide (finished_any o st lb cap m _ w1 hJ)
    rw [← HF.out] at HN
    have Hb := hide hb
    clear hJ hb HJ
    go_wp2_with fail
    refine HN.out.mono ?_
    rintro e w2 ⟨rfl, hb2⟩
    have HO := hide (out_new f1 f2 f3 (Hb.out.trans (hb2.mono Hb.out.size)))
    clear HN Hb hb2
    unfold finVal cv
    go_wp2
    go_meet
    case rel => exact ⟨_, rfl, rfl, HO⟩
  obtain ⟨W4, hW4⟩ : ∃ W4, W4 = wc := ⟨_, rfl⟩
  subst wc
  obtain ⟨B1, rfl, rfl, HO1⟩ := hcut
  replace k0 := k0.below HO1.out.bel (Nat.le_refl _)
  replace k1 := k1.below HO1.out.bel (Nat.le_refl _)
  replace k2 := k2.below HO1.out.bel (Nat.le_refl _)
  replace b13 := b13.trans (HO1.out.bel.mono b13.size)
  go_upto_region 31 with fail
  go_cut [21, 22] from 23 (fun v1 v2 wc => ∃ b : Nat, v1 = .pointer (some ⟨b, 0, none⟩) ∧ v2 = .bool f4 ∧ Hid (Out W4 b f1 f2 f3 wc))
  case first => as_aux_lemma =>
    clear HO1 b13
    have HI := hide (insert_any a0' T c0' q xt W4 k0 hqT l0)
    clear k0
    go_wp2_with fail
    refine HI.out.mono ?_
    rintro e w1 ⟨g1, d1, rfl, s1, e1⟩
    replace k1 := k1.below e1 (Nat.le_refl _)
    replace k2 := k2.below e1 (Nat.le_refl _)
    have HI2 := hide (insert_any a1' S c1' q xs w1 k1 (by rw [ES.out]; exact hqT) l1)
    rw [ES.out] at HI2
    clear k1 HI
    go_wp2_with fail
    refine HI2.out.mono ?_
    rintro e w2 ⟨g2, d2, rfl, s2, e2⟩
    replace s1 := s1.below e2 (Nat.le_refl _)
    replace k2 := k2.below e2 (Nat.le_refl _)
    replace e2 := e1.trans (e2.mono e1.size)
    have HI3 := hide (insert_any a2' R c2' q xr w2 k2 (by rw [ER.out]; exact hqT) l2)
    rw [ER.out] at HI3
    clear k2 e1 HI2
    go_wp2_with fail
    refine HI3.out.mono ?_
    rintro e w3 ⟨g3, d3, rfl, s3, e3⟩
    replace s1 := s1.below e3 (Nat.le_refl _)
    replace s2 := s2.below e3 (Nat.le_refl _)
    replace e3 := e2.trans (e3.mono e2.size)
    have HJ := hide (job_any (some ⟨g1, 0, none⟩) (some ⟨g2, 0, none⟩) (some ⟨g3, 0, none⟩) (insAt q xt T) (insAt q xs S) (insAt q xr R) d1 d2 d3 w3 s1 s2 s3
      (by rw [insAt_len _ _ _ hqT, insAt_len _ _ _ (by rw [ES.out]; exact hqT), ES.out]) (by rw [insAt_len _ _ _ hqT, insAt_len _ _ _ (by rw [ER.out]; exact hqT), ER.out]) (by rw [insAt_len _ _ _ hqT]; omega))
    have He := hide e3
    clear s1 s2 s3 e2 e3 HI3
    go_wp2_with fail
    refine HJ.out.mono ?_
    rintro e w4 ⟨o, st, lb, cap, m, rfl, hJ, hb⟩
    have HN := hide (finished_any o st lb cap m _ w4 hJ)
    rw [HFi.out, ← HF.out] at HN
    have Hb := hide (He.out.trans (hb.mono He.out.size))
    clear hJ hb HJ He
    go_wp2_with fail
    refine HN.out.mono ?_
    rintro e w5 ⟨rfl, hb2⟩
    have HO := hide (out_new f1 f2 f3 (Hb.out.trans (hb2.mono Hb.out.size)))
    clear HN Hb hb2
    unfold finVal cv
    go_wp2
    go_meet
    case rel => exact ⟨_, rfl, rfl, HO⟩
  obtain ⟨W5, hW5⟩ : ∃ W5, W5 = wc := ⟨_, rfl⟩
  subst wc
  obtain ⟨B2, rfl, rfl, HO2⟩ := hcut
  replace k0 := k0.below HO2.out.bel (Nat.le_refl _)
  replace k1 := k1.below HO2.out.bel (Nat.le_refl _)
  replace k2 := k2.below HO2.out.bel (Nat.le_refl _)
  replace b13 := b13.trans (HO2.out.bel.mono b13.size)
  replace HO1 := hide (HO1.out.next HO2.out.bel)
  clear HFi HF hqT
  go_upto_region 32 with fail
  go_cut [23, 24] from 25 (fun v1 v2 wc => ∃ b : Nat, v1 = .pointer (some ⟨b, 0, none⟩) ∧ v2 = .bool true ∧ Hid (Out W5 b tComplete tTrue xr wc))
  case first => as_aux_lemma =>
    clear HO1 HO2 b13
    have HI := hide (insert_any a0' T c0' 0 tComplete W5 k0 (Nat.zero_le _) l0)
    clear k0
    go_wp2_with fail
    refine HI.out.mono ?_
    rintro e w1 ⟨g1, d1, rfl, s1, e1⟩
    replace k1 := k1.below e1 (Nat.le_refl _)
    replace k2 := k2.below e1 (Nat.le_refl _)
    have HI2 := hide (insert_any a1' S c1' 0 tTrue w1 k1 (Nat.zero_le _) l1)
    rw [ES.out] at HI2
    clear k1 HI
    go_wp2_with fail
    refine HI2.out.mono ?_
    rintro e w2 ⟨g2, d2, rfl, s2, e2⟩
    replace s1 := s1.below e2 (Nat.le_refl _)
    replace k2 := k2.below e2 (Nat.le_refl _)
    replace e2 := e1.trans (e2.mono e1.size)
    have HI3 := hide (insert_any a2' R c2' 0 xr w2 k2 (Nat.zero_le _) l2)
    rw [ER.out] at HI3
    clear k2 e1 HI2
    go_wp2_with fail
    refine HI3.out.mono ?_
    rintro e w3 ⟨g3, d3, rfl, s3, e3⟩
    replace s1 := s1.below e3 (Nat.le_refl _)
    replace s2 := s2.below e3 (Nat.le_refl _)
    replace e3 := e2.trans (e3.mono e2.size)
    have HJ := hide (job_any (some ⟨g1, 0, none⟩) (some ⟨g2, 0, none⟩) (some ⟨g3, 0, none⟩) (insAt 0 tComplete T) (insAt 0 tTrue S) (insAt 0 xr R) d1 d2 d3 w3 s1 s2 s3
      (by rw [insAt_len _ _ _ (Nat.zero_le _), insAt_len _ _ _ (Nat.zero_le _), ES.out]) (by rw [insAt_len _ _ _ (Nat.zero_le _), insAt_len _ _ _ (Nat.zero_le _), ER.out]) (by rw [insAt_len _ _ _ (Nat.zero_le _)]; omega))
    have He := hide e3
    clear s1 s2 s3 e2 e3 HI3
    go_wp2_with fail
    refine HJ.out.mono ?_
    rintro e w4 ⟨o, st, lb, cap, m, rfl, hJ, hb⟩
    have HN := hide (finished_any o st lb cap m _ w4 hJ)
    rw [HFh.out] at HN
    have Hb := hide (He.out.trans (hb.mono He.out.size))
    clear hJ hb HJ He
    go_wp2_with fail
    refine HN.out.mono ?_
    rintro e w5 ⟨rfl, hb2⟩
    have HO := hide (out_new tComplete tTrue xr (Hb.out.trans (hb2.mono Hb.out.size)))
    clear HN Hb hb2
    unfold finVal cv
    go_wp2
    go_meet
    case rel => exact ⟨_, rfl, rfl, HO⟩
  obtain ⟨W6, hW6⟩ : ∃ W6, W6 = wc := ⟨_, rfl⟩
  subst wc
  obtain ⟨B3, rfl, rfl, HO3⟩ := hcut
  replace b13 := b13.trans (HO3.out.bel.mono b13.size)
  replace HO1 := hide (HO1.out.next HO3.out.bel)
  replace HO2 := hide (HO2.out.next HO3.out.bel)
  clear HFh ES ER k0 k1 k2 l0 l1 l2 m0 m1 m2
  have x10 : W6.cell? ⟨B1, 0, none⟩ = some (.string f1) := HO1.out.cells.cell 0
  have x11 : W6.cell? ⟨B1, 1, none⟩ = some (.string f2) := HO1.out.cells.cell 1
  have x12 : W6.cell? ⟨B1, 2, none⟩ = some (.string ⟨#[]⟩) := HO1.out.cells.cell 2
  have x13 : W6.cell? ⟨B1, 3, none⟩ = some (.string ⟨#[]⟩) := HO1.out.cells.cell 3
  have x14 : W6.cell? ⟨B1, 4, none⟩ = some (.string ⟨#[]⟩) := HO1.out.cells.cell 4
  have x15 : W6.cell? ⟨B1, 5, none⟩ = some (.string f3) := HO1.out.cells.cell 5
  have x16 : W6.cell? ⟨B1, 6, none⟩ = some (.string ⟨#[]⟩) := HO1.out.cells.cell 6
  have y1 : B1 < W6.heap.size := HO1.out.lt
  have x20 : W6.cell? ⟨B2, 0, none⟩ = some (.string f1) := HO2.out.cells.cell 0
  have x21 : W6.cell? ⟨B2, 1, none⟩ = some (.string f2) := HO2.out.cells.cell 1
  have x22 : W6.cell? ⟨B2, 2, none⟩ = some (.string ⟨#[]⟩) := HO2.out.cells.cell 2
  have x23 : W6.cell? ⟨B2, 3, none⟩ = some (.string ⟨#[]⟩) := HO2.out.cells.cell 3
  have x24 : W6.cell? ⟨B2, 4, none⟩ = some (.string ⟨#[]⟩) := HO2.out.cells.cell 4
  have x25 : W6.cell? ⟨B2, 5, none⟩ = some (.string f3) := HO2.out.cells.cell 5
  have x26 : W6.cell? ⟨B2, 6, none⟩ = some (.string ⟨#[]⟩) := HO2.out.cells.cell 6
  have y2 : B2 < W6.heap.size := HO2.out.lt
  have x30 : W6.cell? ⟨B3, 0, none⟩ = some (.string ⟨#[67, 111, 109, 112, 108, 101, 116, 101]⟩) := HO3.out.cells.cell 0
  have x31 : W6.cell? ⟨B3, 1, none⟩ = some (.string ⟨#[84, 114, 117, 101]⟩) := HO3.out.cells.cell 1
  have x32 : W6.cell? ⟨B3, 2, none⟩ = some (.string ⟨#[]⟩) := HO3.out.cells.cell 2
  have x33 : W6.cell? ⟨B3, 3, none⟩ = some (.string ⟨#[]⟩) := HO3.out.cells.cell 3
  have x34 : W6.cell? ⟨B3, 4, none⟩ = some (.string ⟨#[]⟩) := HO3.out.cells.cell 4
  have x35 : W6.cell? ⟨B3, 5, none⟩ = some (.string xr) := HO3.out.cells.cell 5
  have x36 : W6.cell? ⟨B3, 6, none⟩ = some (.string ⟨#[]⟩) := HO3.out.cells.cell 6
  have y3 : B3 < W6.heap.size := HO3.out.lt
  clear HO1 HO2 HO3
  have HB := hide b13
  clear b13
  go_wp2
  go_ret
  exact ⟨rfl, HB.out.alloc HB.out.size _⟩

end Go.Proofs.Qxb6615952a.Jf
