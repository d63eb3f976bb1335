/-
  THE WALK of FnNextPieceEndsTheLineAtItsLF (8).
-/
import Derived.Test.Qxb6613793aDoorR13
set_option linter.unusedVariables false
set_option linter.unusedSimpArgs false
namespace Go.Proofs.Qxb6613793aDoor
open Go.RowKit

/-- The rows that zzRecords makes, at their first two places. -/
theorem recs01 {w : World} {B D n : Nat} {v u : Value} {l : List Int} (h : w.ownsRow B 22 1 v (cuts l 0).length ((cuts l 0).map (rv D n))) (h2 : w.ownsRow B 3 1 u (cuts l 0).length ((cuts l 0).map ev)) (hne : l ≠ []) :
    ∃ gv cv gu cu NC, v = .slice (some ⟨gv, 0, none⟩) NC cv ∧ u = .slice (some ⟨gu, 0, none⟩) NC cu ∧ 0 < NC ∧ NC ≤ l.length ∧ gv < w.heap.size ∧ gu < w.heap.size ∧ w.cell? ⟨gv, 0, none⟩ = some (.slice (some ⟨D, 0, none⟩) (l.idxOf 10) n) ∧ w.cell? ⟨gu, 0, none⟩ = some (.int .i64 (nx l 0 : Nat)) ∧
      (l.length ≤ nx l 0 → NC = 1) ∧ (nx l 0 < l.length → 1 < NC ∧ w.cell? ⟨gv, 1, none⟩ = some (rv D n (nx l 0, nx l 0 + (l.drop (nx l 0)).idxOf 10, nx l (nx l 0)))) := by
  have hl : 0 < l.length := List.length_pos_iff.2 hne
  have hc := cuts_cons l 0 hl
  have hcl := cuts_len l l.length 0 (Nat.le_refl _)
  obtain ⟨g, cap, hv, hg, hcell⟩ := row_at (xs := (cuts l 0).map (rv D n)) (by rw [List.length_map]; exact h) (by rw [List.length_map, hc]; simp)
  obtain ⟨g2, cap2, hv2, hg2, hcell2⟩ := row_at (xs := (cuts l 0).map ev) (by rw [List.length_map]; exact h2) (by rw [List.length_map, hc]; simp)
  rw [List.length_map] at hv hv2
  refine ⟨g, cap, g2, cap2, (cuts l 0).length, hv, hv2, by rw [hc]; simp, by omega, hg, hg2, ?_, ?_, fun h => ?_, fun h => ?_⟩
  · refine (hcell 0 _ (by rw [hc]; rfl)).trans ?_
    simp [rv]
  · exact hcell2 0 _ (by rw [hc]; rfl)
  · rw [hc, cuts_nil l _ h]; rfl
  · have hc1 := cuts_cons l (nx l 0) h
    rw [hc1] at hc
    exact ⟨by rw [hc]; simp, hcell 1 _ (by rw [hc]; rfl)⟩

set_option maxRecDepth 100000 in
theorem law8_early (a0 : Option Addr) (n c : Nat) (z : Int) (w : World) (hn : n ≤ maxLen) (h : 1048576 < n ∨ 65536 < z) :
    Calls Tryd.prog 8 #[.slice a0 n c, .int .i64 z] w fun e w' => e = .returned (.bool true) ∧ Below w.heap.size w w' := by
  have hm : n ≤ 9223372036854775807 := by simp only [maxLen] at hn; omega
  by_cases h1 : 1048576 < n
  · go_enter Tryd.func8, Tryd.ntmps8
    go_wp2
    go_ret
    exact ⟨rfl, Below.refl _ _⟩
  · have h2 : 65536 < z := by omega
    go_enter Tryd.func8, Tryd.ntmps8
    go_wp2
    go_ret
    exact ⟨rfl, Below.refl _ _⟩

set_option maxRecDepth 100000 in
set_option maxHeartbeats 4000000 in
theorem law8_empty (a0 : Option Addr) (n c : Nat) (z : Int) (l : List Int) (aE aF : Addr) (w : World) (hh : Handed w a0 n c l) (hb : n ≤ 1048576) (hz1 : -9223372036854775808 ≤ z) (hz2 : z ≤ 65536) (henv : Env aE aF w) (hl : l = []) :
    Calls Tryd.prog 8 #[.slice a0 n c, .int .i64 z] w fun e w' => e = .returned (.bool true) ∧ Below w.heap.size w w' := by
  have HN := hide hh.1
  have H12 := hide (clone_all a0 n c l w hh hb)
  have H27 := hide (eff_all z)
  have HCS : Hid (cuts l 0 = []) := by rw [hl]; exact cuts_nil [] 0 (Nat.le_refl _)
  have HL := hide hl
  clear hh hl
  go_enter Tryd.func8, Tryd.ntmps8
  go_wp2_with (first
    | (go_at_call 30; go_in)
    | (go_at_call 12; go_must (refine H12.out.mono ?_; rintro e w1 ⟨ao, rfl, hao, hd1, hb1⟩; clear H12; have henv1 := henv.below hb1))
    | (go_at_call 27; go_must (refine (H27.out _).mono ?_; rintro e w' ⟨rfl, rfl⟩; rw [eff_int]; clear H27))
    | (go_at_call 23; go_must (refine (records_all ao n l w1 HN.out hao hd1).mono ?_; rintro e w2 ⟨rvv, uvv, D, rfl, hD, hr2, hu2, hb2⟩; have hd2 := hd1.below hb2; have henv2 := henv1.below hb2; clear hu2 hD; rw [HCS.out] at hr2; obtain ⟨av, cv, rfl⟩ := own_len hr2; simp only [List.length_nil]))
    | (go_at_call 18; go_must (refine (newReader_all ao n n z l aE aF w2 HN.out hz1 hz2 henv2 hd2).mono ?_; rintro e w3 ⟨Q, hQ, rfl, hok, hrs3, hb3⟩))
    | (go_at_call 14; go_must (refine (zzhead_none _ hok Q w3 _ 0 hrs3 HL.out).mono ?_; rintro e w4 ⟨rfl, hrs4, hC4⟩)))
  go_ret
  have hbe4 : Below w2.heap.size w2 w4 := hb3.trans (hC4.below hb3.size (fun k hk h => h.elim (fun h => by have := fresh_own _ _ _ _ _ _ _ _ h; omega) (fun h => by omega)))
  exact ⟨rfl, (hb1.trans (hb2.mono hb1.size)).trans (hbe4.mono (Nat.le_trans hb1.size hb2.size))⟩

set_option maxRecDepth 100000 in
set_option maxHeartbeats 8000000 in
theorem law8_shortA (a0 : Option Addr) (n c : Nat) (z : Int) (l : List Int) (aE aF : Addr) (w : World) (hh : Handed w a0 n c l) (hb : n ≤ 1048576) (hz1 : -9223372036854775808 ≤ z) (hz2 : z ≤ 65536) (henv : Env aE aF w) (hne : l ≠ []) (hf : l.idxOf 10 < effOf z) (hA : l.length ≤ nx l 0) :
    Calls Tryd.prog 8 #[.slice a0 n c, .int .i64 z] w fun e w' => e = .returned (.bool true) ∧ Below w.heap.size w w' := by
  have HN := hide hh.1
  have H12 := hide (clone_all a0 n c l w hh hb)
  have H27 := hide (eff_all z)
  have HNE := hide hne
  have hll : 0 < l.length := List.length_pos_iff.2 hne
  have hLl : l.idxOf 10 ≤ l.length := idx_le l
  have hnl : l.length ≤ 1048576 := by have := hh.1; omega
  have hE16 := (eff_bounds z hz2).1
  have hEb := (eff_bounds z hz2).2
  obtain ⟨E, hE⟩ : ∃ E, E = effOf z := ⟨_, rfl⟩
  have HEI : Hid ((if z < 16 then 16 else z) = (E : Int)) := by rw [hE]; exact eff_int z
  obtain ⟨L, hL⟩ : ∃ L, L = l.idxOf 10 := ⟨_, rfl⟩
  rw [← hE] at hE16 hEb hf
  rw [← hL] at hLl hf
  have HE := hide hE
  have HLL := hide hL
  have hnn : n = l.length := hh.1
  have hnb : L ≤ n := by omega
  have HNN := hide hnn
  clear hh hne hE hL hnn
  obtain ⟨N1, hN1⟩ : ∃ x, x = nx l 0 := ⟨_, rfl⟩
  rw [← hN1] at hA
  have hN1b : N1 ≤ l.length := by rw [hN1]; exact (nx_gt l 0 hll).2
  have hN1e : N1 = min (L + 1) l.length := by rw [hN1]; unfold nx; rw [List.drop_zero, Nat.zero_add]; have := HLL.out; rw [← this]
  have HN1 := hide hN1
  have HN1E := hide hN1e
  have HA := hide hA
  clear hN1 hN1e hA
  go_enter Tryd.func8, Tryd.ntmps8
  go_wp2_with (first
    | (go_at_call 30; go_in)
    | (go_at_call 12; go_must (refine H12.out.mono ?_; rintro e w1 ⟨ao, rfl, hao, hd1, hb1⟩; clear H12; have henv1 := henv.below hb1))
    | (go_at_call 27; go_must (refine (H27.out _).mono ?_; rintro e w' ⟨rfl, rfl⟩; rw [HEI.out]; clear H27))
    | (go_at_call 23; go_must (refine (records_all ao n l w1 HN.out hao hd1).mono ?_; rintro e w2 ⟨rvv, uvv, D, rfl, hD, hr2, hu2, hb2⟩; have hd2 := hd1.below hb2; have henv2 := henv1.below hb2; have HDD := hide (hD HNE.out); clear hD; obtain ⟨gv, cv, gu, cu, NC, rfl, rfl, hNC, hNC2, hgv, hgu, hc20, hcu20, hone, hmore⟩ := recs01 hr2 hu2 HNE.out; have HONE := hide hone; have HMORE := hide hmore; clear hr2 hu2 hone hmore; have HNC1 : Hid (NC = 1) := HONE.out (by have := HA.out; rw [HN1.out] at this; exact this)))
    | (go_at_call 18; go_must (refine (newReader_all ao n n z l aE aF w2 HN.out hz1 hz2 henv2 hd2).mono ?_; rintro e w3 ⟨Q, hQ, rfl, hok, hrs3, hb3⟩; have hpo := fresh_own w2 z ao n l aE aF; obtain ⟨p, hpd⟩ : ∃ p, p = fresh w2 z ao n l aE aF := ⟨_, rfl⟩; rw [← hpd] at hok hrs3 hpo; have HPL : Hid (p.l = l) := congrArg Pm.l hpd; have HPE : Hid (p.eff = E) := (congrArg Pm.eff hpd).trans HE.out.symm; have HPO := hide hpo; have hB2 : w2.heap.size ≤ Q := (by omega); have HF := hide (foot0_above hpo hB2); clear hpd hpo))
    | (go_at_call 14; go_must (refine (zzhead_last p hok Q w3 _ 0 hrs3 (by rw [HPL.out, HPE.out, List.drop_zero, ← HLL.out]; exact hf) (by rw [HPL.out, List.drop_zero]; exact hll)).mono ?_; rintro e w4 ⟨v4, rfl, hl4, hrs4, hC4⟩; rw [HPL.out, List.drop_zero, ← HLL.out] at hl4 hrs4; rw [Nat.zero_add, ← HN1E.out] at hrs4; obtain ⟨o4, c4, rfl, -, -, -, -⟩ := hl4; rw [show (l.take L).length = L from (by simp; omega)]; have hbe4 : Below w2.heap.size w2 w4 := hb3.trans (hC4.below hb3.size HF.out); have hc40 : w4.cell? ⟨gv, 0, none⟩ = some (.slice (some ⟨D, 0, none⟩) L n) := (by rw [HLL.out]; exact (hbe4.cell (p := ⟨gv, 0, none⟩) hgv).trans hc20); have hcu40 : w4.cell? ⟨gu, 0, none⟩ = some (.int .i64 (N1 : Int)) := (by rw [HN1.out]; exact (hbe4.cell (p := ⟨gu, 0, none⟩) hgu).trans hcu20))))
  have HLG : Hid (∀ g, (.slice none 0 0 : Value).ownBlock = some g → w2.heap.size ≤ g) := fun g h => by cases h
  go_quiet ((go_at_call 15; go_must (refine Calls.quiet_of_same ((zzread p Q _ _ _ _ (hrs4.drewN _)).mono (fun e w' h => ⟨h.1, h.2.symm⟩)))))
  have hrsT : RS p Q (w4.drewN nq) (.slice none 0 0) false N1 := hrs4.drewN nq
  have hbeT : Below w2.heap.size w2 (w4.drewN nq) := ⟨hbe4.os, hbe4.tape, hbe4.output, hbe4.size, hbe4.block⟩
  generalize w4.drewN nq = WT at *
  have hNC1 := HNC1.out
  have hdr : p.l.drop N1 = [] := by rw [HPL.out]; exact List.drop_of_length_le HA.out
  go_wp2_with (go_at_call 24; go_must (refine (zznext_none p hok Q WT _ N1 hrsT hdr).mono ?_; rintro e w9 ⟨rfl, hrs9, hC9⟩))
  go_ret
  have hbe9 : Below w2.heap.size w2 w9 := hbeT.trans (hC9.below hbeT.size (foot_above HPO.out hB2 HLG.out))
  exact ⟨rfl, (hb1.trans (hb2.mono hb1.size)).trans (hbe9.mono (Nat.le_trans hb1.size hb2.size))⟩

set_option maxRecDepth 100000 in
set_option maxHeartbeats 8000000 in
theorem law8_shortB (a0 : Option Addr) (n c : Nat) (z : Int) (l : List Int) (aE aF : Addr) (w : World) (hh : Handed w a0 n c l) (hb : n ≤ 1048576) (hz1 : -9223372036854775808 ≤ z) (hz2 : z ≤ 65536) (henv : Env aE aF w) (hne : l ≠ []) (hf : l.idxOf 10 < effOf z) (hA : nx l 0 < l.length) :
    Calls Tryd.prog 8 #[.slice a0 n c, .int .i64 z] w fun e w' => e = .returned (.bool true) ∧ Below w.heap.size w w' := by
  have HN := hide hh.1
  have H12 := hide (clone_all a0 n c l w hh hb)
  have H27 := hide (eff_all z)
  have HNE := hide hne
  have hll : 0 < l.length := List.length_pos_iff.2 hne
  have hLl : l.idxOf 10 ≤ l.length := idx_le l
  have hnl : l.length ≤ 1048576 := by have := hh.1; omega
  have hE16 := (eff_bounds z hz2).1
  have hEb := (eff_bounds z hz2).2
  obtain ⟨E, hE⟩ : ∃ E, E = effOf z := ⟨_, rfl⟩
  have HEI : Hid ((if z < 16 then 16 else z) = (E : Int)) := by rw [hE]; exact eff_int z
  obtain ⟨L, hL⟩ : ∃ L, L = l.idxOf 10 := ⟨_, rfl⟩
  rw [← hE] at hE16 hEb hf
  rw [← hL] at hLl hf
  have HE := hide hE
  have HLL := hide hL
  have hnn : n = l.length := hh.1
  have hnb : L ≤ n := by omega
  have HNN := hide hnn
  clear hh hne hE hL hnn
  obtain ⟨N1, hN1⟩ : ∃ x, x = nx l 0 := ⟨_, rfl⟩
  rw [← hN1] at hA
  have hN1b : N1 ≤ l.length := by rw [hN1]; exact (nx_gt l 0 hll).2
  have hN1e : N1 = min (L + 1) l.length := by rw [hN1]; unfold nx; rw [List.drop_zero, Nat.zero_add]; have := HLL.out; rw [← this]
  have HN1 := hide hN1
  have HN1E := hide hN1e
  have HA := hide hA
  clear hN1 hN1e hA
  go_enter Tryd.func8, Tryd.ntmps8
  go_wp2_with (first
    | (go_at_call 30; go_in)
    | (go_at_call 12; go_must (refine H12.out.mono ?_; rintro e w1 ⟨ao, rfl, hao, hd1, hb1⟩; clear H12; have henv1 := henv.below hb1))
    | (go_at_call 27; go_must (refine (H27.out _).mono ?_; rintro e w' ⟨rfl, rfl⟩; rw [HEI.out]; clear H27))
    | (go_at_call 23; go_must (refine (records_all ao n l w1 HN.out hao hd1).mono ?_; rintro e w2 ⟨rvv, uvv, D, rfl, hD, hr2, hu2, hb2⟩; have hd2 := hd1.below hb2; have henv2 := henv1.below hb2; have HDD := hide (hD HNE.out); clear hD; obtain ⟨gv, cv, gu, cu, NC, rfl, rfl, hNC, hNC2, hgv, hgu, hc20, hcu20, hone, hmore⟩ := recs01 hr2 hu2 HNE.out; have HONE := hide hone; have HMORE := hide hmore; clear hr2 hu2 hone hmore; have hmo := HMORE.out (by have := HA.out; rw [HN1.out] at this; exact this); have HNC1 : Hid (¬ NC = 1) := (show ¬ NC = 1 by omega); have HGN1 : Hid ((1 : Int) < (NC : Int)) := (show (1 : Int) < (NC : Int) by omega); obtain ⟨RV1, hRV1⟩ : ∃ x, x = rv D n (N1, N1 + (l.drop N1).idxOf 10, nx l N1) := ⟨_, rfl⟩; have HR1 : Hid (w2.cell? ⟨gv, 1, none⟩ = some RV1) := (by rw [hRV1, HN1.out]; exact hmo.2); have HRV1 := hide hRV1; clear hmo hRV1))
    | (go_at_call 18; go_must (refine (newReader_all ao n n z l aE aF w2 HN.out hz1 hz2 henv2 hd2).mono ?_; rintro e w3 ⟨Q, hQ, rfl, hok, hrs3, hb3⟩; have hpo := fresh_own w2 z ao n l aE aF; obtain ⟨p, hpd⟩ : ∃ p, p = fresh w2 z ao n l aE aF := ⟨_, rfl⟩; rw [← hpd] at hok hrs3 hpo; have HPL : Hid (p.l = l) := congrArg Pm.l hpd; have HPE : Hid (p.eff = E) := (congrArg Pm.eff hpd).trans HE.out.symm; have HPO := hide hpo; have hB2 : w2.heap.size ≤ Q := (by omega); have HF := hide (foot0_above hpo hB2); clear hpd hpo))
    | (go_at_call 14; go_must (refine (zzhead_last p hok Q w3 _ 0 hrs3 (by rw [HPL.out, HPE.out, List.drop_zero, ← HLL.out]; exact hf) (by rw [HPL.out, List.drop_zero]; exact hll)).mono ?_; rintro e w4 ⟨v4, rfl, hl4, hrs4, hC4⟩; rw [HPL.out, List.drop_zero, ← HLL.out] at hl4 hrs4; rw [Nat.zero_add, ← HN1E.out] at hrs4; obtain ⟨o4, c4, rfl, -, -, -, -⟩ := hl4; rw [show (l.take L).length = L from (by simp; omega)]; have hbe4 : Below w2.heap.size w2 w4 := hb3.trans (hC4.below hb3.size HF.out); have hc40 : w4.cell? ⟨gv, 0, none⟩ = some (.slice (some ⟨D, 0, none⟩) L n) := (by rw [HLL.out]; exact (hbe4.cell (p := ⟨gv, 0, none⟩) hgv).trans hc20); have hcu40 : w4.cell? ⟨gu, 0, none⟩ = some (.int .i64 (N1 : Int)) := (by rw [HN1.out]; exact (hbe4.cell (p := ⟨gu, 0, none⟩) hgu).trans hcu20))))
  have HLG : Hid (∀ g, (.slice none 0 0 : Value).ownBlock = some g → w2.heap.size ≤ g) := fun g h => by cases h
  go_quiet ((go_at_call 15; go_must (refine Calls.quiet_of_same ((zzread p Q _ _ _ _ (hrs4.drewN _)).mono (fun e w' h => ⟨h.1, h.2.symm⟩)))))
  have hrsT : RS p Q (w4.drewN nq) (.slice none 0 0) false N1 := hrs4.drewN nq
  have hbeT : Below w2.heap.size w2 (w4.drewN nq) := ⟨hbe4.os, hbe4.tape, hbe4.output, hbe4.size, hbe4.block⟩
  generalize w4.drewN nq = WT at *
  have hNC1 := HNC1.out
  have gN1 := HGN1.out
  have hdr : 0 < (p.l.drop N1).length := by rw [HPL.out, List.length_drop]; have := HA.out; omega
  have h24 := zznext_some p hok Q WT _ N1 hrsT hdr
  rw [HPL.out] at h24
  have H24 := hide h24
  clear h24 hdr
  go_wp2_with (first
    | (go_at_call 24; go_must (refine H24.out.mono ?_; rintro e w9 ⟨v9, lg9, rfl, hl9, hrs9, hC9, hnew9⟩; clear H24; have hbe9 : Below w2.heap.size w2 w9 := hbeT.trans (hC9.below hbeT.size (foot_above HPO.out hB2 HLG.out)); have hr19 : w9.cell? ⟨gv, 1, none⟩ = some RV1 := (hbe9.cell (p := ⟨gv, 1, none⟩) hgv).trans HR1.out; have HL9 := hide hl9; clear hl9))
    | (go_at_call 16; go_must (refine (eq_lines v9 _ _ w9 HL9.out (by rw [HRV1.out]; exact rv_line ao D n l w9 HN.out (hd2.below hbe9) HDD.out N1 HA.out _) (by simp; omega)).mono ?_; rintro e w10 ⟨rfl, hC10⟩)))
  go_ret
  have hbe10 : Below w2.heap.size w2 w10 := hbe9.trans (hC10.below hbe9.size (fun _ _ h => h))
  exact ⟨rfl, (hb1.trans (hb2.mono hb1.size)).trans (hbe10.mono (Nat.le_trans hb1.size hb2.size))⟩

set_option maxRecDepth 100000 in
set_option maxHeartbeats 8000000 in
theorem law8_longA (a0 : Option Addr) (n c : Nat) (z : Int) (l : List Int) (aE aF : Addr) (w : World) (hh : Handed w a0 n c l) (hb : n ≤ 1048576) (hz1 : -9223372036854775808 ≤ z) (hz2 : z ≤ 65536) (henv : Env aE aF w) (hne : l ≠ []) (hf : effOf z ≤ l.idxOf 10) (hA : l.length ≤ nx l 0) :
    Calls Tryd.prog 8 #[.slice a0 n c, .int .i64 z] w fun e w' => e = .returned (.bool true) ∧ Below w.heap.size w w' := by
  have HN := hide hh.1
  have H12 := hide (clone_all a0 n c l w hh hb)
  have H27 := hide (eff_all z)
  have HNE := hide hne
  have hll : 0 < l.length := List.length_pos_iff.2 hne
  have hLl : l.idxOf 10 ≤ l.length := idx_le l
  have hnl : l.length ≤ 1048576 := by have := hh.1; omega
  have hE16 := (eff_bounds z hz2).1
  have hEb := (eff_bounds z hz2).2
  obtain ⟨E, hE⟩ : ∃ E, E = effOf z := ⟨_, rfl⟩
  have HEI : Hid ((if z < 16 then 16 else z) = (E : Int)) := by rw [hE]; exact eff_int z
  obtain ⟨L, hL⟩ : ∃ L, L = l.idxOf 10 := ⟨_, rfl⟩
  rw [← hE] at hE16 hEb hf
  rw [← hL] at hLl hf
  have HE := hide hE
  have HLL := hide hL
  have hnn : n = l.length := hh.1
  have hnb : L ≤ n := by omega
  have HNN := hide hnn
  clear hh hne hE hL hnn
  obtain ⟨N1, hN1⟩ : ∃ x, x = nx l 0 := ⟨_, rfl⟩
  rw [← hN1] at hA
  have hN1b : N1 ≤ l.length := by rw [hN1]; exact (nx_gt l 0 hll).2
  have hN1e : N1 = min (L + 1) l.length := by rw [hN1]; unfold nx; rw [List.drop_zero, Nat.zero_add]; have := HLL.out; rw [← this]
  have HN1 := hide hN1
  have HN1E := hide hN1e
  have HA := hide hA
  clear hN1 hN1e hA
  go_enter Tryd.func8, Tryd.ntmps8
  go_wp2_with (first
    | (go_at_call 30; go_in)
    | (go_at_call 12; go_must (refine H12.out.mono ?_; rintro e w1 ⟨ao, rfl, hao, hd1, hb1⟩; clear H12; have henv1 := henv.below hb1))
    | (go_at_call 27; go_must (refine (H27.out _).mono ?_; rintro e w' ⟨rfl, rfl⟩; rw [HEI.out]; clear H27))
    | (go_at_call 23; go_must (refine (records_all ao n l w1 HN.out hao hd1).mono ?_; rintro e w2 ⟨rvv, uvv, D, rfl, hD, hr2, hu2, hb2⟩; have hd2 := hd1.below hb2; have henv2 := henv1.below hb2; have HDD := hide (hD HNE.out); clear hD; obtain ⟨gv, cv, gu, cu, NC, rfl, rfl, hNC, hNC2, hgv, hgu, hc20, hcu20, hone, hmore⟩ := recs01 hr2 hu2 HNE.out; have HONE := hide hone; have HMORE := hide hmore; clear hr2 hu2 hone hmore; have HNC1 : Hid (NC = 1) := HONE.out (by have := HA.out; rw [HN1.out] at this; exact this)))
    | (go_at_call 18; go_must (refine (newReader_all ao n n z l aE aF w2 HN.out hz1 hz2 henv2 hd2).mono ?_; rintro e w3 ⟨Q, hQ, rfl, hok, hrs3, hb3⟩; have hpo := fresh_own w2 z ao n l aE aF; obtain ⟨p, hpd⟩ : ∃ p, p = fresh w2 z ao n l aE aF := ⟨_, rfl⟩; rw [← hpd] at hok hrs3 hpo; have HPL : Hid (p.l = l) := congrArg Pm.l hpd; have HPE : Hid (p.eff = E) := (congrArg Pm.eff hpd).trans HE.out.symm; have HPO := hide hpo; have hB2 : w2.heap.size ≤ Q := (by omega); have HF := hide (foot0_above hpo hB2); clear hpd hpo))
    | (go_at_call 14; go_must (refine (zzhead_full p hok Q w3 _ 0 hrs3 (by rw [HPL.out, HPE.out, List.drop_zero, ← HLL.out]; exact hf)).mono ?_; rintro e w4 ⟨v4, rfl, hl4, hrs4, hC4⟩; rw [HPL.out, HPE.out, List.drop_zero] at hl4; rw [Nat.zero_add, HPE.out] at hrs4; obtain ⟨o4, c4, rfl, -, -, -, -⟩ := hl4; rw [show (l.take E).length = E from (by simp; omega)]; have hbe4 : Below w2.heap.size w2 w4 := hb3.trans (hC4.below hb3.size HF.out))))
  have HLG : Hid (∀ g, (.slice none 0 0 : Value).ownBlock = some g → w2.heap.size ≤ g) := fun g h => by cases h
  generalize ((NC : Int) == 0) = b9
  go_loopg [12, 13] (L + 1) (fun gk g12 c13 wr => ∃ (m k : Nat) (fl : Bool) (ps : Nat), g12 = .int .i64 m ∧ c13 = .int .i64 k ∧ m ≤ L ∧ RS p Q wr (.slice none 0 0) fl ps ∧ (fl = true → ps = m ∧ L - m + 1 ≤ gk ∧ k < m) ∧ (fl = false → m = L ∧ ps = N1) ∧ Below w2.heap.size w2 wr)
  case atStart => exact ⟨E, 0, true, E, rfl, rfl, hf, hrs4, fun _ => ⟨rfl, by omega, by omega⟩, (fun h => by cases h), hbe4⟩
  case round =>
    obtain ⟨m, k, fl, ps, rfl, rfl, hmL, hrs, hfl1, hfl2, hbel⟩ := hrel
    clear hrs4
    have hc40 : wr.cell? ⟨gv, 0, none⟩ = some (.slice (some ⟨D, 0, none⟩) L n) := by rw [HLL.out]; exact (hbel.cell (p := ⟨gv, 0, none⟩) hgv).trans hc20
    have hcu40 : wr.cell? ⟨gu, 0, none⟩ = some (.int .i64 (N1 : Int)) := by rw [HN1.out]; exact (hbel.cell (p := ⟨gu, 0, none⟩) hgu).trans hcu20
    have H28 := hide (zzrest p Q wr _ _ _ hrs)
    cases fl with
    | false =>
      obtain ⟨hx1, hx2⟩ := hfl2 rfl
      obtain rfl : L = m := hx1.symm
      obtain rfl : N1 = ps := hx2.symm
      go_wp2_with (go_at_call 28; go_must (refine H28.out.mono ?_; rintro e w6 ⟨rfl, rfl⟩; clear H28))
      go_quiet ((go_at_call 15; go_must (refine Calls.quiet_of_same ((zzread p Q _ _ _ _ (hrs.drewN _)).mono (fun e w' h => ⟨h.1, h.2.symm⟩)))))
      have hrsT : RS p Q (wr.drewN nq) (.slice none 0 0) false N1 := hrs.drewN nq
      have hbeT : Below w2.heap.size w2 (wr.drewN nq) := ⟨hbel.os, hbel.tape, hbel.output, hbel.size, hbel.block⟩
      generalize wr.drewN nq = WT at *
      have hNC1 := HNC1.out
      have hdr : p.l.drop N1 = [] := by rw [HPL.out]; exact List.drop_of_length_le HA.out
      go_wp2_with (go_at_call 24; go_must (refine (zznext_none p hok Q WT _ N1 hrsT hdr).mono ?_; rintro e w9 ⟨rfl, hrs9, hC9⟩))
      go_ret
      have hbe9 : Below w2.heap.size w2 w9 := hbeT.trans (hC9.below hbeT.size (foot_above HPO.out hB2 HLG.out))
      exact ⟨rfl, (hb1.trans (hb2.mono hb1.size)).trans (hbe9.mono (Nat.le_trans hb1.size hb2.size))⟩
    | true =>
      obtain ⟨rfl, hgk, hkm⟩ := hfl1 rfl
      have hid : (l.drop ps).idxOf 10 = L - ps := by rw [idxOf_drop l ps (by rw [← HLL.out]; exact hmL), ← HLL.out]
      have key : ∃ (PC : List Int) (fl' : Bool) (ps' : Nat), PC.length ≤ E ∧ PC.length ≤ L - ps ∧ (fl' = true → ps' = ps + PC.length ∧ PC.length = E) ∧ (fl' = false → PC.length = L - ps ∧ ps' = N1) ∧
          Calls Tryd.prog 29 #[.pointer (some ⟨Q, 0, none⟩)] wr fun e w' => ∃ v, e = .returned (.tuple #[v, .bool false]) ∧ RowIn w' p.U v PC ∧ RS p Q w' (.slice none 0 0) fl' ps' ∧ Chg (foot0 p Q) wr w' := by
        by_cases hfu : E ≤ L - ps
        · have hpl : ((l.drop ps).take E).length = E := by simp; omega
          refine ⟨(l.drop ps).take E, true, ps + E, by omega, by omega, fun _ => ⟨by omega, hpl⟩, (fun e => by cases e), ?_⟩
          have := zzpiece_full p hok Q wr _ true ps hrs (by rw [HPL.out, HPE.out, hid]; exact hfu)
          rw [HPL.out, HPE.out] at this
          exact this
        · have hpl : ((l.drop ps).take (L - ps)).length = L - ps := by simp; omega
          refine ⟨(l.drop ps).take (L - ps), false, ps + min (L - ps + 1) (l.drop ps).length, by omega, by omega, (fun e => by cases e), fun _ => ⟨hpl, by rw [HN1E.out]; simp; omega⟩, ?_⟩
          have := zzpiece_last p hok Q wr _ true ps hrs (by rw [HPL.out, HPE.out, hid]; omega)
          rw [HPL.out, hid] at this
          exact this
      obtain ⟨PC, fl', ps', hpc0, hpc1, hpc3, hpc4, h29⟩ := key
      obtain ⟨np, hnp⟩ : ∃ x, x = PC.length := ⟨_, rfl⟩
      rw [← hnp] at hpc0 hpc1 hpc3 hpc4
      have H29 := hide h29
      have HNP := hide hnp
      have HP3 := hide hpc3
      have HP4 := hide hpc4
      have qc : decide (((n : Int) + 1) < (k : Int)) = false := decide_eq_false (by omega)
      have qc2 : ¬ (n : Int) + 1 < (k : Int) := by omega
      have qe : decide ((E : Int) < (np : Int)) = false := decide_eq_false (by omega)
      have qe2 : ¬ E < np := by omega
      clear h29 hnp hpc3 hpc4 hid hfl1 hfl2 hc40 hcu40
      go_wp2_with (first
        | (go_at_call 28; go_must (refine H28.out.mono ?_; rintro e w6 ⟨rfl, rfl⟩; clear H28))
        | (go_at_call 29; go_must (refine H29.out.mono ?_; rintro e w7 ⟨v7, rfl, hl7, hrs7, hC7⟩; clear H29; obtain ⟨o7, c7, rfl, -, -, -, -⟩ := hl7; rw [← HNP.out])))
      have hbe7 : Below w2.heap.size w2 w7 := hbel.trans (hC7.below hbel.size HF.out)
      cases fl' with
      | true =>
        obtain ⟨hp1, hp2⟩ := HP3.out rfl
        go_roundg (L - (ps + np) + 1)
        case measure => omega
        case rel => exact ⟨ps + np, k + 1, true, ps', by go_num, by go_num, by omega, hrs7, fun _ => ⟨hp1, Nat.le_refl _, by omega⟩, (fun h => by cases h), hbe7⟩
      | false =>
        obtain ⟨hp1, hp2⟩ := HP4.out rfl
        go_roundg 0
        case measure => omega
        case rel => exact ⟨ps + np, k + 1, false, ps', by go_num, by go_num, by omega, hrs7, (fun h => by cases h), fun _ => ⟨by omega, hp2⟩, hbe7⟩

set_option maxRecDepth 100000 in
set_option maxHeartbeats 8000000 in
theorem law8_longB (a0 : Option Addr) (n c : Nat) (z : Int) (l : List Int) (aE aF : Addr) (w : World) (hh : Handed w a0 n c l) (hb : n ≤ 1048576) (hz1 : -9223372036854775808 ≤ z) (hz2 : z ≤ 65536) (henv : Env aE aF w) (hne : l ≠ []) (hf : effOf z ≤ l.idxOf 10) (hA : nx l 0 < l.length) :
    Calls Tryd.prog 8 #[.slice a0 n c, .int .i64 z] w fun e w' => e = .returned (.bool true) ∧ Below w.heap.size w w' := by
  have HN := hide hh.1
  have H12 := hide (clone_all a0 n c l w hh hb)
  have H27 := hide (eff_all z)
  have HNE := hide hne
  have hll : 0 < l.length := List.length_pos_iff.2 hne
  have hLl : l.idxOf 10 ≤ l.length := idx_le l
  have hnl : l.length ≤ 1048576 := by have := hh.1; omega
  have hE16 := (eff_bounds z hz2).1
  have hEb := (eff_bounds z hz2).2
  obtain ⟨E, hE⟩ : ∃ E, E = effOf z := ⟨_, rfl⟩
  have HEI : Hid ((if z < 16 then 16 else z) = (E : Int)) := by rw [hE]; exact eff_int z
  obtain ⟨L, hL⟩ : ∃ L, L = l.idxOf 10 := ⟨_, rfl⟩
  rw [← hE] at hE16 hEb hf
  rw [← hL] at hLl hf
  have HE := hide hE
  have HLL := hide hL
  have hnn : n = l.length := hh.1
  have hnb : L ≤ n := by omega
  have HNN := hide hnn
  clear hh hne hE hL hnn
  obtain ⟨N1, hN1⟩ : ∃ x, x = nx l 0 := ⟨_, rfl⟩
  rw [← hN1] at hA
  have hN1b : N1 ≤ l.length := by rw [hN1]; exact (nx_gt l 0 hll).2
  have hN1e : N1 = min (L + 1) l.length := by rw [hN1]; unfold nx; rw [List.drop_zero, Nat.zero_add]; have := HLL.out; rw [← this]
  have HN1 := hide hN1
  have HN1E := hide hN1e
  have HA := hide hA
  clear hN1 hN1e hA
  go_enter Tryd.func8, Tryd.ntmps8
  go_wp2_with (first
    | (go_at_call 30; go_in)
    | (go_at_call 12; go_must (refine H12.out.mono ?_; rintro e w1 ⟨ao, rfl, hao, hd1, hb1⟩; clear H12; have henv1 := henv.below hb1))
    | (go_at_call 27; go_must (refine (H27.out _).mono ?_; rintro e w' ⟨rfl, rfl⟩; rw [HEI.out]; clear H27))
    | (go_at_call 23; go_must (refine (records_all ao n l w1 HN.out hao hd1).mono ?_; rintro e w2 ⟨rvv, uvv, D, rfl, hD, hr2, hu2, hb2⟩; have hd2 := hd1.below hb2; have henv2 := henv1.below hb2; have HDD := hide (hD HNE.out); clear hD; obtain ⟨gv, cv, gu, cu, NC, rfl, rfl, hNC, hNC2, hgv, hgu, hc20, hcu20, hone, hmore⟩ := recs01 hr2 hu2 HNE.out; have HONE := hide hone; have HMORE := hide hmore; clear hr2 hu2 hone hmore; have hmo := HMORE.out (by have := HA.out; rw [HN1.out] at this; exact this); have HNC1 : Hid (¬ NC = 1) := (show ¬ NC = 1 by omega); have HGN1 : Hid ((1 : Int) < (NC : Int)) := (show (1 : Int) < (NC : Int) by omega); obtain ⟨RV1, hRV1⟩ : ∃ x, x = rv D n (N1, N1 + (l.drop N1).idxOf 10, nx l N1) := ⟨_, rfl⟩; have HR1 : Hid (w2.cell? ⟨gv, 1, none⟩ = some RV1) := (by rw [hRV1, HN1.out]; exact hmo.2); have HRV1 := hide hRV1; clear hmo hRV1))
    | (go_at_call 18; go_must (refine (newReader_all ao n n z l aE aF w2 HN.out hz1 hz2 henv2 hd2).mono ?_; rintro e w3 ⟨Q, hQ, rfl, hok, hrs3, hb3⟩; have hpo := fresh_own w2 z ao n l aE aF; obtain ⟨p, hpd⟩ : ∃ p, p = fresh w2 z ao n l aE aF := ⟨_, rfl⟩; rw [← hpd] at hok hrs3 hpo; have HPL : Hid (p.l = l) := congrArg Pm.l hpd; have HPE : Hid (p.eff = E) := (congrArg Pm.eff hpd).trans HE.out.symm; have HPO := hide hpo; have hB2 : w2.heap.size ≤ Q := (by omega); have HF := hide (foot0_above hpo hB2); clear hpd hpo))
    | (go_at_call 14; go_must (refine (zzhead_full p hok Q w3 _ 0 hrs3 (by rw [HPL.out, HPE.out, List.drop_zero, ← HLL.out]; exact hf)).mono ?_; rintro e w4 ⟨v4, rfl, hl4, hrs4, hC4⟩; rw [HPL.out, HPE.out, List.drop_zero] at hl4; rw [Nat.zero_add, HPE.out] at hrs4; obtain ⟨o4, c4, rfl, -, -, -, -⟩ := hl4; rw [show (l.take E).length = E from (by simp; omega)]; have hbe4 : Below w2.heap.size w2 w4 := hb3.trans (hC4.below hb3.size HF.out))))
  have HLG : Hid (∀ g, (.slice none 0 0 : Value).ownBlock = some g → w2.heap.size ≤ g) := fun g h => by cases h
  generalize ((NC : Int) == 0) = b9
  go_loopg [12, 13] (L + 1) (fun gk g12 c13 wr => ∃ (m k : Nat) (fl : Bool) (ps : Nat), g12 = .int .i64 m ∧ c13 = .int .i64 k ∧ m ≤ L ∧ RS p Q wr (.slice none 0 0) fl ps ∧ (fl = true → ps = m ∧ L - m + 1 ≤ gk ∧ k < m) ∧ (fl = false → m = L ∧ ps = N1) ∧ Below w2.heap.size w2 wr)
  case atStart => exact ⟨E, 0, true, E, rfl, rfl, hf, hrs4, fun _ => ⟨rfl, by omega, by omega⟩, (fun h => by cases h), hbe4⟩
  case round =>
    obtain ⟨m, k, fl, ps, rfl, rfl, hmL, hrs, hfl1, hfl2, hbel⟩ := hrel
    clear hrs4
    have hc40 : wr.cell? ⟨gv, 0, none⟩ = some (.slice (some ⟨D, 0, none⟩) L n) := by rw [HLL.out]; exact (hbel.cell (p := ⟨gv, 0, none⟩) hgv).trans hc20
    have hcu40 : wr.cell? ⟨gu, 0, none⟩ = some (.int .i64 (N1 : Int)) := by rw [HN1.out]; exact (hbel.cell (p := ⟨gu, 0, none⟩) hgu).trans hcu20
    have H28 := hide (zzrest p Q wr _ _ _ hrs)
    cases fl with
    | false =>
      obtain ⟨hx1, hx2⟩ := hfl2 rfl
      obtain rfl : L = m := hx1.symm
      obtain rfl : N1 = ps := hx2.symm
      go_wp2_with (go_at_call 28; go_must (refine H28.out.mono ?_; rintro e w6 ⟨rfl, rfl⟩; clear H28))
      go_quiet ((go_at_call 15; go_must (refine Calls.quiet_of_same ((zzread p Q _ _ _ _ (hrs.drewN _)).mono (fun e w' h => ⟨h.1, h.2.symm⟩)))))
      have hrsT : RS p Q (wr.drewN nq) (.slice none 0 0) false N1 := hrs.drewN nq
      have hbeT : Below w2.heap.size w2 (wr.drewN nq) := ⟨hbel.os, hbel.tape, hbel.output, hbel.size, hbel.block⟩
      generalize wr.drewN nq = WT at *
      have hNC1 := HNC1.out
      have gN1 := HGN1.out
      have hdr : 0 < (p.l.drop N1).length := by rw [HPL.out, List.length_drop]; have := HA.out; omega
      have h24 := zznext_some p hok Q WT _ N1 hrsT hdr
      rw [HPL.out] at h24
      have H24 := hide h24
      clear h24 hdr
      go_wp2_with (first
        | (go_at_call 24; go_must (refine H24.out.mono ?_; rintro e w9 ⟨v9, lg9, rfl, hl9, hrs9, hC9, hnew9⟩; clear H24; have hbe9 : Below w2.heap.size w2 w9 := hbeT.trans (hC9.below hbeT.size (foot_above HPO.out hB2 HLG.out)); have hr19 : w9.cell? ⟨gv, 1, none⟩ = some RV1 := (hbe9.cell (p := ⟨gv, 1, none⟩) hgv).trans HR1.out; have HL9 := hide hl9; clear hl9))
        | (go_at_call 16; go_must (refine (eq_lines v9 _ _ w9 HL9.out (by rw [HRV1.out]; exact rv_line ao D n l w9 HN.out (hd2.below hbe9) HDD.out N1 HA.out _) (by simp; omega)).mono ?_; rintro e w10 ⟨rfl, hC10⟩)))
      go_ret
      have hbe10 : Below w2.heap.size w2 w10 := hbe9.trans (hC10.below hbe9.size (fun _ _ h => h))
      exact ⟨rfl, (hb1.trans (hb2.mono hb1.size)).trans (hbe10.mono (Nat.le_trans hb1.size hb2.size))⟩
    | true =>
      obtain ⟨rfl, hgk, hkm⟩ := hfl1 rfl
      have hid : (l.drop ps).idxOf 10 = L - ps := by rw [idxOf_drop l ps (by rw [← HLL.out]; exact hmL), ← HLL.out]
      have key : ∃ (PC : List Int) (fl' : Bool) (ps' : Nat), PC.length ≤ E ∧ PC.length ≤ L - ps ∧ (fl' = true → ps' = ps + PC.length ∧ PC.length = E) ∧ (fl' = false → PC.length = L - ps ∧ ps' = N1) ∧
          Calls Tryd.prog 29 #[.pointer (some ⟨Q, 0, none⟩)] wr fun e w' => ∃ v, e = .returned (.tuple #[v, .bool false]) ∧ RowIn w' p.U v PC ∧ RS p Q w' (.slice none 0 0) fl' ps' ∧ Chg (foot0 p Q) wr w' := by
        by_cases hfu : E ≤ L - ps
        · have hpl : ((l.drop ps).take E).length = E := by simp; omega
          refine ⟨(l.drop ps).take E, true, ps + E, by omega, by omega, fun _ => ⟨by omega, hpl⟩, (fun e => by cases e), ?_⟩
          have := zzpiece_full p hok Q wr _ true ps hrs (by rw [HPL.out, HPE.out, hid]; exact hfu)
          rw [HPL.out, HPE.out] at this
          exact this
        · have hpl : ((l.drop ps).take (L - ps)).length = L - ps := by simp; omega
          refine ⟨(l.drop ps).take (L - ps), false, ps + min (L - ps + 1) (l.drop ps).length, by omega, by omega, (fun e => by cases e), fun _ => ⟨hpl, by rw [HN1E.out]; simp; omega⟩, ?_⟩
          have := zzpiece_last p hok Q wr _ true ps hrs (by rw [HPL.out, HPE.out, hid]; omega)
          rw [HPL.out, hid] at this
          exact this
      obtain ⟨PC, fl', ps', hpc0, hpc1, hpc3, hpc4, h29⟩ := key
      obtain ⟨np, hnp⟩ : ∃ x, x = PC.length := ⟨_, rfl⟩
      rw [← hnp] at hpc0 hpc1 hpc3 hpc4
      have H29 := hide h29
      have HNP := hide hnp
      have HP3 := hide hpc3
      have HP4 := hide hpc4
      have qc : decide (((n : Int) + 1) < (k : Int)) = false := decide_eq_false (by omega)
      have qc2 : ¬ (n : Int) + 1 < (k : Int) := by omega
      have qe : decide ((E : Int) < (np : Int)) = false := decide_eq_false (by omega)
      have qe2 : ¬ E < np := by omega
      clear h29 hnp hpc3 hpc4 hid hfl1 hfl2 hc40 hcu40
      go_wp2_with (first
        | (go_at_call 28; go_must (refine H28.out.mono ?_; rintro e w6 ⟨rfl, rfl⟩; clear H28))
        | (go_at_call 29; go_must (refine H29.out.mono ?_; rintro e w7 ⟨v7, rfl, hl7, hrs7, hC7⟩; clear H29; obtain ⟨o7, c7, rfl, -, -, -, -⟩ := hl7; rw [← HNP.out])))
      have hbe7 : Below w2.heap.size w2 w7 := hbel.trans (hC7.below hbel.size HF.out)
      cases fl' with
      | true =>
        obtain ⟨hp1, hp2⟩ := HP3.out rfl
        go_roundg (L - (ps + np) + 1)
        case measure => omega
        case rel => exact ⟨ps + np, k + 1, true, ps', by go_num, by go_num, by omega, hrs7, fun _ => ⟨hp1, Nat.le_refl _, by omega⟩, (fun h => by cases h), hbe7⟩
      | false =>
        obtain ⟨hp1, hp2⟩ := HP4.out rfl
        go_roundg 0
        case measure => omega
        case rel => exact ⟨ps + np, k + 1, false, ps', by go_num, by go_num, by omega, hrs7, (fun h => by cases h), fun _ => ⟨by omega, hp2⟩, hbe7⟩
end Go.Proofs.Qxb6613793aDoor
