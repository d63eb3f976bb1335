/-
  THE WALK of FnNextJoinOfTwoStreams (6).
-/
import Derived.Test.Qxb6613793aDoorR20
set_option linter.unusedVariables false
set_option linter.unusedSimpArgs false
namespace Go.Proofs.Qxb6613793aDoor
open Go.RowKit

set_option maxRecDepth 100000 in
set_option maxHeartbeats 8000000 in
theorem law6_B (a0 : Option Addr) (n0 c0 : Nat) (a1 : Option Addr) (n1 c1 : Nat) (z : Int) (l0 l1 : List Int) (aE aF : Addr) (w : World) (hh0 : Handed w a0 n0 c0 l0) (hh1 : Handed w a1 n1 c1 l1) (hb0 : n0 ≤ 524288) (hb1 : n1 ≤ 524288) (hz1 : -9223372036854775808 ≤ z) (hz2 : z ≤ 65536) (henv : Env aE aF w) (hA : l0 ≠ []) (hB : openEnd l0 = false) :
    Calls Tryd.prog 6 #[.slice a0 n0 c0, .slice a1 n1 c1, .int .i64 z] w fun e w' => e = .returned (.bool true) ∧ Below w.heap.size w w' := by
  have hn0 := hh0.1
  have hn1 := hh1.1
  have q0 : decide ((0 : Int) < (n0 : Int)) = true := decide_eq_true (by have := List.length_pos_iff.2 hA; omega)
  have hn0p : 0 < n0 := by have := List.length_pos_iff.2 hA; omega
  have hk1 : (n0 : Int) - 1 = ((n0 - 1 : Nat) : Int) := by omega
  have g0 : (0 : Int) ≤ ((n0 - 1 : Nat) : Int) := Int.natCast_nonneg _
  have g1 : ((n0 - 1 : Nat) : Int) < (n0 : Int) := by omega
  have HA := hide hA
  have hopen := openEnd_last l0 hA
  rw [hB, ← hn0] at hopen
  have HREC : Hid (recsR (l0 ++ l1) = recsR l0 ++ recsR l1) := recs_shut l0 l1 hB
  have HX : Hid (l0.getD (n0 - 1) 0 = 10) := (show l0.getD (n0 - 1) 0 = 10 by simpa using hopen.symm)
  clear hA hB hopen
  have HN0 := hide hn0
  have HN1 := hide hn1
  have H12a := hide (clone_all a0 n0 c0 l0 w hh0 (by omega))
  have HH1 := hide hh1
  have HENV := hide henv
  obtain ⟨n2, hn2⟩ : ∃ x, x = n0 + n1 := ⟨_, rfl⟩
  have HN2 := hide hn2
  have hb2 : n2 ≤ 1048576 := by omega
  clear hh0 hh1 henv hn2 hn0 hn1
  go_enter Tryd.func6, Tryd.ntmps6
  go_wp2_with (first
    | (go_at_call 25; go_in)
    | (go_at_call 12; go_must (first
      | (refine H12a.out.mono ?_; rintro e w1 ⟨ao0, rfl, hao0, hd0, hbl1⟩; clear H12a; obtain ⟨D0, rfl⟩ := hd0.od HA.out; have HAO0 := hide hao0; have HD0 := hide hd0; have HB1 := hide hbl1; have H12b := hide (clone_all a1 n1 c1 l1 w1 (HH1.out.below hbl1) (by omega)); clear hao0 hd0 hbl1)
      | (refine H12b.out.mono ?_; rintro e w2 ⟨ao1, rfl, hao1, hd1, hbl2⟩; clear H12b; obtain ⟨g, W0, W1, w3, hmk, hap0, hap1, hd2, hbl3⟩ := joined w2 _ ao1 n0 n1 n2 HN2.out l0 l1 HN0.out HN1.out hb0 hb1 HAO0.out hao1 (HD0.out.below hbl2) hd1; have HAP0 := hide hap0; have HAP1 := hide hap1; have HAO1 := hide hao1; have HD2 := hide hd2; have HE3 := hide (((HENV.out.below HB1.out).below hbl2).below hbl3); have HD0 := hide ((HD0.out.below hbl2).below hbl3); have HD1 := hide (hd1.below hbl3); have HBL := hide ((HB1.out.trans (hbl2.mono HB1.out.size)).trans (hbl3.mono (Nat.le_trans HB1.out.size hbl2.size))); have H18a := hide (newRd _ n0 z l0 aE aF w3 w3 HN0.out hz1 hz2 HE3.out HD0.out (Below.refl _ _)); clear hap0 hap1 hao1 hd1 hd2 hbl2 hbl3)))
    | (at_builtin; refine wpList_run_append rfl _ _ 22 rfl _ _ _ rfl rfl HAP0.out ?_)
    | (at_builtin; refine wpList_run_append rfl _ _ 22 rfl _ _ _ rfl rfl HAP1.out ?_)
    | (go_at_call 18; go_must (first
      | (refine H18a.out.mono ?_; rintro e w4 ⟨pa, Qa, rfl, hra, hb4⟩; clear H18a; have HRA := hide hra; have HB4 := hide hb4; have H18b := hide (newRd ao1 n1 z l1 aE aF w3 w4 HN1.out hz1 hz2 HE3.out HD1.out hb4); clear hra hb4)
      | (refine H18b.out.mono ?_; rintro e w5 ⟨pb, Qb, rfl, hrb, hb5⟩; clear H18b; have HRB := hide hrb; have HS5 := hide hb5.size; have HB5 := hide (HB4.out.trans (hb5.mono HB4.out.size)); have HRA := hide (HRA.out.kept (F := NoB) (Chg.of_below hb5) (fun _ _ _ h => h) (fun _ _ h => h)); have H18c := hide (newRd (some ⟨g, 0, none⟩) n2 z (l0 ++ l1) aE aF w3 w5 (by rw [List.length_append, ← HN0.out, ← HN1.out]; exact HN2.out) hz1 hz2 HE3.out HD2.out HB5.out); clear hrb hb5)
      | (refine H18c.out.mono ?_; rintro e w6 ⟨pc, Qc, rfl, hrc, hb6⟩; clear H18c; have HRC := hide hrc; have HS6 := hide hb6.size; have HB6 := hide (HB5.out.trans (hb6.mono HB5.out.size)); have HRA := hide (HRA.out.kept (F := NoB) (Chg.of_below hb6) (fun _ _ _ h => h) (fun _ _ h => h)); have HRB := hide (HRB.out.kept (F := NoB) (Chg.of_below hb6) (fun _ _ _ h => h) (fun _ _ h => h)); have H19a := hide (allRd pa Qa l0 _ _ _ w6 HRA.out ((n0 : Int) + 2) (by have := HN0.out; omega)); clear hrc hb6)))
    | (go_at_call 19; go_must (first
      | (refine H19a.out.mono ?_; rintro e w7 ⟨ava, na, cva, vsa, rfl, hna, hga, hC7⟩; clear H19a; have HNA := hide hna; have HC7 := hide hC7; have s5 := HS5.out; have s6 := HS6.out; have HRB := hide (HRB.out.kept hC7 (fun b h1 h2 h3 => absurd h3.2 (by omega)) (fun b h1 h3 => absurd h3.1 (by omega))); have HRC := hide (HRC.out.kept hC7 (fun b h1 h2 h3 => absurd h3.2 (by omega)) (fun b h1 h3 => absurd h3.1 (by omega))); have HGA := hide hga; have H19b := hide (allRd pb Qb l1 _ _ _ w7 HRB.out ((n1 : Int) + 2) (by have := HN1.out; omega)); clear hna hga hC7 s5 s6)
      | (refine H19b.out.mono ?_; rintro e w8 ⟨avb, nb, cvb, vsb, rfl, hnb, hgb, hC8⟩; clear H19b; have HNB := hide hnb; have HC8 := hide hC8; have s4 := HB4.out.size; have s5 := HS5.out; have s6 := HS6.out; have s7 := HC7.out.size; have HRC := hide (HRC.out.kept hC8 (fun b h1 h2 h3 => absurd h3.2 (by omega)) (fun b h1 h3 => absurd h3.1 (by omega))); have HGA := hide (HGA.out.kept hC8 (fun b h1 h2 h3 => absurd h3.2 (by omega))); have HGB := hide hgb; have H19c := hide (allRd pc Qc (l0 ++ l1) _ _ _ w8 HRC.out ((n2 : Int) + 2) (by have := HN2.out; rw [List.length_append, ← HN0.out, ← HN1.out]; omega)); clear hnb hgb hC8 s4 s5 s6 s7)
      | (refine H19c.out.mono ?_; rintro e w9 ⟨avc, nc, cvc, vsc, rfl, hnc, hgc, hC9⟩; clear H19c; have HNC := hide hnc; have s4 := HB4.out.size; have s5 := HS5.out; have s6 := HS6.out; have s7 := HC7.out.size; have s8 := HC8.out.size; have HGA := hide (HGA.out.kept hC9 (fun b h1 h2 h3 => absurd h3.2 (by omega))); have HGB := hide (HGB.out.kept hC9 (fun b h1 h2 h3 => absurd h3.2 (by omega))); have HGC := hide hgc; have HB9 := hide (((HB6.out.trans (HC7.out.below HB6.out.size (fun b h1 h3 => absurd h3.1 (by omega)))).trans (HC8.out.below (by omega) (fun b h1 h3 => absurd h3.1 (by omega)))).trans (hC9.below (by omega) (fun b h1 h3 => absurd h3.1 (by omega)))); have hd09 := HD0.out.below HB9.out; have hd19 := HD1.out.below HB9.out; have hcl : w9.cell? ⟨D0, n0 - 1, none⟩ = some (.int .u8 10) := (by rw [← HX.out]; exact hd09.dat D0 rfl (n0 - 1) (by have := HN0.out; omega)); have HBL := hide (HBL.out.trans (HB9.out.mono HBL.out.size)); have hnal : na ≤ 524288 := (by have h1 := cntR_le l0; have h2 := HNA.out; have h3 := HN0.out; omega); have hnbl : nb ≤ 524288 := (by have h1 := cntR_le l1; have h2 := HNB.out; have h3 := HN1.out; omega); have h20a := count_all _ n0 l0 w9 HN0.out HAO0.out hd09; have h20b := count_all ao1 n1 l1 w9 HN1.out HAO1.out hd19; rw [← HNA.out] at h20a; rw [← HNB.out] at h20b; have H20a := hide h20a; have H20b := hide h20b; clear h20a h20b hd09 hd19 hnc hgc hC9 s4 s5 s6 s7 s8 HC7 HC8 HRA HRB HRC HS5 HS6 HB4 HB5 HB6 HB9)))
    | (go_at_call 20; go_must (first
      | (refine H20a.out.mono ?_; rintro e w' ⟨rfl, rfl⟩; clear H20a)
      | (refine H20b.out.mono ?_; rintro e w' ⟨rfl, rfl⟩; clear H20b))))
  have HVA : Hid (vsa.length = na) := (show vsa.length = na by rw [HGA.out.len, recsR_len]; exact HNA.out.symm)
  have HVB : Hid (vsb.length = nb) := (show vsb.length = nb by rw [HGB.out.len, recsR_len]; exact HNB.out.symm)
  have HLEN : Hid ((vsa ++ vsb).length = (recsR (l0 ++ l1)).length) := (show (vsa ++ vsb).length = (recsR (l0 ++ l1)).length by rw [HREC.out, List.length_append, List.length_append, HGA.out.len, HGB.out.len])
  go_loopw [18, 19] (fun v i wr => ∃ k : Nat, i = .int .i64 k ∧ k ≤ na ∧ Want w9 wr v (vsa.take k)) (fun _ i _ => na - (intOf i).toNat)
  case atStart => exact ⟨0, rfl, Nat.zero_le _, ⟨by rw [List.take_zero]; exact World.ownsRow_nil _ _ _ _, Below.refl _ _⟩⟩
  case round =>
    obtain ⟨k, rfl, hk, hw⟩ := hrel
    by_cases hlt : k < na
    · obtain ⟨gx, x, rfl, hx, hcx, hlx⟩ := HGA.out.cell hw.bel k hlt
      obtain ⟨R, hR⟩ : ∃ R, R = (recsR l0).getD k [] := ⟨_, rfl⟩
      rw [← hR] at hlx
      obtain ⟨g5, o5, c5, rfl, -⟩ := hlx
      obtain ⟨a7, l7, c7, w7, hrun7, hw7, hC7, hnew7⟩ := hw.step (.slice (some ⟨g5, o5, none⟩) R.length c5) rfl (by simp; omega)
      have HR7 := hide hrun7
      have HW7 := hide hw7
      have HC7 := hide hC7
      have HNEW := hide hnew7
      have HXK := hide hx
      have HW := hide hw
      clear hrun7 hw7 hC7 hnew7 hx hw hR
      go_wp2_with (at_builtin; refine wpList_run_append rfl _ _ 33 rfl _ _ _ rfl rfl HR7.out ?_)
      go_roundw
      case rel => exact ⟨k + 1, by go_num, by omega, by rw [List.take_add_one, HXK.out]; exact HW7.out⟩
      case measure => simp [intOf]; omega
    · obtain rfl : k = na := by omega
      rw [List.take_of_length_le (by rw [HVA.out]; exact Nat.le_refl _)] at hw
      have HW0 := hide hw
      clear hw
      go_wp2
      go_loopw [18, 20] (fun v i wr => ∃ j : Nat, i = .int .i64 j ∧ j ≤ nb ∧ Want w9 wr v (vsa ++ vsb.take j)) (fun _ i _ => nb - (intOf i).toNat)
      case atStart => exact ⟨0, rfl, Nat.zero_le _, by rw [List.take_zero, List.append_nil]; exact HW0.out⟩
      case round =>
        obtain ⟨j, rfl, hj, hw⟩ := hrel
        clear HW0
        by_cases hlt : j < nb
        · obtain ⟨gx, x, rfl, hx, hcx, hlx⟩ := HGB.out.cell hw.bel j hlt
          obtain ⟨R, hR⟩ : ∃ R, R = (recsR l1).getD j [] := ⟨_, rfl⟩
          rw [← hR] at hlx
          obtain ⟨g5, o5, c5, rfl, -⟩ := hlx
          obtain ⟨a7, l7, c7, w7, hrun7, hw7, hC7, hnew7⟩ := hw.step (.slice (some ⟨g5, o5, none⟩) R.length c5) rfl (by simp; have := HVA.out; omega)
          have HR7 := hide hrun7
          have HW7 := hide hw7
          have HC7 := hide hC7
          have HNEW := hide hnew7
          have HXK := hide hx
          have HW := hide hw
          clear hrun7 hw7 hC7 hnew7 hx hw hR
          go_wp2_with (at_builtin; refine wpList_run_append rfl _ _ 33 rfl _ _ _ rfl rfl HR7.out ?_)
          go_roundw
          case rel => exact ⟨j + 1, by go_num, by omega, by rw [List.take_add_one, HXK.out]; have h9 := HW7.out; rw [List.append_assoc] at h9; exact h9⟩
          case measure => simp [intOf]; omega
        · obtain rfl : j = nb := by omega
          rw [List.take_of_length_le (by rw [HVB.out]; exact Nat.le_refl _)] at hw
          have hlc : nc = (vsa ++ vsb).length := by rw [HLEN.out, HNC.out, ← recsR_len]
          have H21 := hide (same_true (.slice avc nc cvc) u18 nc _ _ vsc (vsa ++ vsb) (recsR (l0 ++ l1)) wr (by have h9 := (HGC.out.below hw.bel).own; rw [HGC.out.len, recsR_len, ← HNC.out] at h9; exact h9) (by rw [hlc]; exact hw.own) (HGC.out.below hw.bel).lns (by rw [HREC.out]; exact (HGA.out.below hw.bel).lns.append (HGB.out.below hw.bel).lns) (by have h1 := cntR_le (l0 ++ l1); have h2 := HNC.out; have h3 := HN0.out; have h4 := HN1.out; rw [List.length_append] at h1; omega) (fun j => by have h1 := recs_line (l0 ++ l1) j; have h3 := HN0.out; have h4 := HN1.out; rw [List.length_append] at h1; omega))
          have HW := hide hw
          clear hw hlc
          go_wp2_with (go_at_call 21; go_must (refine H21.out.mono ?_; rintro e wz ⟨rfl, m9, rfl⟩; clear H21))
          go_ret
          exact ⟨rfl, below_drewN (HBL.out.trans (HW.out.bel.mono HBL.out.size)) m9⟩
end Go.Proofs.Qxb6613793aDoor
