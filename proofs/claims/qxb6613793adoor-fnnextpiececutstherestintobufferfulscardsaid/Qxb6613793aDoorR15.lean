/-
  THE WALK of FnNextPieceCutsTheRestIntoBufferfuls (7), at a first record of at least a buffer.
-/
import Derived.Test.Qxb6613793aDoorR13
set_option linter.unusedVariables false
set_option linter.unusedSimpArgs false
namespace Go.Proofs.Qxb6613793aDoor
open Go.RowKit

set_option maxRecDepth 100000 in
set_option maxHeartbeats 8000000 in
theorem law7_long (a0 : Option Addr) (n c : Nat) (z : Int) (l : List Int) (aE aF : Addr) (w : World) (hh : Handed w a0 n c l) (hb : n ≤ 1048576) (hz1 : -9223372036854775808 ≤ z) (hz2 : z ≤ 65536) (henv : Env aE aF w) (hne : l ≠ []) (hf : effOf z ≤ l.idxOf 10) :
    Calls Tryd.prog 7 #[.slice a0 n c, .int .i64 z] w fun e w' => e = .returned (.bool true) ∧ Below w.heap.size w w' := by
  have HN := hide hh.1
  have H12 := hide (clone_all a0 n c l w hh hb)
  have H27 := hide (eff_all z)
  have HNE := hide hne
  have hll : 0 < l.length := List.length_pos_iff.2 hne
  have hLl : l.idxOf 10 ≤ l.length := idx_le l
  have hnl : l.length ≤ 1048576 := by have := hh.1; omega
  have hE16 := (eff_bounds z hz2).1
  have hEb := (eff_bounds z hz2).2
  obtain ⟨E, hE⟩ : ∃ E, E = effOf z := ⟨_, rfl⟩
  have HEI : Hid ((if z < 16 then 16 else z) = (E : Int)) := by rw [hE]; exact eff_int z
  obtain ⟨L, hL⟩ : ∃ L, L = l.idxOf 10 := ⟨_, rfl⟩
  rw [← hE] at hE16 hEb hf
  rw [← hL] at hLl hf
  have HE := hide hE
  have HLL := hide hL
  have hnn : n = l.length := hh.1
  have hnb : L ≤ n := by omega
  have HNN := hide hnn
  clear hh hne hE hL hnn
  obtain ⟨q, hq⟩ : ∃ q, q = (L - E) / E := ⟨_, rfl⟩
  have hq1 : q * E ≤ L - E := by rw [hq]; exact Nat.div_mul_le_self _ _
  have hq2 : L - E < q * E + E := by rw [hq]; have := Nat.lt_div_mul_add (a := L - E) (b := E) (by omega); omega
  have hquo : Int.tdiv ((L : Int) - (E : Int)) (E : Int) = (q : Int) := by
    rw [show (L : Int) - (E : Int) = ((L - E : Nat) : Int) by omega, hq]; rfl
  have hqb : q ≤ 1048576 := by
    have : q * 1 ≤ q * E := Nat.mul_le_mul_left q (by omega)
    omega
  have HQ := hide hq
  have HQ1 := hide hq1
  have HQ2 := hide hq2
  clear hq hq1 hq2
  have gE0 : (0 : Int) ≤ (E : Int) := Int.natCast_nonneg _
  have gE1 : (E : Int) ≤ (n : Int) := by omega
  have qs : decide ((L : Int) < (E : Int)) = false := decide_eq_false (by omega)
  have hEne : ¬ (E : Int) = 0 := by omega
  go_enter Tryd.func7, Tryd.ntmps7
  go_wp2_with (first
    | (go_at_call 26; go_in)
    | (go_at_call 12; go_must (refine H12.out.mono ?_; rintro e w1 ⟨ao, rfl, hao, hd1, hb1⟩; clear H12; have henv1 := henv.below hb1))
    | (go_at_call 27; go_must (refine (H27.out _).mono ?_; rintro e w' ⟨rfl, rfl⟩; rw [HEI.out]; clear H27))
    | (go_at_call 23; go_must (refine (records_all ao n l w1 HN.out hao hd1).mono ?_; rintro e w2 ⟨rvv, uvv, D, rfl, hD, hr2, hu2, hb2⟩; have hd2 := hd1.below hb2; have henv2 := henv1.below hb2; have HDD := hide (hD HNE.out); clear hD; obtain ⟨gv, cv, NC, rfl, hNC, hNC2, hgv, hc20, hNC3⟩ := recs0 hr2 HNE.out; have HR2 := hide hr2; have HU2 := hide hu2; have HNC := hide hNC3; clear hr2 hu2 hNC3))
    | (go_at_call 18; go_must (refine (newReader_all ao n n z l aE aF w2 HN.out hz1 hz2 henv2 hd2).mono ?_; rintro e w3 ⟨Q, hQ, rfl, hok, hrs3, hb3⟩; have hpo := fresh_own w2 z ao n l aE aF; obtain ⟨p, hpd⟩ : ∃ p, p = fresh w2 z ao n l aE aF := ⟨_, rfl⟩; rw [← hpd] at hok hrs3 hpo; have HPL : Hid (p.l = l) := congrArg Pm.l hpd; have HPE : Hid (p.eff = E) := (congrArg Pm.eff hpd).trans HE.out.symm; have HPO := hide hpo; have hB2 : w2.heap.size ≤ Q := (by omega); have HF := hide (foot0_above hpo hB2); clear hpd hpo))
    | (go_at_call 14; go_must (refine (zzhead_full p hok Q w3 _ 0 hrs3 (by rw [HPL.out, HPE.out, List.drop_zero, ← HLL.out]; exact hf)).mono ?_; rintro e w4 ⟨v4, rfl, hl4, hrs4, hC4⟩; have HL4 : Hid (Line w4 v4 (l.take E)) := (by have h9 := hl4.line; rw [HPL.out, HPE.out, List.drop_zero] at h9; exact h9); have hbe4 : Below w2.heap.size w2 w4 := hb3.trans (hC4.below hb3.size HF.out); have hc40 : w4.cell? ⟨gv, 0, none⟩ = some (.slice (some ⟨D, 0, none⟩) L n) := (by rw [HLL.out]; exact (hbe4.cell (p := ⟨gv, 0, none⟩) hgv).trans hc20); clear hl4))
    | (go_at_call 16; go_must (refine (eq_lines v4 _ (l.take E) w4 HL4.out (dat_line ao D n l w4 HN.out (hd2.below hbe4) HDD.out 0 E n (by omega) (by omega) _ (by rw [List.drop_zero])) (by simp; omega)).mono ?_; rintro e w5 ⟨rfl, hC5⟩; have hrs5 := hrs4.kept hC5 (fun _ _ h => h) (fun _ _ h => h)))
    | (go_at_call 28; go_must (refine (zzrest p Q w5 _ _ _ hrs5).mono ?_; rintro e w6 ⟨rfl, rfl⟩)))
  have hbe5 : Below w2.heap.size w2 w5 := hbe4.trans (hC5.below hbe4.size (fun _ _ h => h))
  clear hrs4 hc40 hC5
  go_loopw [14] (fun i wr => ∃ k : Nat, i = .int .i64 k ∧ k ≤ q + 1 ∧ (k ≤ q → RS p Q wr (.slice none 0 0) true (E + k * E)) ∧ Below w2.heap.size w2 wr) (fun i _ => q + 1 - (intOf i).toNat)
  case atStart => exact ⟨0, rfl, Nat.zero_le _, fun _ => (by rw [Nat.zero_mul, Nat.add_zero]; rw [HPE.out, Nat.zero_add] at hrs5; exact hrs5), hbe5⟩
  case round =>
    obtain ⟨k, rfl, hk, hrs', hbel⟩ := hrel
    clear hrs5
    by_cases hkq : k ≤ q
    · have hrs := hrs' hkq
      obtain ⟨kE, hkE⟩ : ∃ x, x = k * E := ⟨_, rfl⟩
      obtain ⟨m, hm⟩ : ∃ x, x = E + kE := ⟨_, rfl⟩
      have hmul : (k : Int) * (E : Int) = (kE : Int) := by rw [hkE]; simp
      have hmL : m ≤ L := by have h1 := Nat.mul_le_mul_right E hkq; have := HQ1.out; omega
      have hwm : IntKind.i64.wrap ((E : Int) + (kE : Int)) = (m : Int) := by rw [IntKind.wrap_i64]; omega
      have qk0 : decide ((k : Int) ≤ (q : Int)) = true := decide_eq_true (by omega)
      have HM : Hid (m = E + k * E) := (show m = E + k * E by rw [hm, hkE])
      rw [← hkE, ← hm] at hrs
      have hsum : (E : Int) + (kE : Int) = (m : Int) := by omega
      have hkb : kE ≤ 1048576 := by omega
      clear hrs' hkE hm
      by_cases hkl : k < q
      · have hto : m + E ≤ L := by have := Nat.mul_le_mul_right E (show k + 1 ≤ q by omega); rw [Nat.succ_mul] at this; have := HQ1.out; have := HM.out; omega
        have hidx : (l.drop m).idxOf 10 = L - m := by rw [idxOf_drop l m (by rw [← HLL.out]; omega), ← HLL.out]
        have H29 := hide (zzpiece_full p hok Q wr _ true m hrs (by rw [HPL.out, HPE.out, hidx]; omega))
        have qt : decide ((L : Int) < ((m + E : Nat) : Int)) = false := decide_eq_false (by omega)
        have qk : decide ((k : Int) < (q : Int)) = true := decide_eq_true (by omega)
        have hne : ¬ n = m := by omega
        have gm0 : (0 : Int) ≤ (m : Int) := Int.natCast_nonneg _
        have gm1 : (m : Int) ≤ ((m + E : Nat) : Int) := by omega
        have gm2 : ((m + E : Nat) : Int) ≤ (n : Int) := by omega
        have hwt : IntKind.i64.wrap ((m : Int) + (E : Int)) = ((m + E : Nat) : Int) := by rw [IntKind.wrap_i64]; omega
        clear hidx
        go_wp2_with (first
          | (go_at_call 29; go_must (refine H29.out.mono ?_; rintro e w5 ⟨v5, rfl, hl5, hrs5, hC5⟩; clear H29; rw [HPL.out, HPE.out] at hl5; have HL5 : Hid (Line w5 v5 ((l.drop m).take E)) := hl5.line; have hbe5 : Below w2.heap.size w2 w5 := hbel.trans (hC5.below hbel.size HF.out); clear hl5))
          | (go_at_call 16; go_must (refine (eq_lines v5 _ ((l.drop m).take E) w5 HL5.out (dat_line ao D n l w5 HN.out (hd2.below hbe5) HDD.out m E (n - m) (by omega) (by omega) _ rfl) (by simp; omega)).mono ?_; rintro e w6 ⟨rfl, hC6⟩; have hrs6 := hrs5.kept hC6 (fun _ _ h => h) (fun _ _ h => h)))
          | (go_at_call 28; go_must (refine (zzrest p Q w6 _ _ _ hrs6).mono ?_; rintro e w7 ⟨rfl, rfl⟩)))
        go_roundw
        case rel =>
          have hrs7 := hrs6
          have hbe7 : Below w2.heap.size w2 w6 := hbe5.trans (hC6.below hbe5.size (fun _ _ h => h))
          exact ⟨k + 1, by go_num, by omega, fun _ => (by rw [Nat.succ_mul, ← Nat.add_assoc, ← HM.out]; rw [HPE.out] at hrs7; exact hrs7), hbe7⟩
        case measure => simp [intOf]; omega
      · by_cases hnm : n = m
        · subst hnm
          have hkq : k = q := by omega
          have hto : L < n + E := by have h1 := HQ2.out; rw [← hkq] at h1; have h2 := HM.out; omega
          have hidx : (l.drop n).idxOf 10 = L - n := by rw [idxOf_drop l n (by rw [← HLL.out]; omega), ← HLL.out]
          have H29 := hide (zzpiece_last p hok Q wr _ true n hrs (by rw [HPL.out, HPE.out, hidx]; omega))
          have qt : decide ((L : Int) < ((n + E : Nat) : Int)) = true := decide_eq_true (by omega)
          have qk : decide ((k : Int) < (q : Int)) = false := decide_eq_false (by omega)
          have gm0 : (0 : Int) ≤ (n : Int) := Int.natCast_nonneg _
          have gm1 : (n : Int) ≤ (L : Int) := by omega
          have gm2 : (L : Int) ≤ (n : Int) := by omega
          have hwt : IntKind.i64.wrap ((n : Int) + (E : Int)) = ((n + E : Nat) : Int) := by rw [IntKind.wrap_i64]; omega
          have HI := hide hidx
          have HKQ := hide hkq
          clear hidx hkq
          go_wp2_with (first
            | (go_at_call 29; go_must (refine H29.out.mono ?_; rintro e w5 ⟨v5, rfl, hl5, hrs5, hC5⟩; clear H29; rw [HPL.out, HI.out] at hl5; have HL5 : Hid (Line w5 v5 ((l.drop n).take (L - n))) := hl5.line; have hbe5 : Below w2.heap.size w2 w5 := hbel.trans (hC5.below hbel.size HF.out); clear hl5))
            | (go_at_call 16; go_must (refine (eq_lines v5 _ ((l.drop n).take (L - n)) w5 HL5.out (dat_line ao D n l w5 HN.out (hd2.below hbe5) HDD.out 0 0 0 (by omega) (by omega) _ (by rw [show L - n = 0 by omega, List.take_zero, List.take_zero])) (by simp; omega)).mono ?_; rintro e w6 ⟨rfl, hC6⟩; have hrs6 := hrs5.kept hC6 (fun _ _ h => h) (fun _ _ h => h)))
            | (go_at_call 28; go_must (refine (zzrest p Q w6 _ _ _ hrs6).mono ?_; rintro e w7 ⟨rfl, rfl⟩)))
          go_roundw
          case rel =>
            have hrs7 := hrs6
            have hbe7 : Below w2.heap.size w2 w6 := hbe5.trans (hC6.below hbe5.size (fun _ _ h => h))
            exact ⟨k + 1, by go_num, by omega, fun h => by have := HKQ.out; omega, hbe7⟩
          case measure => simp [intOf]; omega
        · have hkq : k = q := by omega
          have hto : L < m + E := by have h1 := HQ2.out; rw [← hkq] at h1; have h2 := HM.out; omega
          have hidx : (l.drop m).idxOf 10 = L - m := by rw [idxOf_drop l m (by rw [← HLL.out]; omega), ← HLL.out]
          have H29 := hide (zzpiece_last p hok Q wr _ true m hrs (by rw [HPL.out, HPE.out, hidx]; omega))
          have qt : decide ((L : Int) < ((m + E : Nat) : Int)) = true := decide_eq_true (by omega)
          have qk : decide ((k : Int) < (q : Int)) = false := decide_eq_false (by omega)
          have gm0 : (0 : Int) ≤ (m : Int) := Int.natCast_nonneg _
          have gm1 : (m : Int) ≤ (L : Int) := by omega
          have gm2 : (L : Int) ≤ (n : Int) := by omega
          have hwt : IntKind.i64.wrap ((m : Int) + (E : Int)) = ((m + E : Nat) : Int) := by rw [IntKind.wrap_i64]; omega
          have HI := hide hidx
          have HKQ := hide hkq
          clear hidx hkq
          go_wp2_with (first
            | (go_at_call 29; go_must (refine H29.out.mono ?_; rintro e w5 ⟨v5, rfl, hl5, hrs5, hC5⟩; clear H29; rw [HPL.out, HI.out] at hl5; have HL5 : Hid (Line w5 v5 ((l.drop m).take (L - m))) := hl5.line; have hbe5 : Below w2.heap.size w2 w5 := hbel.trans (hC5.below hbel.size HF.out); clear hl5))
            | (go_at_call 16; go_must (refine (eq_lines v5 _ ((l.drop m).take (L - m)) w5 HL5.out (dat_line ao D n l w5 HN.out (hd2.below hbe5) HDD.out m (L - m) (n - m) (by omega) (by omega) _ rfl) (by simp; omega)).mono ?_; rintro e w6 ⟨rfl, hC6⟩; have hrs6 := hrs5.kept hC6 (fun _ _ h => h) (fun _ _ h => h)))
            | (go_at_call 28; go_must (refine (zzrest p Q w6 _ _ _ hrs6).mono ?_; rintro e w7 ⟨rfl, rfl⟩)))
          go_roundw
          case rel =>
            have hrs7 := hrs6
            have hbe7 : Below w2.heap.size w2 w6 := hbe5.trans (hC6.below hbe5.size (fun _ _ h => h))
            exact ⟨k + 1, by go_num, by omega, fun h => by have := HKQ.out; omega, hbe7⟩
          case measure => simp [intOf]; omega
    · obtain rfl : k = q + 1 := by omega
      go_wp2
      go_ret
      exact ⟨rfl, (hb1.trans (hb2.mono hb1.size)).trans (hbel.mono (Nat.le_trans hb1.size hb2.size))⟩
end Go.Proofs.Qxb6613793aDoor
