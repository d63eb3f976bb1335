/-
  THE WALK of FnNextPieceCutsTheRestIntoBufferfuls (7).
-/
import Derived.Test.Qxb6613793aDoorR12
set_option linter.unusedVariables false
set_option linter.unusedSimpArgs false
namespace Go.Proofs.Qxb6613793aDoor
open Go.RowKit

theorem eff_int (z : Int) : (if z < 16 then 16 else z) = (effOf z : Int) := by unfold effOf; split <;> omega

/-- A stretch of the data as a line. -/
theorem dat_line (ao : Option Addr) (D n : Nat) (l : List Int) (w : World) (hn : n = l.length) (hd : Dat ao n l w) (hD : ao = some ⟨D, 0, none⟩) (s m c : Nat) (hs : s + m ≤ l.length) (hc : m ≤ c) (xs : List Int) (hx : xs = (l.drop s).take m) :
    Line w (.slice (some ⟨D, s, none⟩) m c) xs := by
  have h2 : xs.length = m := by rw [hx]; simp; omega
  refine ⟨D, s, c, by rw [h2], by omega, hd.lt _ hD, fun i hi => ?_⟩
  rw [h2] at hi
  rw [hd.dat D hD (s + i) (by omega), hx]
  simp only [List.getD, List.getElem?_take_of_lt hi, List.getElem?_drop]

set_option maxRecDepth 100000 in
theorem law7_early (a0 : Option Addr) (n c : Nat) (z : Int) (w : World) (hn : n ≤ maxLen) (h : 1048576 < n ∨ 65536 < z) :
    Calls Tryd.prog 7 #[.slice a0 n c, .int .i64 z] w fun e w' => e = .returned (.bool true) ∧ Below w.heap.size w w' := by
  have hm : n ≤ 9223372036854775807 := by simp only [maxLen] at hn; omega
  by_cases h1 : 1048576 < n
  · go_enter Tryd.func7, Tryd.ntmps7
    go_wp2
    go_ret
    exact ⟨rfl, Below.refl _ _⟩
  · have h2 : 65536 < z := by omega
    go_enter Tryd.func7, Tryd.ntmps7
    go_wp2
    go_ret
    exact ⟨rfl, Below.refl _ _⟩

set_option maxRecDepth 100000 in
set_option maxHeartbeats 4000000 in
theorem law7_empty (a0 : Option Addr) (n c : Nat) (z : Int) (l : List Int) (aE aF : Addr) (w : World) (hh : Handed w a0 n c l) (hb : n ≤ 1048576) (hz1 : -9223372036854775808 ≤ z) (hz2 : z ≤ 65536) (henv : Env aE aF w) (hl : l = []) :
    Calls Tryd.prog 7 #[.slice a0 n c, .int .i64 z] w fun e w' => e = .returned (.bool true) ∧ Below w.heap.size w w' := by
  have HN := hide hh.1
  have H12 := hide (clone_all a0 n c l w hh hb)
  have H27 := hide (eff_all z)
  have HCS : Hid (cuts l 0 = []) := by rw [hl]; exact cuts_nil [] 0 (Nat.le_refl _)
  have HL := hide hl
  clear hh hl
  go_enter Tryd.func7, Tryd.ntmps7
  go_wp2_with (first
    | (go_at_call 26; go_in)
    | (go_at_call 12; go_must (refine H12.out.mono ?_; rintro e w1 ⟨ao, rfl, hao, hd1, hb1⟩; clear H12; have henv1 := henv.below hb1))
    | (go_at_call 27; go_must (refine (H27.out _).mono ?_; rintro e w' ⟨rfl, rfl⟩; rw [eff_int]; clear H27))
    | (go_at_call 23; go_must (refine (records_all ao n l w1 HN.out hao hd1).mono ?_; rintro e w2 ⟨rvv, uvv, D, rfl, hD, hr2, hu2, hb2⟩; have hd2 := hd1.below hb2; have henv2 := henv1.below hb2; clear hu2 hD; rw [HCS.out] at hr2; obtain ⟨av, cv, rfl⟩ := own_len hr2; simp only [List.length_nil]))
    | (go_at_call 18; go_must (refine (newReader_all ao n n z l aE aF w2 HN.out hz1 hz2 henv2 hd2).mono ?_; rintro e w3 ⟨Q, hQ, rfl, hok, hrs3, hb3⟩))
    | (go_at_call 14; go_must (refine (zzhead_none _ hok Q w3 _ 0 hrs3 HL.out).mono ?_; rintro e w4 ⟨rfl, hrs4, hC4⟩)))
  go_ret
  have hbe4 : Below w2.heap.size w2 w4 := hb3.trans (hC4.below hb3.size (fun k hk h => h.elim (fun h => by have := fresh_own _ _ _ _ _ _ _ _ h; omega) (fun h => by omega)))
  exact ⟨rfl, (hb1.trans (hb2.mono hb1.size)).trans (hbe4.mono (Nat.le_trans hb1.size hb2.size))⟩
theorem recs0 {w : World} {B D n : Nat} {v : Value} {l : List Int} (h : w.ownsRow B 22 1 v (cuts l 0).length ((cuts l 0).map (rv D n))) (hne : l ≠ []) :
    ∃ gv cv NC, v = .slice (some ⟨gv, 0, none⟩) NC cv ∧ 0 < NC ∧ NC ≤ l.length ∧ gv < w.heap.size ∧ w.cell? ⟨gv, 0, none⟩ = some (.slice (some ⟨D, 0, none⟩) (l.idxOf 10) n) ∧ NC = (cuts l 0).length := by
  have hl : 0 < l.length := List.length_pos_iff.2 hne
  have hc := cuts_cons l 0 hl
  have hcl := cuts_len l l.length 0 (Nat.le_refl _)
  obtain ⟨g, cap, hv, hg, hcell⟩ := row_at (xs := (cuts l 0).map (rv D n)) (by rw [List.length_map]; exact h) (by rw [List.length_map, hc]; simp)
  rw [List.length_map] at hv
  refine ⟨g, cap, (cuts l 0).length, hv, by rw [hc]; simp, by omega, hg, ?_, rfl⟩
  refine (hcell 0 _ (by rw [hc]; rfl)).trans ?_
  simp [rv]

theorem foot0_above {p : Pm} {Q B : Nat} (hpo : ∀ b, p.own b → B ≤ b) (hQ : B ≤ Q) (k : Nat) (hk : k < B) : ¬ foot0 p Q k := by
  rintro (h | rfl)
  · have := hpo k h; omega
  · omega

set_option maxRecDepth 100000 in
set_option maxHeartbeats 8000000 in
theorem law7_short (a0 : Option Addr) (n c : Nat) (z : Int) (l : List Int) (aE aF : Addr) (w : World) (hh : Handed w a0 n c l) (hb : n ≤ 1048576) (hz1 : -9223372036854775808 ≤ z) (hz2 : z ≤ 65536) (henv : Env aE aF w) (hne : l ≠ []) (hf : l.idxOf 10 < effOf z) :
    Calls Tryd.prog 7 #[.slice a0 n c, .int .i64 z] w fun e w' => e = .returned (.bool true) ∧ Below w.heap.size w w' := by
  have HN := hide hh.1
  have H12 := hide (clone_all a0 n c l w hh hb)
  have H27 := hide (eff_all z)
  have HNE := hide hne
  have hll : 0 < l.length := List.length_pos_iff.2 hne
  have hLl : l.idxOf 10 ≤ l.length := idx_le l
  have hnl : l.length ≤ 1048576 := by have := hh.1; omega
  have hE16 := (eff_bounds z hz2).1
  have hEb := (eff_bounds z hz2).2
  obtain ⟨E, hE⟩ : ∃ E, E = effOf z := ⟨_, rfl⟩
  have HEI : Hid ((if z < 16 then 16 else z) = (E : Int)) := by rw [hE]; exact eff_int z
  obtain ⟨L, hL⟩ : ∃ L, L = l.idxOf 10 := ⟨_, rfl⟩
  rw [← hE] at hE16 hEb hf
  rw [← hL] at hLl hf
  have HE := hide hE
  have HLL := hide hL
  have hnn : n = l.length := hh.1
  have hnb : L ≤ n := by omega
  have HNN := hide hnn
  clear hh hne hE hL hnn
  go_enter Tryd.func7, Tryd.ntmps7
  go_wp2_with (first
    | (go_at_call 26; go_in)
    | (go_at_call 12; go_must (refine H12.out.mono ?_; rintro e w1 ⟨ao, rfl, hao, hd1, hb1⟩; clear H12; have henv1 := henv.below hb1))
    | (go_at_call 27; go_must (refine (H27.out _).mono ?_; rintro e w' ⟨rfl, rfl⟩; rw [HEI.out]; clear H27))
    | (go_at_call 23; go_must (refine (records_all ao n l w1 HN.out hao hd1).mono ?_; rintro e w2 ⟨rvv, uvv, D, rfl, hD, hr2, hu2, hb2⟩; have hd2 := hd1.below hb2; have henv2 := henv1.below hb2; have HDD := hide (hD HNE.out); clear hD; obtain ⟨gv, cv, NC, rfl, hNC, hNC2, hgv, hc20, hNC3⟩ := recs0 hr2 HNE.out; have HR2 := hide hr2; have HU2 := hide hu2; have HNC := hide hNC3; clear hr2 hu2 hNC3))
    | (go_at_call 18; go_must (refine (newReader_all ao n n z l aE aF w2 HN.out hz1 hz2 henv2 hd2).mono ?_; rintro e w3 ⟨Q, hQ, rfl, hok, hrs3, hb3⟩; have hpo := fresh_own w2 z ao n l aE aF; obtain ⟨p, hpd⟩ : ∃ p, p = fresh w2 z ao n l aE aF := ⟨_, rfl⟩; rw [← hpd] at hok hrs3 hpo; have HPL : Hid (p.l = l) := congrArg Pm.l hpd; have HPE : Hid (p.eff = E) := (congrArg Pm.eff hpd).trans HE.out.symm; have HPO := hide hpo; have hB2 : w2.heap.size ≤ Q := (by omega); have HF := hide (foot0_above hpo hB2); clear hpd hpo))
    | (go_at_call 14; go_must (refine (zzhead_last p hok Q w3 _ 0 hrs3 (by rw [HPL.out, HPE.out, List.drop_zero, ← HLL.out]; exact hf) (by rw [HPL.out, List.drop_zero]; exact hll)).mono ?_; rintro e w4 ⟨v4, rfl, hl4, hrs4, hC4⟩; have HL4 : Hid (Line w4 v4 (l.take L)) := (by have h9 := hl4.line; rw [HPL.out, List.drop_zero, ← HLL.out] at h9; exact h9); have hbe4 : Below w2.heap.size w2 w4 := hb3.trans (hC4.below hb3.size HF.out); have hc40 : w4.cell? ⟨gv, 0, none⟩ = some (.slice (some ⟨D, 0, none⟩) L n) := (by rw [HLL.out]; exact (hbe4.cell (p := ⟨gv, 0, none⟩) hgv).trans hc20); clear hl4))
    | (go_at_call 16; go_must (refine (eq_lines v4 _ (l.take L) w4 HL4.out (dat_line ao D n l w4 HN.out (hd2.below hbe4) HDD.out 0 L n (by omega) hnb _ (by rw [List.drop_zero])) (by simp; omega)).mono ?_; rintro e w5 ⟨rfl, hC5⟩; have hrs5 := hrs4.kept hC5 (fun _ _ h => h) (fun _ _ h => h)))
    | (go_at_call 28; go_must (refine (zzrest p Q w5 _ _ _ hrs5).mono ?_; rintro e w6 ⟨rfl, rfl⟩)))
  go_ret
  have hbe5 : Below w2.heap.size w2 w5 := hbe4.trans (hC5.below hbe4.size (fun _ _ h => h))
  exact ⟨rfl, (hb1.trans (hb2.mono hb1.size)).trans (hbe5.mono (Nat.le_trans hb1.size hb2.size))⟩
end Go.Proofs.Qxb6613793aDoor
