/-
  THE WALK of FnNextReadsEveryRecord (5).
-/
import Derived.Test.Qxb6613793aDoorR11
set_option linter.unusedVariables false
set_option linter.unusedSimpArgs false
namespace Go.Proofs.Qxb6613793aDoor
open Go.RowKit

/-- A slice of bytes as it is handed in: nil, or cells. -/
def Handed (w : World) (a0 : Option Addr) (n c : Nat) (l : List Int) : Prop :=
  n = l.length ∧ Byt l ∧ ((a0 = none ∧ n = 0 ∧ c = 0) ∨ ∃ x, a0 = some x ∧ ∀ i, i < n → w.cell? (x.add i) = some (.int .u8 (l.getD i 0)))

/-- zzClone whole. -/
theorem clone_all (a0 : Option Addr) (n c : Nat) (l : List Int) (w : World) (h : Handed w a0 n c l) (hb : n ≤ 1048576) :
    Calls Tryd.prog 12 #[.slice a0 n c] w fun e w' => ∃ ao, e = .returned (.slice ao n n) ∧ ((ao = none ∧ l = []) ∨ ∃ D, ao = some ⟨D, 0, none⟩) ∧ Dat ao n l w' ∧ Below w.heap.size w w' := by
  obtain ⟨hn, hby, ⟨rfl, rfl, rfl⟩ | ⟨x, rfl, hc⟩⟩ := h
  · refine (clone_nil w).mono ?_
    rintro e w' ⟨rfl, rfl⟩
    have hl : l = [] := List.eq_nil_of_length_eq_zero hn.symm
    exact ⟨none, rfl, .inl ⟨rfl, hl⟩, ⟨hby, by omega, by omega, by omega, fun h => absurd hl h, (fun a h => by cases h), (fun D h => by cases h)⟩, Below.refl _ _⟩
  · refine (clone_some x n c l w hn (by omega) hc hby).mono ?_
    rintro e w' ⟨rfl, hown, hbel⟩
    refine ⟨some ⟨w.heap.size, 0, none⟩, rfl, .inr ⟨_, rfl⟩, ⟨hby, by omega, by omega, by omega, fun _ => ⟨_, rfl⟩, fun a ha => ?_, fun D hD j hj => ?_⟩, hbel⟩
    · cases ha
      exact (hown.lt _ rfl).2
    · obtain rfl : w.heap.size = D := by simpa using hD
      rw [hown.cellAt j (by omega), List.getElem?_map, List.getElem?_eq_getElem hj]
      simp [List.getD, List.getElem?_eq_getElem hj]

/-- zzRecords whole. -/
theorem records_all (ao : Option Addr) (n : Nat) (l : List Int) (w : World) (hn : n = l.length) (hao : (ao = none ∧ l = []) ∨ ∃ D, ao = some ⟨D, 0, none⟩) (hd : Dat ao n l w) :
    Calls Tryd.prog 23 #[.slice ao n n] w fun e w' => ∃ v u D, e = .returned (.tuple #[v, u]) ∧ (l ≠ [] → ao = some ⟨D, 0, none⟩) ∧ w'.ownsRow w.heap.size 22 1 v (cuts l 0).length ((cuts l 0).map (rv D n)) ∧ w'.ownsRow w.heap.size 3 1 u (cuts l 0).length ((cuts l 0).map ev) ∧ Below w.heap.size w w' := by
  rcases hao with ⟨rfl, rfl⟩ | ⟨D, rfl⟩
  · obtain rfl : n = 0 := hn
    refine (records_nil w).mono ?_
    rintro e w' ⟨rfl, rfl⟩
    have hc : cuts [] 0 = [] := cuts_nil [] 0 (Nat.le_refl _)
    rw [hc]
    exact ⟨_, _, 0, rfl, fun h => absurd rfl h, World.ownsRow_nil _ _ _ _, World.ownsRow_nil _ _ _ _, Below.refl _ _⟩
  · refine (records_some D n l w hn (by have := hd.ln; omega) (hd.lt _ rfl) (fun i hi => hd.dat D rfl i (by omega))).mono ?_
    rintro e w' ⟨v, u, rfl, h1, h2, h3⟩
    exact ⟨v, u, D, rfl, fun _ => rfl, h1, h2, h3⟩

/-- Record t of the data as a line. -/
theorem rv_line (ao : Option Addr) (D n : Nat) (l : List Int) (w : World) (hn : n = l.length) (hd : Dat ao n l w) (hD : ao = some ⟨D, 0, none⟩) (pos : Nat) (hp : pos < l.length) (nxt : Nat) :
    Line w (rv D n (pos, pos + (l.drop pos).idxOf 10, nxt)) ((l.drop pos).take ((l.drop pos).idxOf 10)) := by
  have h1 := idx_le (l.drop pos)
  have h2 : ((l.drop pos).take ((l.drop pos).idxOf 10)).length = (l.drop pos).idxOf 10 := by simp at h1 ⊢; omega
  have h3 : (l.drop pos).length = l.length - pos := by simp
  refine ⟨D, pos, n - pos, by rw [h2]; unfold rv; simp, by omega, hd.lt _ hD, fun i hi => ?_⟩
  rw [h2] at hi
  rw [hd.dat D hD (pos + i) (by omega)]
  simp only [List.getD, List.getElem?_take_of_lt hi, List.getElem?_drop]

theorem row_at {w : World} {B e : Nat} {v : Value} {xs : List Value} (h : w.ownsRow B e 1 v xs.length xs) (hne : 0 < xs.length) : ∃ g cap, v = .slice (some ⟨g, 0, none⟩) xs.length cap ∧ g < w.heap.size ∧ ∀ k x, xs[k]? = some x → w.cell? ⟨g, k, none⟩ = some x := by
  rcases h.2 with ⟨_, e⟩ | ⟨g, cap, cur, rfl, _, hg, _, _, _, hcur⟩
  · omega
  · refine ⟨g, cap, rfl, heap_lt hg, fun k x hk => ?_⟩
    rw [heap_of_cell hg, ← Array.getElem?_toList]
    have hkl := (List.getElem?_eq_some_iff.1 hk).1
    rw [Nat.mul_one] at hcur
    rw [← hcur, List.getElem?_take_of_lt hkl] at hk
    exact hk

theorem cuts_len (l : List Int) : ∀ (m pos : Nat), l.length - pos ≤ m → (cuts l pos).length ≤ l.length - pos
  | 0, pos, h => by rw [cuts_nil l pos (by omega)]; simp
  | m + 1, pos, h => by
    rcases Nat.lt_or_ge pos l.length with h1 | h1
    · have h2 := nx_gt l pos h1
      have h3 := cuts_len l m (nx l pos) (by omega)
      rw [cuts_cons l pos h1, List.length_cons]
      omega
    · rw [cuts_nil l pos h1]; simp

theorem own_len {w : World} {B e s n : Nat} {v : Value} {xs : List Value} (h : w.ownsRow B e s v n xs) : ∃ a c, v = .slice a n c := by
  rcases h.2 with ⟨rfl, rfl⟩ | ⟨g, cap, _, rfl, _⟩
  · exact ⟨_, _, rfl⟩
  · exact ⟨_, _, rfl⟩
theorem fresh_own (w : World) (z : Int) (ao : Option Addr) (c : Nat) (l : List Int) (aE aF : Addr) (b : Nat) (h : (fresh w z ao c l aE aF).own b) : w.heap.size ≤ b := by
  rcases h with rfl | rfl | rfl <;> simp only [fresh] <;> omega
/-- All that a reader changes lies above B. -/
theorem foot_above {p : Pm} {Q B : Nat} {long : Value} (hpo : ∀ b, p.own b → B ≤ b) (hQ : B ≤ Q) (hl : ∀ g, long.ownBlock = some g → B ≤ g) (k : Nat) (hk : k < B) : ¬ foot p Q long k := by
  rintro (h | rfl | h)
  · have := hpo k h; omega
  · omega
  · have := hl k h; omega

set_option maxRecDepth 100000 in
theorem law5_early (a0 : Option Addr) (n c : Nat) (z : Int) (w : World) (hn : n ≤ maxLen) (h : 1048576 < n ∨ 65536 < z) :
    Calls Tryd.prog 5 #[.slice a0 n c, .int .i64 z] w fun e w' => e = .returned (.bool true) ∧ Below w.heap.size w w' := by
  have hm : n ≤ 9223372036854775807 := by simp only [maxLen] at hn; omega
  by_cases h1 : 1048576 < n
  · go_enter Tryd.func5, Tryd.ntmps5
    go_wp2
    go_ret
    exact ⟨rfl, Below.refl _ _⟩
  · have h2 : 65536 < z := by omega
    go_enter Tryd.func5, Tryd.ntmps5
    go_wp2
    go_ret
    exact ⟨rfl, Below.refl _ _⟩

set_option maxRecDepth 100000 in
set_option maxHeartbeats 4000000 in
theorem law5_main (a0 : Option Addr) (n c : Nat) (z : Int) (l : List Int) (aE aF : Addr) (w : World) (hh : Handed w a0 n c l) (hb : n ≤ 1048576) (hz1 : -9223372036854775808 ≤ z) (hz2 : z ≤ 65536) (henv : Env aE aF w) :
    Calls Tryd.prog 5 #[.slice a0 n c, .int .i64 z] w fun e w' => e = .returned (.bool true) ∧ Below w.heap.size w w' := by
  have hn : n = l.length := hh.1
  have HN := hide hn
  have H12 := hide (clone_all a0 n c l w hh hb)
  clear hn hh
  go_enter Tryd.func5, Tryd.ntmps5
  go_wp2_with (first
    | (go_at_call 22; go_in)
    | (go_at_call 12; go_must (refine H12.out.mono ?_; rintro e w1 ⟨ao, rfl, hao, hd1, hb1⟩; clear H12; have henv1 := henv.below hb1))
    | (go_at_call 23; go_must (refine (records_all ao n l w1 HN.out hao hd1).mono ?_; rintro e w2 ⟨rvv, uvv, D, rfl, hD, hr2, hu2, hb2⟩; have hd2 := hd1.below hb2; have henv2 := henv1.below hb2; clear hu2; obtain ⟨av, cv, rfl⟩ := own_len hr2; obtain ⟨CS, hCS⟩ : ∃ CS, CS = cuts l 0 := ⟨_, rfl⟩; rw [← hCS] at hr2 ⊢; have HCS := hide hCS; clear hCS))
    | (go_at_call 18; go_must (refine (newReader_all ao n n z l aE aF w2 HN.out hz1 hz2 henv2 hd2).mono ?_; rintro e w3 ⟨Q, hQ, rfl, hok, hrs3, hb3⟩; have hpo := fresh_own w2 z ao n l aE aF; obtain ⟨p, hpd⟩ : ∃ p, p = fresh w2 z ao n l aE aF := ⟨_, rfl⟩; rw [← hpd] at hok hrs3 hpo; have hpl : p.l = l := congrArg Pm.l hpd; have HPL := hide hpl; have HPO := hide hpo; clear hpd hpl hpo)))
  have hB2 : w2.heap.size ≤ Q := by omega
  have hcl : CS.length ≤ 1048576 := by have h1 := cuts_len l l.length 0 (Nat.le_refl _); have h2 := hd2.ln; rw [← HCS.out] at h1; omega
  go_loopw [8] (fun i wr => ∃ (k pos : Nat) (long : Value), i = .int .i64 k ∧ k ≤ CS.length ∧ cuts l pos = CS.drop k ∧ RS p Q wr long false pos ∧ (∀ g, long.ownBlock = some g → w2.heap.size ≤ g) ∧ Below w2.heap.size w2 wr) (fun i _ => CS.length - (intOf i).toNat)
  case atStart => exact ⟨0, 0, _, rfl, Nat.zero_le _, by rw [List.drop_zero]; exact HCS.out.symm, hrs3, (fun g h => by cases h), hb3⟩
  case round =>
    obtain ⟨k, pos, long, rfl, hk, hcut, hrs, hlong, hbel⟩ := hrel
    have hle : pos ≤ l.length := by have := hrs.le; rw [HPL.out] at this; exact this
    have hfoot := foot_above HPO.out hB2 hlong
    by_cases hlt : k < CS.length
    · have hpos : pos < l.length := by
        rcases Nat.lt_or_ge pos l.length with h | h
        · exact h
        · rw [cuts_nil l pos h] at hcut
          have := congrArg List.length hcut
          simp at this; omega
      rw [cuts_cons l pos hpos] at hcut
      have hck : CS[k]? = some (pos, pos + (l.drop pos).idxOf 10, nx l pos) := by
        have := congrArg (fun xs => xs[0]?) hcut
        simpa [List.getElem?_drop] using this.symm
      have hnext : cuts l (nx l pos) = CS.drop (k + 1) := by
        have := congrArg (List.drop 1) hcut
        simpa [List.drop_drop] using this
      have hlne : l ≠ [] := fun e => by rw [e] at hpos; simp at hpos
      have hDD := hD hlne
      obtain ⟨gv, capv, hve, hgv, hcells⟩ := row_at (xs := CS.map (rv D n)) (by rw [List.length_map]; exact hr2) (by rw [List.length_map]; omega)
      obtain ⟨rfl, rfl⟩ : av = some ⟨gv, 0, none⟩ ∧ cv = capv := by simpa using hve
      have hrc2 : wr.cell? ⟨gv, k, none⟩ = some (rv D n (pos, pos + (l.drop pos).idxOf 10, nx l pos)) := (hbel.cell (p := ⟨gv, k, none⟩) hgv).trans (hcells k _ (by rw [List.getElem?_map, hck]; rfl))
      obtain ⟨RV, hRV⟩ : ∃ x, x = rv D n (pos, pos + (l.drop pos).idxOf 10, nx l pos) := ⟨_, rfl⟩
      rw [← hRV] at hrc2
      have hdr : Dat ao n l wr := hd2.below hbel
      have h24 := zznext_some p hok Q wr long pos hrs (by rw [HPL.out]; simp; omega)
      rw [HPL.out] at h24
      have hxl : ((l.drop pos).take ((l.drop pos).idxOf 10)).length ≤ 2000000 := by have := hd2.ln; simp; omega
      have H24 := hide h24
      have HRV := hide hRV
      have HCK := hide hck
      have HNX := hide hnext
      have HC2 := hide hcells
      have HDD := hide hDD
      clear h24 hRV hck hnext hcells hcut hve hDD hD hlne
      go_wp2_with (first
        | (go_at_call 24; go_must (refine H24.out.mono ?_; rintro e w5 ⟨v5, long5, rfl, hl5, hrs5, hC5, hnew5⟩; clear H24; have hbe5 : Below w2.heap.size w2 w5 := hbel.trans (hC5.below hbel.size hfoot); have HL : Hid (Line w5 RV ((l.drop pos).take ((l.drop pos).idxOf 10))) := (by rw [HRV.out]; exact rv_line ao D n l w5 HN.out (hd2.below hbe5) HDD.out pos hpos _); have hrc5 : w5.cell? ⟨gv, k, none⟩ = some RV := (hC5.cell (p := ⟨gv, k, none⟩) (Nat.lt_of_lt_of_le hgv hbel.size) (hfoot _ hgv)).trans hrc2))
        | (go_at_call 16; go_must (refine (eq_lines v5 RV _ w5 hl5 HL.out hxl).mono ?_; rintro e w6 ⟨rfl, hC6⟩)))
      go_roundw
      case rel => exact ⟨k + 1, nx l pos, long5, by go_num, by omega, HNX.out, (hrs5.kept hC6 (fun _ _ h => h) (fun _ _ h => h)), fun g hg => (hnew5 g hg).elim (hlong g) (fun h => Nat.le_trans hbel.size h), hbe5.trans (hC6.below hbe5.size (fun _ _ h => h))⟩
      case measure => simp [intOf]; omega
    · obtain rfl : k = CS.length := by omega
      have hend : l.length ≤ pos := by
        rcases Nat.lt_or_ge pos l.length with h | h
        · rw [cuts_cons l pos h, List.drop_of_length_le (Nat.le_refl _)] at hcut
          cases hcut
        · exact h
      have hdrop : p.l.drop pos = [] := by rw [HPL.out]; exact List.drop_of_length_le hend
      have H24 := hide (zznext_none p hok Q wr long pos hrs hdrop)
      clear hcut
      go_wp2_with fail
      refine H24.out.mono ?_
      rintro e w5 ⟨rfl, hrs5, hC5⟩
      clear H24
      have H24 := hide (zznext_none p hok Q w5 long pos hrs5 hdrop)
      go_wp2_with fail
      refine H24.out.mono ?_
      rintro e w6 ⟨rfl, hrs6, hC6⟩
      clear H24
      go_wp2_with fail
      go_ret
      have hbe5 : Below w2.heap.size w2 w5 := hbel.trans (hC5.below hbel.size hfoot)
      have hbe6 : Below w2.heap.size w2 w6 := hbe5.trans (hC6.below hbe5.size hfoot)
      have h12 : Below w.heap.size w1 w2 := hb2.mono hb1.size
      exact ⟨rfl, (hb1.trans h12).trans (hbe6.mono (Nat.le_trans hb1.size hb2.size))⟩
end Go.Proofs.Qxb6613793aDoor
