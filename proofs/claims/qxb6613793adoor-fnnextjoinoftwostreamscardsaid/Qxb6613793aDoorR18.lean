/-
  THE WALKS of zzCountRecords (20), zzSameRecords (21).
-/
import Derived.Test.Qxb6613793aDoorR16
set_option linter.unusedVariables false
set_option linter.unusedSimpArgs false
namespace Go.Proofs.Qxb6613793aDoor
open Go.RowKit

set_option maxRecDepth 100000 in
theorem count_nil (ao : Option Addr) (c : Nat) (w : World) : Calls Tryd.prog 20 #[.slice ao 0 c] w fun e w' => e = .returned (.int .i64 0) ∧ w = w' := by
  go_enter Tryd.func20, Tryd.ntmps20
  go_wp2
  refine wp_loop_rounds 1 ?_
  rw [rounds_succ]
  go_wp2
  go_ret
  exact ⟨rfl, rfl⟩

set_option maxRecDepth 100000 in
set_option maxHeartbeats 2000000 in
theorem count_some (D n c : Nat) (l : List Int) (w : World) (hn : n = l.length) (hb : n ≤ 1048576) (h0 : 0 < n) (hcell : ∀ i, i < n → w.cell? ⟨D, i, none⟩ = some (.int .u8 (l.getD i 0))) :
    Calls Tryd.prog 20 #[.slice (some ⟨D, 0, none⟩) n c] w fun e w' => e = .returned (.int .i64 (cntR l : Nat)) ∧ w = w' := by
  have HN := hide hn
  have hne : l ≠ [] := fun e => by rw [e] at hn; simp at hn; omega
  have HNE := hide hne
  have HCELL := hide hcell
  clear hn hne hcell
  go_enter Tryd.func20, Tryd.ntmps20
  go_wp2
  go_loopw [3, 4] (fun c i wr => ∃ k m : Nat, i = .int .i64 k ∧ c = .int .i64 m ∧ k ≤ n ∧ m = (l.take k).count 10 ∧ w = wr) (fun _ i _ => n - (intOf i).toNat)
  case atStart => exact ⟨0, 0, rfl, rfl, Nat.zero_le _, rfl, rfl⟩
  case round =>
    obtain ⟨k, m, rfl, rfl, hk, hm, rfl⟩ := hrel
    have hmk : m ≤ k := by rw [hm]; have := List.count_le_length (a := (10 : Int)) (l := l.take k); simp at this; omega
    by_cases hlt : k < n
    · have hc0 := HCELL.out k hlt
      have hst := count_step l k (by rw [← HN.out]; exact hlt)
      by_cases hlf : l.getD k 0 = 10
      · rw [hlf] at hc0
        rw [if_pos hlf] at hst
        have HST := hide hst
        have HM := hide hm
        clear hst hm hlf
        go_wp2
        go_roundw
        case rel => exact ⟨k + 1, m + 1, by go_num, by go_num, by omega, by rw [HST.out, ← HM.out], (by trivial)⟩
        case measure => simp [intOf]; omega
      · rw [if_neg hlf] at hst
        obtain ⟨x, hx⟩ : ∃ x, x = l.getD k 0 := ⟨_, rfl⟩
        rw [← hx] at hc0 hlf
        have hq : (x == 10) = false := by simp [hlf]
        have HST := hide hst
        have HM := hide hm
        clear hx hst hm
        go_wp2
        go_roundw
        case rel => exact ⟨k + 1, m, by go_num, rfl, by omega, by rw [HST.out, ← HM.out]; rfl, (by trivial)⟩
        case measure => simp [intOf]; omega
    · obtain rfl : k = n := by omega
      have hm2 : m = l.count 10 := by rw [hm, List.take_of_length_le (by rw [← HN.out]; exact Nat.le_refl _)]
      have hcnt := cntR_count l
      rw [openEnd_last l HNE.out, ← HN.out, ← hm2] at hcnt
      have hc0 := HCELL.out (k - 1) (by omega)
      have hk1 : (k : Int) - 1 = ((k - 1 : Nat) : Int) := by omega
      have g0 : (0 : Int) ≤ ((k - 1 : Nat) : Int) := Int.natCast_nonneg _
      have g1 : ((k - 1 : Nat) : Int) < (k : Int) := by omega
      have q0 : decide ((0 : Int) < (k : Int)) = true := decide_eq_true (by omega)
      clear hm hm2
      obtain ⟨x, hx⟩ : ∃ x, x = l.getD (k - 1) 0 := ⟨_, rfl⟩
      rw [← hx] at hc0 hcnt
      clear hx
      by_cases hlf : x = 10
      · subst hlf
        have HCN : Hid (cntR l = m) := (show cntR l = m by rw [hcnt]; rfl)
        clear hcnt
        go_wp2
        go_ret
        exact ⟨by rw [HCN.out]; rfl, rfl⟩
      · have hq : (x == 10) = false := by simp [hlf]
        have HCN : Hid (cntR l = m + 1) := (show cntR l = m + 1 by rw [hcnt]; simp [hlf])
        clear hcnt
        go_wp2
        go_ret
        exact ⟨by rw [HCN.out]; go_num, rfl⟩

/-- zzCountRecords whole. -/
theorem count_all (ao : Option Addr) (n : Nat) (l : List Int) (w : World) (hn : n = l.length) (hao : (ao = none ∧ l = []) ∨ ∃ D, ao = some ⟨D, 0, none⟩) (hd : Dat ao n l w) :
    Calls Tryd.prog 20 #[.slice ao n n] w fun e w' => e = .returned (.int .i64 (cntR l : Nat)) ∧ w = w' := by
  by_cases hl : l = []
  · subst hl
    obtain rfl : n = 0 := hn
    exact count_nil ao 0 w
  · rcases hao with ⟨_, e⟩ | ⟨D, rfl⟩
    · exact absurd e hl
    · exact count_some D n n l w hn (by have := hd.ln; omega) (by have := List.length_pos_iff.2 hl; omega) (fun i hi => hd.dat D rfl i (by omega))

set_option maxRecDepth 100000 in
set_option maxHeartbeats 1000000 in
theorem eq_quiet (g1 o1 c1 g2 o2 c2 n : Nat) (xs : List Int) (w : World) (hb : n ≤ 2000000) (h1 : ∀ i, i < n → w.cell? ⟨g1, o1 + i, none⟩ = some (.int .u8 (xs.getD i 0))) (h2 : ∀ i, i < n → w.cell? ⟨g2, o2 + i, none⟩ = some (.int .u8 (xs.getD i 0))) :
    Calls Tryd.prog 16 #[.slice (some ⟨g1, o1, none⟩) n c1, .slice (some ⟨g2, o2, none⟩) n c2] w fun e w' => e = .returned (.bool true) ∧ ∃ m, w' = w.drewN m := by
  go_enter Tryd.func16, Tryd.ntmps16
  go_wp2
  go_loopw [5] (fun i wr => ∃ k m : Nat, i = .int .i64 k ∧ k ≤ n ∧ wr = w.drewN m) (fun i _ => n - (intOf i).toNat)
  case atStart => exact ⟨0, 0, rfl, Nat.zero_le _, rfl⟩
  case round =>
    obtain ⟨k, m, rfl, hk, hC⟩ := hrel
    have HC := hide hC
    by_cases hlt : k < n
    · have d1 : wr.cell? ⟨g1, o1 + k, none⟩ = some (.int .u8 (xs.getD k 0)) := by rw [hC]; exact h1 k hlt
      have d2 : wr.cell? ⟨g2, o2 + k, none⟩ = some (.int .u8 (xs.getD k 0)) := by rw [hC]; exact h2 k hlt
      have q0 : decide ((k : Int) < (n : Int)) = true := decide_eq_true (by omega)
      have g8 : (0 : Int) ≤ (k : Int) := Int.natCast_nonneg _
      have g9 : (k : Int) < (n : Int) := by omega
      clear hC
      go_wp2_with fail
      go_quiet (fail)
      have HC2 : Hid (wr.drewN nq = w.drewN (m + nq)) := (show wr.drewN nq = w.drewN (m + nq) by rw [HC.out, World.drewN_drewN])
      generalize wr.drewN nq = W at *
      go_wp2
      go_roundw
      case rel => exact ⟨k + 1, m + nq, by go_num, by omega, HC2.out⟩
      case measure => simp [intOf]; omega
    · obtain rfl : k = n := by omega
      clear hC
      go_wp2
      go_ret
      exact ⟨rfl, m, HC.out⟩

/-- zzEq of two equal lines, by reads alone. -/
theorem eq_lines_quiet (v1 v2 : Value) (xs : List Int) (w : World) (h1 : Line w v1 xs) (h2 : Line w v2 xs) (hb : xs.length ≤ 2000000) :
    Calls Tryd.prog 16 #[v1, v2] w fun e w' => e = .returned (.bool true) ∧ ∃ m, w' = w.drewN m := by
  obtain ⟨g1, o1, c1, rfl, _, _, k1⟩ := h1
  obtain ⟨g2, o2, c2, rfl, _, _, k2⟩ := h2
  exact eq_quiet g1 o1 c1 g2 o2 c2 _ xs w hb k1 k2

set_option maxRecDepth 100000 in
set_option maxHeartbeats 2000000 in
theorem same_true (v u : Value) (n B1 B2 : Nat) (vs us : List Value) (rs : List (List Int)) (w : World) (hv : w.ownsRow B1 22 1 v n vs) (hu : w.ownsRow B2 22 1 u n us) (h1 : Lns w vs rs) (h2 : Lns w us rs) (hb : n ≤ 2000000) (hr : ∀ k, (rs.getD k []).length ≤ 2000000) :
    Calls Tryd.prog 21 #[v, u] w fun e w' => e = .returned (.bool true) ∧ ∃ m, w' = w.drewN m := by
  have hvl : vs.length = n := by have := hv.1; omega
  have hul : us.length = n := by have := hu.1; omega
  have HVL := hide hvl
  have HUL := hide hul
  have HV := hide hv
  have HU := hide hu
  have H1 := hide h1
  have H2 := hide h2
  have HR := hide hr
  obtain ⟨av, cv, rfl⟩ := own_len hv
  obtain ⟨au, cu, rfl⟩ := own_len hu
  clear hv hu h1 h2 hr hvl hul
  go_enter Tryd.func21, Tryd.ntmps21
  go_wp2
  go_loopw [5] (fun i wr => ∃ k m : Nat, i = .int .i64 k ∧ k ≤ n ∧ wr = w.drewN m) (fun i _ => n - (intOf i).toNat)
  case atStart => exact ⟨0, 0, rfl, Nat.zero_le _, rfl⟩
  case round =>
    obtain ⟨k, m, rfl, hk, hC⟩ := hrel
    by_cases hlt : k < n
    · obtain ⟨gv, capv, hve, hgv, hcv⟩ := row_at (xs := vs) (by rw [HVL.out]; exact HV.out) (by rw [HVL.out]; omega)
      obtain ⟨gu, capu, hue, hgu, hcu⟩ := row_at (xs := us) (by rw [HUL.out]; exact HU.out) (by rw [HUL.out]; omega)
      obtain ⟨rfl, rfl⟩ : av = some ⟨gv, 0, none⟩ ∧ cv = capv := by simpa [HVL.out] using hve
      obtain ⟨rfl, rfl⟩ : au = some ⟨gu, 0, none⟩ ∧ cu = capu := by simpa [HUL.out] using hue
      have hkr : k < rs.length := by rw [← H1.out.1, HVL.out]; exact hlt
      obtain ⟨x, hx, hlx⟩ := H1.out.at k hkr
      obtain ⟨y, hy, hly⟩ := H2.out.at k hkr
      have hcx : wr.cell? ⟨gv, k, none⟩ = some x := by rw [hC]; exact hcv k x hx
      have hcy : wr.cell? ⟨gu, k, none⟩ = some y := by rw [hC]; exact hcu k y hy
      have H16 : Hid (∀ nn, Calls Tryd.prog 16 #[x, y] (wr.drewN nn) fun e w' => e = .returned (.bool true) ∧ ∃ m, w' = (wr.drewN nn).drewN m) := fun nn => eq_lines_quiet x y _ _ (by rw [hC]; exact (hlx.drewN m).drewN nn) (by rw [hC]; exact (hly.drewN m).drewN nn) (HR.out k)
      have q0 : decide ((k : Int) < (n : Int)) = true := decide_eq_true (by omega)
      have g8 : (0 : Int) ≤ (k : Int) := Int.natCast_nonneg _
      have g9 : (k : Int) < (n : Int) := by omega
      have HC := hide hC
      clear hC hve hue hcv hcu hx hlx hy hly
      go_wp2_with fail
      go_quiet ((go_at_call 16; refine Calls.quiet_of (H16.out _)))
      have HC2 : Hid (wr.drewN nq = w.drewN (m + nq)) := (show wr.drewN nq = w.drewN (m + nq) by rw [HC.out, World.drewN_drewN])
      generalize wr.drewN nq = W at *
      go_wp2
      go_roundw
      case rel => exact ⟨k + 1, m + nq, by go_num, by omega, HC2.out⟩
      case measure => simp [intOf]; omega
    · obtain rfl : k = n := by omega
      have HC := hide hC
      clear hC
      go_wp2
      go_ret
      exact ⟨rfl, m, HC.out⟩
end Go.Proofs.Qxb6613793aDoor
