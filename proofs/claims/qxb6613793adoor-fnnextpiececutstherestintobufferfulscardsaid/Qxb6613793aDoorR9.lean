/-
  THE WALKS of zzClone (12), zzEq (16), zzEff (27).
-/
import Derived.Test.Qxb6613793aDoorR8
import Derived.Lib.SliceRun
set_option linter.unusedVariables false
set_option linter.unusedSimpArgs false
namespace Go.Proofs.Qxb6613793aDoor
open Go.RowKit

/-- The clone after k rounds. -/
def rowTo (zs : List Int) (k : Nat) : List Value := ((zs.take k) ++ List.replicate (zs.length - k) 0).map (Value.int .u8)
theorem rowTo_zero (zs : List Int) : rowTo zs 0 = List.replicate zs.length (Value.int .u8 0) := by simp [rowTo]
theorem rowTo_all (zs : List Int) : rowTo zs zs.length = zs.map (Value.int .u8) := by simp [rowTo]
theorem rowTo_len (zs : List Int) (k : Nat) (h : k ≤ zs.length) : (rowTo zs k).length = zs.length := by simp [rowTo]; omega
theorem rowTo_set (zs : List Int) (k : Nat) (h : k < zs.length) : (rowTo zs k).set k (.int .u8 (zs.getD k 0)) = rowTo zs (k + 1) := by
  have h1 : zs.length - k = (zs.length - (k + 1)) + 1 := by omega
  have h2 : (zs.take k).length = k := by simp; omega
  unfold rowTo
  rw [← List.map_set, List.set_append_right _ _ (by omega), h2, Nat.sub_self, h1, List.replicate_succ, List.set_cons_zero, List.take_succ_eq_append_getElem h]
  simp only [List.map_append, List.map_cons, List.map_nil, List.append_assoc, List.singleton_append, List.cons_append, List.nil_append, List.getD, List.getElem?_eq_getElem h, Option.getD_some]

set_option maxRecDepth 100000 in
theorem clone_nil (w : World) : Calls Tryd.prog 12 #[.slice none 0 0] w fun e w' => e = .returned (.slice none 0 0) ∧ w = w' := by
  have hq := Lib.run_eql_slice_nil (P := Tryd.prog) w 22 5 none 0 0 0 0 Tryd.underlying22
  go_enter Tryd.func12, Tryd.ntmps12
  go_wp2
  go_ret
  exact ⟨rfl, rfl⟩

set_option maxRecDepth 100000 in
set_option maxHeartbeats 1000000 in
theorem clone_some (x : Addr) (n c : Nat) (zs : List Int) (w : World) (hn : n = zs.length) (hb : n ≤ 2000000) (hcell : ∀ i, i < n → w.cell? (x.add i) = some (.int .u8 (zs.getD i 0))) (hby : Byt zs) :
    Calls Tryd.prog 12 #[.slice (some x) n c] w fun e w' => e = .returned (.slice (some ⟨w.heap.size, 0, none⟩) n n) ∧ w'.ownsRow w.heap.size 5 1 (.slice (some ⟨w.heap.size, 0, none⟩) n n) n (zs.map (Value.int .u8)) ∧ Below w.heap.size w w' := by
  obtain ⟨i0, hi, he⟩ := Option.map_eq_some_iff.1 info5
  obtain ⟨hz1, hz2⟩ := Prod.mk.inj he
  have hz0 : i0.zero = some (.int .u8 0) := by have := info5z; rw [hi] at this; exact this
  obtain ⟨W0, hmk, hown0, hg0⟩ := run_make_full (P := Tryd.prog) w w.heap.size 22 5 i0 _ 1 Tryd.underlying22 hi hz0 hz1 .i64 .i64 n (by rw [hz2]; omega) (by unfold maxLen; omega) (Nat.le_refl _)
  rw [show (Value.int .u8 0).cells = #[Value.int .u8 0] from rfl, toList_madeCells_one, Nat.mul_one] at hown0
  have hb0 : Below w.heap.size w W0 := (Below.refl _ w).grown hg0 (Nat.le_refl _) (fun k hk => by cases hk)
  have hown1 : W0.ownsRow w.heap.size 5 1 (.slice (some ⟨w.heap.size, 0, none⟩) n n) n (rowTo zs 0) := by rw [rowTo_zero, ← hn]; exact hown0
  have hq := Lib.run_eql_slice_nil (P := Tryd.prog) w 22 5 (some x) n c 0 0 Tryd.underlying22
  have HN := hide hn
  clear hown0 hn
  go_enter Tryd.func12, Tryd.ntmps12
  go_wp2
  go_loopw [4] (fun i wr => ∃ k : Nat, i = .int .i64 k ∧ k ≤ n ∧ wr.ownsRow w.heap.size 5 1 (.slice (some ⟨w.heap.size, 0, none⟩) n n) n (rowTo zs k) ∧ Below w.heap.size w wr) (fun i _ => n - (intOf i).toNat)
  case atStart => exact ⟨0, rfl, Nat.zero_le _, hown1, hb0⟩
  case round =>
    obtain ⟨k, rfl, hk, hA, hnx⟩ := hrel
    by_cases hlt : k < n
    · have hc0 : wr.cell? (x.add k) = some (.int .u8 (zs.getD k 0)) := (hnx.cell (World.block_lt_of_cell? w _ (hcell k hlt))).trans (hcell k hlt)
      obtain ⟨o1, ho1⟩ : ∃ o1, (rowTo zs k)[k]? = some o1 := ⟨_, List.getElem?_eq_getElem (by have := hA.1; omega)⟩
      have hcA := (hA.cellAt k (by omega)).trans ho1
      have hfA := hA.frozenAt k
      go_wp2
      go_roundw
      case rel =>
        have s1 := hA.stored k (.int .u8 (zs.getD k 0))
        rw [rowTo_set zs k (by rw [← HN.out]; exact hlt)] at s1
        exact ⟨k + 1, by go_num, by omega, s1.1, hnx.grown s1.2 hnx.size (fun j hj => by cases hj; exact Nat.le_refl _)⟩
      case measure => simp [intOf]; omega
    · obtain rfl : k = n := by omega
      go_wp2
      go_ret
      refine ⟨rfl, ?_, hnx⟩
      have h9 := rowTo_all zs
      rw [← HN.out] at h9
      rw [← h9]; exact hA

set_option maxRecDepth 100000 in
set_option maxHeartbeats 1000000 in
theorem eq_true (g1 o1 c1 g2 o2 c2 n : Nat) (xs : List Int) (w : World) (hn : n = xs.length) (hb : n ≤ 2000000) (h1 : ∀ i, i < n → w.cell? ⟨g1, o1 + i, none⟩ = some (.int .u8 (xs.getD i 0))) (h2 : ∀ i, i < n → w.cell? ⟨g2, o2 + i, none⟩ = some (.int .u8 (xs.getD i 0))) :
    Calls Tryd.prog 16 #[.slice (some ⟨g1, o1, none⟩) n c1, .slice (some ⟨g2, o2, none⟩) n c2] w fun e w' => e = .returned (.bool true) ∧ Chg NoB w w' := by
  clear hn
  go_enter Tryd.func16, Tryd.ntmps16
  go_wp2
  go_loopw [5] (fun i wr => ∃ k : Nat, i = .int .i64 k ∧ k ≤ n ∧ Chg NoB w wr) (fun i _ => n - (intOf i).toNat)
  case atStart => exact ⟨0, rfl, Nat.zero_le _, Chg.refl _ _⟩
  case round =>
    obtain ⟨k, rfl, hk, hC⟩ := hrel
    by_cases hlt : k < n
    · have d1 : wr.cell? ⟨g1, o1 + k, none⟩ = some (.int .u8 (xs.getD k 0)) := (hC.cell (cell_lt (h1 k hlt)) (fun h => h)).trans (h1 k hlt)
      have d2 : wr.cell? ⟨g2, o2 + k, none⟩ = some (.int .u8 (xs.getD k 0)) := (hC.cell (cell_lt (h2 k hlt)) (fun h => h)).trans (h2 k hlt)
      have q0 : decide ((k : Int) < (n : Int)) = true := decide_eq_true (by omega)
      have g8 : (0 : Int) ≤ (k : Int) := Int.natCast_nonneg _
      have g9 : (k : Int) < (n : Int) := by omega
      go_wp2_with fail
      go_quiet (fail)
      have hC2 : Chg NoB w (wr.drewN nq) := hC.drewN nq
      generalize wr.drewN nq = W at *
      go_wp2
      go_roundw
      case rel => exact ⟨k + 1, by go_num, by omega, hC2⟩
      case measure => simp [intOf]; omega
    · obtain rfl : k = n := by omega
      go_wp2
      go_ret
      exact ⟨rfl, hC⟩

/-- zzEq of two equal lines. -/
theorem eq_lines (v1 v2 : Value) (xs : List Int) (w : World) (h1 : Line w v1 xs) (h2 : Line w v2 xs) (hb : xs.length ≤ 2000000) :
    Calls Tryd.prog 16 #[v1, v2] w fun e w' => e = .returned (.bool true) ∧ Chg NoB w w' := by
  obtain ⟨g1, o1, c1, rfl, _, _, k1⟩ := h1
  obtain ⟨g2, o2, c2, rfl, _, _, k2⟩ := h2
  exact eq_true g1 o1 c1 g2 o2 c2 _ xs w rfl hb k1 k2

set_option maxRecDepth 100000 in
theorem eff_all (z : Int) (w : World) : Calls Tryd.prog 27 #[.int .i64 z] w fun e w' => e = .returned (.int .i64 (if z < 16 then 16 else z)) ∧ w = w' := by
  by_cases h : z < 16
  · rw [if_pos h]
    go_enter Tryd.func27, Tryd.ntmps27
    go_wp2
    go_ret
    exact ⟨rfl, rfl⟩
  · rw [if_neg h]
    go_enter Tryd.func27, Tryd.ntmps27
    go_wp2
    go_ret
    exact ⟨rfl, rfl⟩
end Go.Proofs.Qxb6613793aDoor
