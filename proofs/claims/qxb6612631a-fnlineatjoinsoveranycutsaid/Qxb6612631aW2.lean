/-
  THE WALKS of the two laws: FnLineAtStepsOnlyPastNewline (4), FnLineAtJoinsOverAnyCut (3).
-/
import Derived.Test.Qxb6612631aW1
set_option linter.unusedVariables false
set_option linter.unusedSimpArgs false
namespace Go.Proofs.Qxb6612631a
open Go.RowKit

theorem info5 : (Try.prog.info? 5).map (fun i => (i.zero, i.size, i.bytes)) = some (some (.int .u8 0), 1, 1) := by kernel_rfl
theorem info5s : (Try.prog.info? 5).map (·.size) = some 1 := by kernel_rfl

/-- 'zzc := make([]byte, len(data)); copy(zzc, data)'. -/
theorem copied (x : Addr) (len cap : Nat) (zs : List Int) (w : World) (hl : len ≤ cap) (hz : zs.length = cap) (hcell : ∀ i, i < zs.length → w.cell? (x.add i) = some (.int .u8 (zs.getD i 0))) (hb : len ≤ 2000000) :
    ∃ W0 W1, (Instr.makeSlice 22 (.int .i64 len) (.int .i64 len)).run Try.prog w = .ok (.slice (some ⟨w.heap.size, 0, none⟩) len len) W0 ∧
      (∀ ty, (Builtin.copy_ #[22, 22] ty #[.slice (some ⟨w.heap.size, 0, none⟩) len len, .slice (some x) len cap]).run Try.prog W0 = .ok (goInt len) W1) ∧
      Row W1 w.heap.size 0 len (zs.take len) ∧ Below w.heap.size w W1 ∧ w.heap.size < W1.heap.size := by
  obtain ⟨i0, hi, hz0, hz1, hz2⟩ := info_parts info5
  obtain ⟨W0, hmk, hown0, hg0⟩ := run_make_full (P := Try.prog) w w.heap.size 22 5 i0 _ 1 Try.underlying22 hi hz0 hz1 .i64 .i64 len (by rw [hz2]; omega) (by unfold maxLen; omega) (Nat.le_refl _)
  have hb0 : Below w.heap.size w W0 := (Below.refl _ w).grown hg0 (Nat.le_refl _) (fun k hk => by cases hk)
  rcases hown0.2 with ⟨h, _⟩ | ⟨g, cap', cur, h, _, hg, _, _, hcs, _⟩
  · cases h
  · simp only [Value.slice.injEq, Option.some.injEq, Addr.mk.injEq, and_true, true_and] at h
    obtain ⟨rfl, rfl⟩ := h
    obtain ⟨cs, hcsd⟩ : ∃ cs, cs = (zs.take len).map (Value.int .u8) := ⟨_, rfl⟩
    have hcl : cs.length = len := by rw [hcsd]; simp; omega
    have hsrc : ∀ j v, cs[j]? = some v → W0.cell? (x.add j) = some v := by
      intro j v hj
      have hjl : j < len := by have := (List.getElem?_eq_some_iff.1 hj).1; omega
      have hw := hcell j (by omega)
      rw [hb0.cell (World.block_lt_of_cell? w _ hw), hw]
      rw [hcsd, List.getElem?_map, List.getElem?_take_of_lt hjl, List.getElem?_eq_getElem (by omega)] at hj
      simp only [Option.map_some, Option.some.injEq] at hj
      rw [← hj]
      simp [List.getD, List.getElem?_eq_getElem (show j < zs.length by omega)]
    have hcur : cur.size = len := by omega
    have hglt := (Array.getElem?_eq_some_iff.1 hg).1
    have hcd : cur.toList.take 0 ++ cs ++ cur.toList.drop (0 + cs.length) = cs := by
      rw [List.take_zero, List.nil_append, List.drop_of_length_le (by simp; omega), List.append_nil]
    have hrow := fun ty => run_copy_row (P := Try.prog) W0 22 22 ty 5 w.heap.size 0 len len x len cap cur 5 cs Try.underlying22 info5s hg (by rw [hcl]; exact (Nat.min_self len).symm) hsrc (by omega) (by rw [hcsd]; intro v hv; obtain ⟨a, _, rfl⟩ := List.mem_map.1 hv; rfl)
    simp only [hcd] at hrow
    simp only [hcl] at hrow
    refine ⟨W0, W0.setRow w.heap.size cs.toArray, hmk, hrow, ⟨by rw [List.length_take]; omega, fun i hi => ?_⟩, below_setRow hb0 (Nat.le_refl _) _, by simpa [World.setRow] using hglt⟩
    rw [Nat.zero_add, cell_of_row _ w.heap.size i cs.toArray 5 (0, 0) (setRow_heap W0 w.heap.size cur _ 5 _ hg)]
    simp only [List.getElem?_toArray, hcsd, List.getElem?_map]
    rw [List.getElem?_eq_getElem (by rw [List.length_take]; omega)]
    simp [List.getD, hi, List.getElem?_eq_getElem (show i < zs.length by omega)]

/-- What stands behind the laws' opening: a slice of integers that came in. -/
def IsRow8 (w : World) (a : Option Addr) (len cap : Nat) (zs : List Int) : Prop :=
  (a = none ∧ len = 0 ∧ cap = 0 ∧ zs = []) ∨
  ∃ x, a = some x ∧ len ≤ cap ∧ cap ≤ maxLen ∧ zs.length = cap ∧ (∀ i, i < zs.length → w.cell? (x.add i) = some (.int .u8 (zs.getD i 0))) ∧ ∀ n ∈ zs, (Lit.int .u8 n).wf = true

theorem byt_of {zs : List Int} (h : ∀ n ∈ zs, (Lit.int .u8 n).wf = true) : Byt zs := fun x hx => by
  have := h x hx
  have e1 : IntKind.u8.min = 0 := rfl
  have e2 : IntKind.u8.max = 255 := rfl
  simp [Lit.wf, e1, e2] at this
  omega

set_option maxRecDepth 100000 in
set_option maxHeartbeats 1000000 in
theorem law4_early (a : Option Addr) (len cap : Nat) (k : Int) (w : World) (hl : len ≤ maxLen) (hk1 : -9223372036854775808 ≤ k) (hk2 : k ≤ 9223372036854775807) (h : 1048576 < len ∨ len ≤ 1048576 ∧ (k < 0 ∨ k = 9223372036854775807)) :
    Calls Try.prog 4 #[.slice a len cap, .int .i64 k] w fun e w' => e = .returned (.bool true) ∧ Below w.heap.size w w' := by
  have hz := zzBytes8_any a len cap k w hl
  unfold maxLen at hl
  rcases h with h | ⟨h, h2 | h2⟩
  · go_enter Try.func4, Try.ntmps4
    go_wp2_with (go_at_call 8; refine hz.mono ?_; rintro e w' ⟨rfl | rfl, rfl⟩)
    all_goals
      go_ret
      exact ⟨rfl, Below.refl _ _⟩
  · go_enter Try.func4, Try.ntmps4
    go_wp2_with (go_at_call 8; refine hz.mono ?_; rintro e w' ⟨rfl | rfl, rfl⟩)
    all_goals
      go_ret
      exact ⟨rfl, Below.refl _ _⟩
  · subst h2
    go_enter Try.func4, Try.ntmps4
    go_wp2_with (go_at_call 8; refine hz.mono ?_; rintro e w' ⟨rfl | rfl, rfl⟩)
    all_goals
      go_ret
      exact ⟨rfl, Below.refl _ _⟩

set_option maxRecDepth 100000 in
set_option maxHeartbeats 1000000 in
theorem law4_nil (k : Int) (w : World) (hk1 : 0 ≤ k) (hk2 : k < 9223372036854775807) :
    Calls Try.prog 4 #[.slice none 0 0, .int .i64 k] w fun e w' => e = .returned (.bool true) ∧ Below w.heap.size w w' := by
  have hz := zzBytes8_any none 0 0 k w (by unfold maxLen; omega)
  have hne := fun (W : World) => run_neq_slice_nil_any (P := Try.prog) W 22 5 none 0 0 0 0 Try.underlying22
  have e1 : (k == 9223372036854775807) = false := beq_eq_false_iff_ne.2 (by omega)
  go_enter Try.func4, Try.ntmps4
  go_wp2_with (go_at_call 8; refine hz.mono ?_; rintro e w' ⟨rfl | rfl, rfl⟩)
  · refine (zzLineAt_nil 0 w (by omega)).mono ?_
    rintro e w1 ⟨rfl, b1⟩
    go_wp2_with fail
    refine (zzLineAt_nil k w1 (by omega)).mono ?_
    rintro e w2 ⟨rfl, b2⟩
    go_wp2_with fail
    refine (zzLineAt_nil (k + 1) w2 (by omega)).mono ?_
    rintro e w3 ⟨rfl, b3⟩
    go_wp2_with fail
    go_ret
    exact ⟨rfl, (b1.trans (b2.mono b1.size)).trans (b3.mono (Nat.le_trans b1.size b2.size))⟩
  · go_ret
    exact ⟨rfl, Below.refl _ _⟩

theorem nl_step (zs : List Int) (m : Nat) : nl (zs.take (m + 1)) = nl (zs.take m) + if m < zs.length ∧ zs.getD m 0 = 10 then 1 else 0 := by
  by_cases h : m < zs.length
  · rw [nl_take_succ zs m h]
    simp [h]
  · rw [List.take_of_length_le (by omega), List.take_of_length_le (by omega), if_neg (by omega)]
    rfl

set_option maxRecDepth 100000 in
set_option maxHeartbeats 1000000 in
theorem law4_some (x : Addr) (len cap : Nat) (zs : List Int) (k : Int) (w : World) (hl : len ≤ cap) (hz : zs.length = cap) (hcell : ∀ i, i < zs.length → w.cell? (x.add i) = some (.int .u8 (zs.getD i 0))) (hby : Byt zs) (hb : len ≤ 1048576)
    (hk1 : 0 ≤ k) (hk2 : k < 9223372036854775807) :
    Calls Try.prog 4 #[.slice (some x) len cap, .int .i64 k] w fun e w' => e = .returned (.bool true) ∧ Below w.heap.size w w' := by
  have hzz := zzBytes8_any (some x) len cap k w (by unfold maxLen; omega)
  have hne := fun (W : World) => run_neq_slice_nil_any (P := Try.prog) W 22 5 (some x) len cap 0 0 Try.underlying22
  have e1 : (k == 9223372036854775807) = false := beq_eq_false_iff_ne.2 (by omega)
  obtain ⟨W0, W1, hmk, hcp, hR, hB, hlt⟩ := copied x len cap zs w hl hz hcell (by omega)
  obtain ⟨ys, hys⟩ : ∃ ys, ys = zs.take len := ⟨_, rfl⟩
  have hby' : Byt ys := by rw [hys]; exact hby.take len
  rw [← hys] at hR
  clear hys hcell hz hby
  have hyl := hR.1
  have n0 : nl (ys.take (0 : Int).toNat) = 0 := rfl
  have hst := nl_step ys k.toNat
  have hn1 := nl_le (ys.take k.toNat)
  have hn2 := List.length_take_le' k.toNat ys
  have HST : Hid (nl (ys.take (k.toNat + 1)) = nl (ys.take k.toNat) + if k.toNat < ys.length ∧ ys.getD k.toNat 0 = 10 then 1 else 0) := hst
  clear hst
  have HYL : Hid (ys.length = len) := hyl
  have hyl2 : ys.length ≤ len := by omega
  clear hyl
  go_enter Try.func4, Try.ntmps4
  go_wp2_with (go_at_call 8; refine hzz.mono ?_; rintro e w' ⟨rfl | rfl, rfl⟩)
  · refine (zzLineAt_some w.heap.size 0 len len ys 0 W1 hR hby' (Nat.le_refl _) (by omega) (by omega) (by omega) hlt).mono ?_
    rintro e w1 ⟨rfl, b1⟩
    rw [n0]
    have hlt1 : w.heap.size < w1.heap.size := Nat.lt_of_lt_of_le hlt b1.size
    have hR1 := hR.below b1 hlt
    go_wp2_with fail
    refine (zzLineAt_some w.heap.size 0 len len ys k w1 hR1 hby' (Nat.le_refl _) (by omega) (by omega) (by omega) hlt1).mono ?_
    rintro e w2 ⟨rfl, b2⟩
    have hlt2 : w.heap.size < w2.heap.size := Nat.lt_of_lt_of_le hlt1 b2.size
    have hR2 := hR1.below b2 hlt1
    go_wp2_with fail
    refine (zzLineAt_some w.heap.size 0 len len ys (k + 1) w2 hR2 hby' (Nat.le_refl _) (by omega) (by omega) (by omega) hlt2).mono ?_
    rintro e w3 ⟨rfl, b3⟩
    have hR3 := hR2.below b3 hlt2
    have hB3 : Below w.heap.size w w3 := ((hB.trans (b1.mono (by omega))).trans (b2.mono (by omega))).trans (b3.mono (by omega))
    rw [show (k + 1).toNat = k.toNat + 1 by omega, HST.out]
    by_cases hkl : k < (len : Int)
    · have hc := hR3.2 k.toNat (by omega)
      rw [Nat.zero_add] at hc
      obtain ⟨y, hy⟩ : ∃ y, y = ys.getD k.toNat 0 := ⟨_, rfl⟩
      rw [← hy] at hc ⊢
      have hkn : k.toNat < ys.length := by rw [HYL.out]; omega
      clear hy HST hR hR1 hR2 hR3
      by_cases h10 : y = 10
      · subst h10
        rw [if_pos ⟨hkn, rfl⟩]
        go_wp2_with fail
        all_goals
          go_ret
          exact ⟨by simp, hB3⟩
      · rw [if_neg (fun h => h10 h.2)]
        have e10 : (y == 10) = false := beq_eq_false_iff_ne.2 h10
        go_wp2_with fail
        all_goals
          go_ret
          exact ⟨by simp, hB3⟩
    · rw [if_neg (by rw [HYL.out]; omega)]
      clear HST hR hR1 hR2 hR3
      go_wp2_with fail
      all_goals
        go_ret
        exact ⟨by simp, hB3⟩
  · go_ret
    exact ⟨rfl, Below.refl _ _⟩
end Go.Proofs.Qxb6612631a
