/-
  THE WALK of the law FnLineAtJoinsOverAnyCut (3).
-/
import Derived.Test.Qxb6612631aW2
set_option linter.unusedVariables false
set_option linter.unusedSimpArgs false
namespace Go.Proofs.Qxb6612631a
open Go.RowKit

set_option maxRecDepth 100000 in
set_option maxHeartbeats 1000000 in
theorem law3_early (a : Option Addr) (len cap : Nat) (j k : Int) (w : World) (hl : len ≤ maxLen) (h : 1048576 < len ∨ len ≤ 1048576 ∧ (j < 0 ∨ 0 ≤ j ∧ ((len : Int) < j ∨ j ≤ (len : Int) ∧ k < 0))) :
    Calls Try.prog 3 #[.slice a len cap, .int .i64 j, .int .i64 k] w fun e w' => e = .returned (.bool true) ∧ Below w.heap.size w w' := by
  have hz := zzBytes5_any a len cap j k w hl
  unfold maxLen at hl
  rcases h with h | ⟨h, h2 | ⟨h2, h3 | ⟨h3, h4⟩⟩⟩
  all_goals
    go_enter Try.func3, Try.ntmps3
    go_wp2_with (go_at_call 5; refine hz.mono ?_; rintro e w' ⟨rfl | rfl, rfl⟩)
    all_goals
      go_ret
      exact ⟨rfl, Below.refl _ _⟩

set_option maxRecDepth 100000 in
set_option maxHeartbeats 1000000 in
theorem law3_nil (k : Int) (w : World) (hk1 : 0 ≤ k) (hk2 : k ≤ 9223372036854775807) :
    Calls Try.prog 3 #[.slice none 0 0, .int .i64 0, .int .i64 k] w fun e w' => e = .returned (.bool true) ∧ Below w.heap.size w w' := by
  have hz := zzBytes5_any none 0 0 0 k w (by unfold maxLen; omega)
  have hne := fun (W : World) => run_neq_slice_nil_any (P := Try.prog) W 22 5 none 0 0 0 0 Try.underlying22
  go_enter Try.func3, Try.ntmps3
  go_wp2_with (go_at_call 5; refine hz.mono ?_; rintro e w' ⟨rfl | rfl, rfl⟩)
  · refine (zzLineAt_nil 0 w (by omega)).mono ?_
    rintro e w1 ⟨rfl, b1⟩
    go_wp2_with fail
    refine (countNewlines_nil w1).mono ?_
    rintro e w' ⟨rfl, rfl⟩
    go_wp2_with fail
    refine (zzLineAt_nil k w1 (by omega)).mono ?_
    rintro e w2 ⟨rfl, b2⟩
    go_wp2_with fail
    refine (zzLineAt_nil k w2 (by omega)).mono ?_
    rintro e w3 ⟨rfl, b3⟩
    go_wp2_with fail
    go_ret
    exact ⟨rfl, (b1.trans (b2.mono b1.size)).trans (b3.mono (Nat.le_trans b1.size b2.size))⟩
  · go_ret
    exact ⟨rfl, Below.refl _ _⟩

theorem ret_bool {b : Bool} (h : b = true) : Ending.returned (.bool b) = .returned (.bool true) := by rw [h]

theorem nl_cut (ys : List Int) (c m : Nat) : nl (ys.take (c + m)) = nl (ys.take c) + nl ((ys.drop c).take m) := by
  rw [List.take_add, nl_append]

set_option maxRecDepth 100000 in
set_option maxHeartbeats 2000000 in
theorem law3_some (x : Addr) (len cap : Nat) (zs : List Int) (c : Nat) (k : Int) (w : World) (hl : len ≤ cap) (hz : zs.length = cap) (hcell : ∀ i, i < zs.length → w.cell? (x.add i) = some (.int .u8 (zs.getD i 0))) (hby : Byt zs) (hb : len ≤ 1048576)
    (hc : c ≤ len) (hk1 : 0 ≤ k) (hk2 : k ≤ 9223372036854775807) :
    Calls Try.prog 3 #[.slice (some x) len cap, .int .i64 c, .int .i64 k] w fun e w' => e = .returned (.bool true) ∧ Below w.heap.size w w' := by
  have hzz := zzBytes5_any (some x) len cap c k w (by unfold maxLen; omega)
  have hne := fun (W : World) => run_neq_slice_nil_any (P := Try.prog) W 22 5 (some x) len cap 0 0 Try.underlying22
  obtain ⟨W0, W1, hmk, hcp, hR, hB, hlt⟩ := copied x len cap zs w hl hz hcell (by omega)
  obtain ⟨ys, hys⟩ : ∃ ys, ys = zs.take len := ⟨_, rfl⟩
  have hby' : Byt ys := by rw [hys]; exact hby.take len
  rw [← hys] at hR
  clear hys hcell hz hby
  have hyl := hR.1
  have HYL : Hid (ys.length = len) := hyl
  have q1 := nl_le (ys.take c)
  have q2 := List.length_take_le c ys
  have q3 := nl_le (ys.take k.toNat)
  have q4 := List.length_take_le' k.toNat ys
  have hyl2 : ys.length ≤ len := by omega
  have tc : (ys.take c).take ((c : Int)).toNat = ys.take c := by rw [Int.toNat_natCast, List.take_take, Nat.min_self]
  have TC : Hid ((ys.take c).take ((c : Int)).toNat = ys.take c) := tc
  clear hyl tc
  have hH := hR.take c hc
  have bH := hby'.take c
  by_cases hcl : c < len
  · have hT := hR.drop c hc
    rw [Nat.zero_add] at hT
    have bT := hby'.drop c
    go_enter Try.func3, Try.ntmps3
    go_wp2_with (go_at_call 5; refine hzz.mono ?_; rintro e w' ⟨rfl | rfl, rfl⟩)
    · refine (zzLineAt_some w.heap.size 0 c len (ys.take c) c W1 hH bH hc (by omega) (by omega) (by omega) hlt).mono ?_
      rintro e w1 ⟨rfl, b1⟩
      rw [TC.out]
      have hlt1 : w.heap.size < w1.heap.size := Nat.lt_of_lt_of_le hlt b1.size
      go_wp2_with fail
      refine (countNewlines_some w.heap.size 0 c len (ys.take c) w1 (hH.below b1 hlt) hc (by omega)).mono ?_
      rintro e w' ⟨rfl, rfl⟩
      go_wp2_with fail
      refine (zzLineAt_some w.heap.size 0 len len ys k w1 (hR.below b1 hlt) hby' (Nat.le_refl _) (by omega) (by omega) (by omega) hlt1).mono ?_
      rintro e w2 ⟨rfl, b2⟩
      have hlt2 : w.heap.size < w2.heap.size := Nat.lt_of_lt_of_le hlt1 b2.size
      have hB2 : Below w.heap.size w w2 := (hB.trans (b1.mono (by omega))).trans (b2.mono (by omega))
      by_cases hkc : k < (c : Int)
      · have HL := zzLineAt_some w.heap.size 0 c len (ys.take c) k w2 ((hH.below b1 hlt).below b2 hlt1) bH hc (by omega) hk1 hk2 hlt2
        rw [show (ys.take c).take k.toNat = ys.take k.toNat by rw [List.take_take, Nat.min_eq_left (by omega)]] at HL
        clear hR hH TC HYL hT
        go_wp2_with fail
        refine HL.mono ?_
        rintro e w3 ⟨rfl, b3⟩
        go_wp2_with fail
        go_ret
        exact ⟨by simp, hB2.trans (b3.mono (by omega))⟩
      · have HL := zzLineAt_some w.heap.size c (len - c) (len - c) (ys.drop c) (k - c) w2 ((hT.below b1 hlt).below b2 hlt1) bT (Nat.le_refl _) (by omega) (by omega) (by omega) hlt2
        have hs := nl_cut ys c (k - (c : Int)).toNat
        rw [show c + (k - (c : Int)).toNat = k.toNat by omega] at hs
        have q5 := nl_le ((ys.drop c).take (k - (c : Int)).toNat)
        have q6 : nl ((ys.drop c).take (k - (c : Int)).toNat) ≤ 2000000 := by omega
        obtain ⟨N, hN⟩ : ∃ N, N = nl ((ys.drop c).take (k - (c : Int)).toNat) := ⟨_, rfl⟩
        rw [← hN] at HL hs q6
        have HS : Hid (nl (ys.take k.toNat) = nl (ys.take c) + N) := hs
        clear hR hH TC HYL hT hs q5 hN
        go_wp2_with fail
        refine HL.mono ?_
        rintro e w3 ⟨rfl, b3⟩
        rw [HS.out]
        go_wp2_with fail
        go_ret
        refine ⟨?_, hB2.trans (b3.mono (by omega))⟩
        exact ret_bool (by rw [beq_iff_eq]; omega)
    · go_ret
      exact ⟨rfl, Below.refl _ _⟩
  · obtain rfl : c = len := by omega
    go_enter Try.func3, Try.ntmps3
    go_wp2_with (go_at_call 5; refine hzz.mono ?_; rintro e w' ⟨rfl | rfl, rfl⟩)
    · refine (zzLineAt_some w.heap.size 0 c c (ys.take c) c W1 hH bH hc (by omega) (by omega) (by omega) hlt).mono ?_
      rintro e w1 ⟨rfl, b1⟩
      rw [TC.out]
      have hlt1 : w.heap.size < w1.heap.size := Nat.lt_of_lt_of_le hlt b1.size
      go_wp2_with fail
      refine (countNewlines_some w.heap.size 0 c c (ys.take c) w1 (hH.below b1 hlt) hc (by omega)).mono ?_
      rintro e w' ⟨rfl, rfl⟩
      go_wp2_with fail
      refine (zzLineAt_some w.heap.size 0 c c ys k w1 (hR.below b1 hlt) hby' (Nat.le_refl _) (by omega) (by omega) (by omega) hlt1).mono ?_
      rintro e w2 ⟨rfl, b2⟩
      have hlt2 : w.heap.size < w2.heap.size := Nat.lt_of_lt_of_le hlt1 b2.size
      have hB2 : Below w.heap.size w w2 := (hB.trans (b1.mono (by omega))).trans (b2.mono (by omega))
      by_cases hkc : k < (c : Int)
      · have HL := zzLineAt_some w.heap.size 0 c c (ys.take c) k w2 ((hH.below b1 hlt).below b2 hlt1) bH hc (by omega) hk1 hk2 hlt2
        rw [show (ys.take c).take k.toNat = ys.take k.toNat by rw [List.take_take, Nat.min_eq_left (by omega)]] at HL
        clear hR hH TC HYL 
        go_wp2_with fail
        refine HL.mono ?_
        rintro e w3 ⟨rfl, b3⟩
        go_wp2_with fail
        go_ret
        exact ⟨by simp, hB2.trans (b3.mono (by omega))⟩
      · have HL := zzLineAt_some w.heap.size 0 0 0 [] (k - c) w2 ⟨rfl, fun i hi => by omega⟩ (fun x hx => by cases hx) (Nat.le_refl _) (by omega) (by omega) (by omega) hlt2
        have hs : ys.take k.toNat = ys.take c := by rw [List.take_of_length_le (by rw [HYL.out]; omega), List.take_of_length_le (by rw [HYL.out]; omega)]
        have HS : Hid (ys.take k.toNat = ys.take c) := hs
        rw [show ([] : List Int).take (k - (c : Int)).toNat = [] by simp, show nl [] = 0 from rfl] at HL
        clear hR hH TC HYL hs
        go_wp2_with fail
        refine HL.mono ?_
        rintro e w3 ⟨rfl, b3⟩
        rw [HS.out]
        go_wp2_with fail
        go_ret
        refine ⟨?_, hB2.trans (b3.mono (by omega))⟩
        rfl
    · go_ret
      exact ⟨rfl, Below.refl _ _⟩
end Go.Proofs.Qxb6612631a
