/-
  THE WALKS of lineAt (9), ZZlineAt (6), zzB1CountNewlines (7), zzBytes_.. (5, 8).
-/
import Derived.Test.Qxb6612631aProg
import Derived.Test.Qxb6612631aShelf
import Derived.WalkKit
import Derived.WalkSpells
import Derived.WalkLawsBesides
import Derived.Lib.SlBytesConst
import Derived.Below
import Derived.Laws.OwnMore
import Derived.Laws.CopyOwn
set_option linter.unusedVariables false
set_option linter.unusedSimpArgs false
namespace Go.Proofs.Qxb6612631a
open Go.RowKit

/-- How many newlines. -/
def nl (xs : List Int) : Nat := xs.countP (fun x => x == 10)
def Byt (xs : List Int) : Prop := ∀ x ∈ xs, 0 ≤ x ∧ x < 256

theorem nl_le (xs : List Int) : nl xs ≤ xs.length := List.countP_le_length
theorem nl_append (a b : List Int) : nl (a ++ b) = nl a + nl b := List.countP_append

theorem ofNat_ten (n : Nat) (h : n < 256) : (UInt8.ofNat n == 10) = (n == 10) := by
  by_cases e : n = 10
  · subst e; rfl
  · rw [beq_eq_false_iff_ne.2 e, beq_eq_false_iff_ne]
    intro h1
    apply e
    have := congrArg UInt8.toNat h1
    rw [UInt8.toNat_ofNat'] at this
    simp at this
    omega

theorem count_nl : ∀ (xs : List Int), Byt xs → Lib.countByte (Lib.bytesOf xs) 10 = nl xs
  | [], _ => rfl
  | x :: t, h => by
    have ih := count_nl t (fun y hy => h y (by simp [hy]))
    have hx := h x (by simp)
    unfold Lib.countByte Lib.bytesOf nl at *
    rw [List.map_cons, List.count_cons, List.countP_cons, ih]
    congr 1
    have e : (UInt8.ofNat x.toNat == 10) = (x == 10) := by
      rw [ofNat_ten _ (by omega)]
      by_cases e : x = 10
      · subst e; rfl
      · rw [beq_eq_false_iff_ne.2 e, beq_eq_false_iff_ne]; omega
    rw [e]

/-- The slice's cells. -/
def Row (w : World) (g o n : Nat) (zs : List Int) : Prop := zs.length = n ∧ ∀ i, i < n → w.cell? ⟨g, o + i, none⟩ = some (.int .u8 (zs.getD i 0))

theorem Row.below {w w' : World} {g o n : Nat} {zs : List Int} (h : Row w g o n zs) (hb : Below w.heap.size w w') (hg : g < w.heap.size) : Row w' g o n zs :=
  ⟨h.1, fun i hi => (hb.cell (p := ⟨g, o + i, none⟩) hg).trans (h.2 i hi)⟩

theorem Row.take {w : World} {g o n : Nat} {zs : List Int} (h : Row w g o n zs) (m : Nat) (hm : m ≤ n) : Row w g o m (zs.take m) :=
  ⟨by rw [List.length_take, h.1]; omega, fun i hi => by rw [h.2 i (by omega)]; simp [List.getD, List.getElem?_take, hi]⟩

theorem Row.drop {w : World} {g o n : Nat} {zs : List Int} (h : Row w g o n zs) (m : Nat) (hm : m ≤ n) : Row w g (o + m) (n - m) (zs.drop m) :=
  ⟨by rw [List.length_drop, h.1], fun i hi => by rw [show o + m + i = o + (m + i) by omega, h.2 (m + i) (by omega)]; simp [List.getD, List.getElem?_drop]⟩

theorem Byt.take {zs : List Int} (h : Byt zs) (m : Nat) : Byt (zs.take m) := fun x hx => h x (List.mem_of_mem_take hx)
theorem Byt.drop {zs : List Int} (h : Byt zs) (m : Nat) : Byt (zs.drop m) := fun x hx => h x (List.mem_of_mem_drop hx)

set_option maxHeartbeats 1000000 in
theorem lineAt_some (g o n c : Nat) (zs : List Int) (k : Int) (w : World) (hr : Row w g o n zs) (hb : Byt zs) (hnc : n ≤ c) (hc : c ≤ 2000000) (hk : 0 ≤ k) (hk2 : k ≤ 9223372036854775807) (hg : g < w.heap.size) :
    Calls Try.prog 9 #[.slice (some ⟨g, o, none⟩) n c, .int .i64 k] w fun e w' => e = .returned (.int .i64 ((nl (zs.take k.toNat) : Int) + 1)) ∧ Below w.heap.size w w' := by
  have kc := fun (w : World) (C : Array Value) (n c : Nat) => Lib.run_convert_bytes_const (P := Try.prog) w 22 5 C n c Try.underlying22 Try.underlying5
  have hm : (min k (n : Int)).toNat ≤ n := by omega
  have hbw : Below w.heap.size w (w.alloc (.cells #[.int .u8 10] 5 (1, 2))) := (Below.refl _ w).alloc (Nat.le_refl _) _
  have hR := (hr.below hbw hg).take _ hm
  have hB := hb.take (min k (n : Int)).toNat
  have hC := Try.bytes_Count_one g o (min k (n : Int)).toNat c w.heap.size 0 1 (zs.take (min k (n : Int)).toNat) 10 (w.alloc (.cells #[.int .u8 10] 5 (1, 2))) hR.1 hR.2 (by rw [World.cell?_alloc_mark]; rfl)
  have e10 : (10 : Int).toNat.toUInt8 = 10 := rfl
  rw [e10, count_nl _ hB] at hC
  have hz := hr.1
  have et : zs.take (min k (n : Int)).toNat = zs.take k.toNat := by
    by_cases hlt : k ≤ (n : Int)
    · congr 1; omega
    · rw [List.take_of_length_le (by omega), List.take_of_length_le (by omega)]
  rw [et] at hC
  have hnl := nl_le (zs.take k.toNat)
  have hnl2 : nl (zs.take k.toNat) ≤ n := by
    have := List.length_take_le' k.toNat zs
    omega
  clear et hB hR hnl e10 hb
  go_enter Try.func9, Try.ntmps9
  go_wp2_with fail
  refine hC.mono ?_
  rintro e w' ⟨rfl, rfl⟩
  go_wp2_with fail
  go_ret
  exact ⟨rfl, hbw⟩

set_option maxHeartbeats 1000000 in
theorem lineAt_nil (k : Int) (w : World) (hk : 0 ≤ k) :
    Calls Try.prog 9 #[.slice none 0 0, .int .i64 k] w fun e w' => e = .returned (.int .i64 1) ∧ Below w.heap.size w w' := by
  have kc := fun (w : World) (C : Array Value) (n c : Nat) => Lib.run_convert_bytes_const (P := Try.prog) w 22 5 C n c Try.underlying22 Try.underlying5
  have hbw : Below w.heap.size w (w.alloc (.cells #[.int .u8 10] 5 (1, 2))) := (Below.refl _ w).alloc (Nat.le_refl _) _
  have hC := Try.bytes_Count_one_nil w.heap.size 0 1 10 (w.alloc (.cells #[.int .u8 10] 5 (1, 2))) (by rw [World.cell?_alloc_mark]; rfl)
  have hmin : min k 0 = 0 := by omega
  go_enter Try.func9, Try.ntmps9
  go_wp2_with fail
  refine hC.mono ?_
  rintro e w' ⟨rfl, rfl⟩
  go_wp2_with fail
  go_ret
  exact ⟨rfl, hbw⟩

set_option maxHeartbeats 1000000 in
theorem zzLineAt_some (g o n c : Nat) (zs : List Int) (k : Int) (w : World) (hr : Row w g o n zs) (hb : Byt zs) (hnc : n ≤ c) (hc : c ≤ 2000000) (hk : 0 ≤ k) (hk2 : k ≤ 9223372036854775807) (hg : g < w.heap.size) :
    Calls Try.prog 6 #[.slice (some ⟨g, o, none⟩) n c, .int .i64 k] w fun e w' => e = .returned (.int .i64 ((nl (zs.take k.toNat) : Int) + 1)) ∧ Below w.heap.size w w' := by
  have hL := lineAt_some g o n c zs k w hr hb hnc hc hk hk2 hg
  go_enter Try.func6, Try.ntmps6
  go_wp2_with fail
  refine hL.mono ?_
  rintro e w' ⟨rfl, hb⟩
  go_wp2_with fail
  go_ret
  exact ⟨rfl, hb⟩

set_option maxHeartbeats 1000000 in
theorem zzLineAt_nil (k : Int) (w : World) (hk : 0 ≤ k) :
    Calls Try.prog 6 #[.slice none 0 0, .int .i64 k] w fun e w' => e = .returned (.int .i64 1) ∧ Below w.heap.size w w' := by
  have hL := lineAt_nil k w hk
  go_enter Try.func6, Try.ntmps6
  go_wp2_with fail
  refine hL.mono ?_
  rintro e w' ⟨rfl, hb⟩
  go_wp2_with fail
  go_ret
  exact ⟨rfl, hb⟩

set_option maxHeartbeats 1000000 in
theorem zzBytes8_any (a : Option Addr) (len cap : Nat) (k : Int) (w : World) (h : len ≤ maxLen) :
    Calls Try.prog 8 #[.slice a len cap, .int .i64 k] w fun e w' => (e = .returned (.bool true) ∨ e = .returned (.bool false)) ∧ w = w' := by
  unfold maxLen at h
  go_enter Try.func8, Try.ntmps8
  go_wp2
  all_goals
    go_ret
    first
      | exact ⟨.inl rfl, rfl⟩
      | exact ⟨.inr rfl, rfl⟩

set_option maxHeartbeats 1000000 in
theorem zzBytes5_any (a : Option Addr) (len cap : Nat) (j k : Int) (w : World) (h : len ≤ maxLen) :
    Calls Try.prog 5 #[.slice a len cap, .int .i64 j, .int .i64 k] w fun e w' => (e = .returned (.bool true) ∨ e = .returned (.bool false)) ∧ w = w' := by
  unfold maxLen at h
  go_enter Try.func5, Try.ntmps5
  go_wp2
  all_goals
    go_ret
    first
      | exact ⟨.inl rfl, rfl⟩
      | exact ⟨.inr rfl, rfl⟩

theorem ret_int {k : IntKind} {a b : Int} (h : a = b) : Ending.returned (.int k a) = .returned (.int k b) := by rw [h]

theorem nl_take_succ (zs : List Int) (k : Nat) (h : k < zs.length) : nl (zs.take (k + 1)) = nl (zs.take k) + if (zs.getD k 0 == 10) = true then 1 else 0 := by
  rw [List.take_succ_eq_append_getElem h, nl_append]
  congr 1
  simp [nl, List.countP_cons, List.getD, h]

set_option maxHeartbeats 1000000 in
theorem countNewlines_some (g o n c : Nat) (zs : List Int) (w : World) (hr : Row w g o n zs) (hnc : n ≤ c) (hc : c ≤ 2000000) :
    Calls Try.prog 7 #[.slice (some ⟨g, o, none⟩) n c] w fun e w' => e = .returned (.int .i64 (nl zs : Int)) ∧ w = w' := by
  have hz := hr.1
  go_enter Try.func7, Try.ntmps7
  go_wp2
  go_loop [3, 4] (fun s i => ∃ k : Nat, k ≤ n ∧ i = .int .i64 k ∧ s = .int .i64 (nl (zs.take k) : Int)) (fun _ i => n - (intOf i).toNat)
  case atStart => exact ⟨0, Nat.zero_le _, rfl, rfl⟩
  case round =>
    obtain ⟨k, hk, rfl, rfl⟩ := hrel
    have hcl := nl_le (zs.take k)
    have hl : (zs.take k).length ≤ k := List.length_take_le _ _
    by_cases hlt : k < n
    · have hc := hr.2 k hlt
      have HS : Hid (nl (zs.take (k + 1)) = nl (zs.take k) + if (zs.getD k 0 == 10) = true then 1 else 0) := nl_take_succ zs k (by omega)
      obtain ⟨x, hx⟩ : ∃ x, x = zs.getD k 0 := ⟨_, rfl⟩
      rw [← hx] at HS hc
      clear hx hz
      cases he : (x == 10)
      all_goals
        rw [he] at HS
        go_wp2
        go_round
        case rel => exact ⟨k + 1, by omega, by go_num, by rw [HS.out]; simp⟩
        case measure => simp [intOf]; omega
    · clear hz
      go_wp2
      go_ret
      exact ⟨ret_int (by rw [List.take_of_length_le (by have := hr.1; omega)]), rfl⟩

set_option maxHeartbeats 1000000 in
theorem countNewlines_nil (w : World) :
    Calls Try.prog 7 #[.slice none 0 0] w fun e w' => e = .returned (.int .i64 0) ∧ w = w' := by
  go_enter Try.func7, Try.ntmps7
  go_wp2
  refine wp_loop_rounds 1 ?_
  rw [rounds_succ]
  go_wp2
  go_ret
  exact ⟨rfl, rfl⟩
end Go.Proofs.Qxb6612631a
