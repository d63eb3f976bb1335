/-
  THE WALKS of the law's own small functions: zzIsXMLSpace (19), zzBytes_.. (8, 16), zzCount (15).
-/
import Derived.Test.Qxb6609203aProg
import Derived.Test.Qxb6609203aPlain2
import Derived.WalkKit
import Derived.Below
set_option linter.unusedVariables false
set_option linter.unusedSimpArgs false
namespace Go.Proofs.Qxb6609203a
open Go.RowKit

set_option maxHeartbeats 400000 in
theorem isSp_any (b : Nat) (w : World) :
    Calls Try.prog 19 #[.int .u8 (b : Int)] w fun e w' => e = .returned (.bool (pSp b)) ∧ w = w' := by
  by_cases h1 : b = 32
  · subst h1
    go_enter Try.func19, Try.ntmps19
    go_wp2
    go_ret
    exact ⟨rfl, rfl⟩
  by_cases h2 : b = 9
  · subst h2
    go_enter Try.func19, Try.ntmps19
    go_wp2
    go_ret
    exact ⟨rfl, rfl⟩
  by_cases h3 : b = 10
  · subst h3
    go_enter Try.func19, Try.ntmps19
    go_wp2
    go_ret
    exact ⟨rfl, rfl⟩
  by_cases h4 : b = 13
  · subst h4
    go_enter Try.func19, Try.ntmps19
    go_wp2
    go_ret
    exact ⟨rfl, rfl⟩
  have e1 : ((b : Int) == 32) = false := beq_eq_false_iff_ne.2 (by omega)
  have e2 : ((b : Int) == 9) = false := beq_eq_false_iff_ne.2 (by omega)
  have e3 : ((b : Int) == 10) = false := beq_eq_false_iff_ne.2 (by omega)
  have e4 : ((b : Int) == 13) = false := beq_eq_false_iff_ne.2 (by omega)
  have hp : pSp b = false := by simp [pSp, h1, h2, h3, h4]
  rw [hp]
  go_enter Try.func19, Try.ntmps19
  go_wp2
  go_ret
  exact ⟨rfl, rfl⟩

set_option maxHeartbeats 400000 in
theorem zzBytes8_any (a0 : ByteArray) (a1 : Int) (a2 : Int) (a3 : ByteArray) (a4 : Int) (a5 : Int) (w : World) (h0 : a0.size ≤ maxLen) (h3 : a3.size ≤ maxLen) :
    Calls Try.prog 8 #[.string a0, .int .i32 a1, .int .i32 a2, .string a3, .int .i32 a4, .int .i32 a5] w fun e w' => (e = .returned (.bool true) ∨ e = .returned (.bool false)) ∧ w = w' := by
  unfold maxLen at h0 h3
  go_enter Try.func8, Try.ntmps8
  go_wp2
  all_goals
    go_ret
    first
      | exact ⟨.inl rfl, rfl⟩
      | exact ⟨.inr rfl, rfl⟩

set_option maxHeartbeats 400000 in
theorem zzBytes16_any (a0 a1 : ByteArray) (a2 a3 : Int) (w : World) (h0 : a0.size ≤ maxLen) (h1 : a1.size ≤ maxLen) :
    Calls Try.prog 16 #[.string a0, .string a1, .int .i32 a2, .int .i32 a3] w fun e w' => (e = .returned (.bool true) ∨ e = .returned (.bool false)) ∧ w = w' := by
  unfold maxLen at h0 h1
  go_enter Try.func16, Try.ntmps16
  go_wp2
  all_goals
    go_ret
    first
      | exact ⟨.inl rfl, rfl⟩
      | exact ⟨.inr rfl, rfl⟩

theorem cnt_take_succ (fs : List ByteArray) (t : ByteArray) (k : Nat) (h : k < fs.length) : cnt (fs.take (k + 1)) t = cnt (fs.take k) t + if (fs[k].toList == t.toList) = true then 1 else 0 := by
  rw [List.take_succ_eq_append_getElem h, cnt_append]
  congr 1
  simp [cnt, List.countP_cons]

theorem ret_int {k : IntKind} {a b : Int} (h : a = b) : Ending.returned (.int k a) = .returned (.int k b) := by rw [h]

set_option maxHeartbeats 400000 in
theorem zzCount_any (v : Value) (B : Nat) (fs : List ByteArray) (t : ByteArray) (w : World) (hown : w.ownsRow B 9 1 v fs.length (fs.map Value.string)) (hlen : fs.length ≤ 100000) :
    Calls Try.prog 15 #[v, .string t] w fun e w' => e = .returned (.int .i64 ((cnt fs t : Nat) : Int)) ∧ w = w' := by
  have hform : (∃ g cap, v = .slice (some ⟨g, 0, none⟩) fs.length cap) ∨ (v = .slice none 0 0 ∧ fs = []) := by
    rcases hown.2 with ⟨h, h0⟩ | ⟨g, cap, _, h, _⟩
    · exact .inr ⟨h, List.length_eq_zero_iff.1 h0⟩
    · exact .inl ⟨g, cap, h⟩
  rcases hform with ⟨g, cap, rfl⟩ | ⟨rfl, rfl⟩
  · go_enter Try.func15, Try.ntmps15
    go_wp2
    go_loop [5, 6] (fun n i => ∃ k : Nat, k ≤ fs.length ∧ i = .int .i64 k ∧ n = .int .i64 ((cnt (fs.take k) t : Nat) : Int)) (fun _ i => fs.length - (intOf i).toNat)
    case atStart => exact ⟨0, Nat.zero_le _, rfl, rfl⟩
    case round =>
      obtain ⟨k, hk, rfl, rfl⟩ := hrel
      have hcl : cnt (fs.take k) t ≤ (fs.take k).length := cnt_le _ _
      have hl : (fs.take k).length ≤ k := List.length_take_le _ _
      by_cases hlt : k < fs.length
      · have hc : w.cell? ⟨g, k, none⟩ = some (.string fs[k]) := (hown.cellAt k (by omega)).trans (by simp [hlt])
        have HS : Hid (cnt (fs.take (k + 1)) t = cnt (fs.take k) t + if (fs[k].toList == t.toList) = true then 1 else 0) := cnt_take_succ fs t k hlt
        cases he : (fs[k].toList == t.toList)
        all_goals
          rw [he] at HS
          go_wp2
          go_round
          case rel => exact ⟨k + 1, by omega, by go_num, by rw [HS.out]; simp⟩
          case measure => simp [intOf]; omega
      · go_wp2
        go_ret
        exact ⟨ret_int (by rw [List.take_of_length_le (by omega)]), rfl⟩
  · go_enter Try.func15, Try.ntmps15
    go_wp2
    refine wp_loop_rounds 1 ?_
    rw [rounds_succ]
    go_wp2
    go_ret
    exact ⟨rfl, rfl⟩
end Go.Proofs.Qxb6609203a
