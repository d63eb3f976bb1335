/-
  THE WALKS of strings.IndexRune (24) at the constant string of the four XML white-space bytes.
-/
import Derived.Test.Qxb6609203aW3
import Derived.WalkMore
import Derived.Deep.LoopGhost
import Derived.Lib.OthersKept
set_option linter.unusedVariables false
set_option linter.unusedSimpArgs false
namespace Go.Proofs.Qxb6609203a
open Go.RowKit

set_option maxRecDepth 1000000 in
set_option maxHeartbeats 400000 in
theorem indexRune_bad (x : Nat) (w : World) (h1 : 55296 ≤ x) (h2 : x ≤ 57343) :
    Calls Try.prog 24 #[.string ⟨#[32, 9, 13, 10]⟩, .int .i32 (x : Int)] w fun e w' => e = .returned (.int .i64 (-1)) ∧ w = w' := by
  have e0 : ((x : Int) == 65533) = false := beq_eq_false_iff_ne.2 (by omega)
  go_enter Try.func24, Try.ntmps24
  go_wp2
  go_ret
  exact ⟨rfl, rfl⟩

theorem dec4 (pos : Nat) (h : pos < 4) : ∃ r : Nat, Utf8.decode ⟨#[32, 9, 13, 10]⟩ pos = (r, 1) ∧ r < 128 := by
  match pos, h with
  | 0, _ => exact ⟨32, by decide, by omega⟩
  | 1, _ => exact ⟨9, by decide, by omega⟩
  | 2, _ => exact ⟨13, by decide, by omega⟩
  | 3, _ => exact ⟨10, by decide, by omega⟩

set_option maxRecDepth 1000000 in
set_option maxHeartbeats 1000000 in
theorem indexRune_err (w : World) :
    Calls Try.prog 24 #[.string ⟨#[32, 9, 13, 10]⟩, .int .i32 65533] w fun e w' => e = .returned (.int .i64 (-1)) ∧ Below w.heap.size w w' := by
  go_enter Try.func24, Try.ntmps24
  go_wp2
  go_loopg [] 4 (fun gf wx => ∃ pos : Nat, wx.heap[w.heap.size]? = some (.stringIter ⟨#[32, 9, 13, 10]⟩ pos) ∧ Below w.heap.size w wx ∧ pos + gf = 4)
  case atStart => exact ⟨0, World.iter_heap w _ 0, (Below.refl _ w).alloc (Nat.le_refl _) _, rfl⟩
  case round =>
    obtain ⟨pos, hit, hbw, hfu⟩ := hrel
    by_cases hps : pos < 4
    · obtain ⟨g', rfl⟩ : ∃ g', gk = g' + 1 := ⟨gk - 1, by omega⟩
      have hnx : ∀ ty, (Instr.next (.pointer (some ⟨w.heap.size, 0, none⟩)) true ty).run Try.prog wr = _ := fun ty => Lib.run_next_any_at wr w.heap.size ⟨#[32, 9, 13, 10]⟩ pos ty hit hps
      obtain ⟨r, hr, hr1⟩ := dec4 pos hps
      rw [hr] at hnx
      have hit2 := Lib.iterAt_heap wr w.heap.size ⟨#[32, 9, 13, 10]⟩ pos (pos + 1) hit
      have hbw2 := Lib.below_iterAt hbw (k := w.heap.size) (Nat.le_refl _) ⟨#[32, 9, 13, 10]⟩ (pos + 1)
      have e0 : ((r : Int) == 65533) = false := beq_eq_false_iff_ne.2 (by omega)
      clear hr
      go_wp2
      go_roundg g'
      case measure => omega
      case rel => exact ⟨pos + 1, hit2, hbw2, by omega⟩
    · have hnx : ∀ ty, (Instr.next (.pointer (some ⟨w.heap.size, 0, none⟩)) true ty).run Try.prog wr = _ := fun ty => Lib.run_next_end_at wr w.heap.size ⟨#[32, 9, 13, 10]⟩ pos ty hit hps
      go_wp2
      go_ret
      exact ⟨rfl, hbw⟩

set_option maxRecDepth 1000000 in
set_option maxHeartbeats 1000000 in
theorem validRune_yes (x : Nat) (w : World) (h2 : x ≤ 1114111) (h3 : x < 55296 ∨ 57343 < x) :
    Calls Try.prog 26 #[.int .i32 (x : Int)] w fun e w' => e = .returned (.bool true) ∧ w = w' := by
  rcases h3 with h3 | h3
  · go_enter Try.func26, Try.ntmps26
    go_wp2
    go_ret
    exact ⟨rfl, rfl⟩
  · go_enter Try.func26, Try.ntmps26
    go_wp2
    go_ret
    exact ⟨rfl, rfl⟩
end Go.Proofs.Qxb6609203a
