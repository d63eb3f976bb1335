/-
  THE WALK of FnNextJoinOfTwoStreams (6).
-/
import Derived.Test.Qxb6613793aDoorR19
set_option linter.unusedVariables false
set_option linter.unusedSimpArgs false
namespace Go.Proofs.Qxb6613793aDoor
open Go.RowKit

theorem recs_line (l : List Int) (k : Nat) : ((recsR l).getD k []).length ≤ l.length := by
  have h1 := recs_cuts l l.length 0 (Nat.le_refl _)
  rw [List.drop_zero] at h1
  rw [← h1]
  unfold linesAt
  rcases Nat.lt_or_ge k (cuts l 0).length with h | h
  · simp [List.getD, List.getElem?_map, List.getElem?_eq_getElem h]
    omega
  · simp [List.getD, List.getElem?_map, List.getElem?_eq_none h]
theorem below_drewN {B : Nat} {w w' : World} (h : Below B w w') (n : Nat) : Below B w (w'.drewN n) := ⟨h.os, h.tape, h.output, h.size, h.block⟩

set_option maxRecDepth 100000 in
theorem law6_early (a0 : Option Addr) (n0 c0 : Nat) (a1 : Option Addr) (n1 c1 : Nat) (z : Int) (w : World) (hn0 : n0 ≤ maxLen) (hn1 : n1 ≤ maxLen) (h : 524288 < n0 ∨ 524288 < n1 ∨ 65536 < z) :
    Calls Tryd.prog 6 #[.slice a0 n0 c0, .slice a1 n1 c1, .int .i64 z] w fun e w' => e = .returned (.bool true) ∧ Below w.heap.size w w' := by
  have hm0 : n0 ≤ 9223372036854775807 := by simp only [maxLen] at hn0; omega
  have hm1 : n1 ≤ 9223372036854775807 := by simp only [maxLen] at hn1; omega
  clear hn0 hn1
  by_cases e1 : 1048576 < n0
  · clear h
    go_enter Tryd.func6, Tryd.ntmps6
    go_wp2_with (go_at_call 25; go_in)
    go_ret
    exact ⟨rfl, Below.refl _ _⟩
  by_cases e2 : 1048576 < n1
  · clear h
    go_enter Tryd.func6, Tryd.ntmps6
    go_wp2_with (go_at_call 25; go_in)
    go_ret
    exact ⟨rfl, Below.refl _ _⟩
  by_cases e3 : 1048576 < n0 + n1
  · clear h
    go_enter Tryd.func6, Tryd.ntmps6
    go_wp2_with (go_at_call 25; go_in)
    go_ret
    exact ⟨rfl, Below.refl _ _⟩
  by_cases e4 : 524288 < n0
  · clear h
    go_enter Tryd.func6, Tryd.ntmps6
    go_wp2_with (go_at_call 25; go_in)
    go_ret
    exact ⟨rfl, Below.refl _ _⟩
  by_cases e5 : 524288 < n1
  · clear h
    go_enter Tryd.func6, Tryd.ntmps6
    go_wp2_with (go_at_call 25; go_in)
    go_ret
    exact ⟨rfl, Below.refl _ _⟩
  have e6 : 65536 < z := by omega
  clear h
  go_enter Tryd.func6, Tryd.ntmps6
  go_wp2_with (go_at_call 25; go_in)
  go_ret
  exact ⟨rfl, Below.refl _ _⟩

theorem recs_byt (l : List Int) (h : Byt l) (k : Nat) : Byt ((recsR l).getD k []) := by
  have h1 := recs_cuts l l.length 0 (Nat.le_refl _)
  rw [List.drop_zero] at h1
  rw [← h1]
  unfold linesAt
  rcases Nat.lt_or_ge k (cuts l 0).length with h2 | h2
  · simp only [List.getD, List.getElem?_map, List.getElem?_eq_getElem h2, Option.map_some, Option.getD_some]
    exact h.sub _ _
  · simp only [List.getD, List.getElem?_map, List.getElem?_eq_none h2, Option.map_none, Option.getD_none]
    exact fun x hx => by cases hx

end Go.Proofs.Qxb6613793aDoor
