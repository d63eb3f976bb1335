/-
  THE PLAIN LAWS of counts and of the glue.
-/
import Derived.Test.Qxb6613793aDoorP6
set_option linter.unusedVariables false
set_option linter.unusedSimpArgs false
namespace Go.Proofs.Qxb6613793aDoor

theorem openEnd_cons (x : Int) (xs : List Int) (h : xs ≠ []) : openEnd (x :: xs) = openEnd xs := by
  cases xs with
  | nil => exact absurd rfl h
  | cons y ys => rfl

theorem cntR_count : ∀ l : List Int, cntR l = l.count 10 + (if openEnd l then 1 else 0)
  | [] => rfl
  | [x] => by
    by_cases h : x = 10
    · subst h; rfl
    · simp [cntR, openEnd, h, List.count_cons]
  | x :: y :: xs => by
    have ih := cntR_count (y :: xs)
    rw [cntR, ih, openEnd, List.count_cons (a := 10) (b := x)]
    by_cases h : x = 10
    · subst h; simp; omega
    · simp [h]

theorem openEnd_last : ∀ l : List Int, l ≠ [] → openEnd l = (l.getD (l.length - 1) 0 != 10)
  | [], h => absurd rfl h
  | [x], _ => rfl
  | x :: y :: xs, _ => by
    rw [openEnd, openEnd_last (y :: xs) (by simp)]
    simp

theorem count_step (l : List Int) (k : Nat) (h : k < l.length) : (l.take (k + 1)).count 10 = (l.take k).count 10 + (if l.getD k 0 = 10 then 1 else 0) := by
  rw [List.take_succ_eq_append_getElem h, List.count_append]
  have : l.getD k 0 = l[k] := by simp [List.getD, List.getElem?_eq_getElem h]
  rw [this, List.count_cons, List.count_nil]
  by_cases h2 : l[k] = 10 <;> simp [h2]

/-- The glue at its place. -/
theorem glued_at : ∀ (rs : List (List Int)) (x : List Int) (g : List Int) (gs : List (List Int)), glued (rs ++ [x]) (g :: gs) = rs ++ (x ++ g) :: gs
  | [], x, g, gs => rfl
  | [r], x, g, gs => rfl
  | r :: s :: rs, x, g, gs => by
    have ih := glued_at (s :: rs) x g gs
    rw [List.cons_append, List.cons_append, glued, ← List.cons_append, ih]
    rfl
end Go.Proofs.Qxb6613793aDoor
