/-
  THE PLAIN LAWS of records: by recursion over the list; by places ('cuts'); of two streams joined.
-/
import Derived.Test.Qxb6613793aDoorR11
set_option linter.unusedVariables false
set_option linter.unusedSimpArgs false
namespace Go.Proofs.Qxb6613793aDoor

/-- x ahead of the first record. -/
def front (x : Int) : List (List Int) → List (List Int)
  | [] => [[x]]
  | r :: rs => (x :: r) :: rs
/-- The records of a stream. -/
def recsR : List Int → List (List Int)
  | [] => []
  | x :: xs => if x = 10 then [] :: recsR xs else front x (recsR xs)
/-- .. as many as the LFs, and one more where it ends without one. -/
def cntR : List Int → Nat
  | [] => 0
  | [x] => 1
  | x :: y :: xs => (if x = 10 then 1 else 0) + cntR (y :: xs)

theorem recsR_ne (xs : List Int) (h : xs ≠ []) : recsR xs ≠ [] := by
  cases xs with
  | nil => exact absurd rfl h
  | cons x xs =>
    unfold recsR
    split
    · exact fun h => by cases h
    · cases recsR xs <;> exact fun h => by cases h

theorem recsR_len : ∀ xs : List Int, (recsR xs).length = cntR xs
  | [] => rfl
  | [x] => by
    unfold recsR cntR recsR
    split <;> rfl
  | x :: y :: xs => by
    have ih := recsR_len (y :: xs)
    have hne := recsR_ne (y :: xs) (by simp)
    rw [recsR, cntR]
    split
    · rw [List.length_cons, ih]; omega
    · cases hq : recsR (y :: xs) with
      | nil => exact absurd hq hne
      | cons r rs =>
        rw [hq] at ih
        simp only [front, List.length_cons] at ih ⊢
        omega

/-- The lines at their places. -/
def linesAt (l : List Int) (cs : List (Nat × Nat × Nat)) : List (List Int) := cs.map fun t => (l.drop t.1).take (t.2.1 - t.1)

theorem recsR_split : ∀ (xs : List Int), xs ≠ [] → recsR xs = xs.take (xs.idxOf 10) :: recsR (xs.drop (min (xs.idxOf 10 + 1) xs.length))
  | [], h => absurd rfl h
  | x :: xs, _ => by
    rw [recsR, List.idxOf_cons]
    by_cases hc : x = 10
    · subst hc
      simp
    · have hb : (x == 10) = false := by simp [hc]
      simp only [if_neg hc, hb, cond_false]
      cases hx : xs with
      | nil => simp [recsR, front]
      | cons y ys =>
        have ih := recsR_split (y :: ys) (by simp)
        rw [ih, front]
        have h1 : (y :: ys).idxOf 10 ≤ (y :: ys).length := List.idxOf_le_length
        have e : min ((y :: ys).idxOf 10 + 1 + 1) (x :: y :: ys).length = min ((y :: ys).idxOf 10 + 1) (y :: ys).length + 1 := by
          have : (x :: y :: ys).length = (y :: ys).length + 1 := rfl
          omega
        rw [e, List.drop_succ_cons]
        rfl

theorem recs_cuts (l : List Int) : ∀ (m pos : Nat), l.length - pos ≤ m → linesAt l (cuts l pos) = recsR (l.drop pos)
  | 0, pos, h => by rw [cuts_nil l pos (by omega), List.drop_of_length_le (by omega)]; rfl
  | m + 1, pos, h => by
    rcases Nat.lt_or_ge pos l.length with h1 | h1
    · have h2 := nx_gt l pos h1
      have ih := recs_cuts l m (nx l pos) (by omega)
      have hne : l.drop pos ≠ [] := fun e => by have := congrArg List.length e; simp at this; omega
      rw [cuts_cons l pos h1, recsR_split _ hne, List.drop_drop]
      unfold linesAt at ih ⊢
      rw [List.map_cons, ih]
      congr 1
      rw [show pos + (l.drop pos).idxOf 10 - pos = (l.drop pos).idxOf 10 by omega]
    · rw [cuts_nil l pos h1, List.drop_of_length_le h1]; rfl

/-- Does xs end without an LF (and is it not empty)? -/
def openEnd : List Int → Bool
  | [] => false
  | [x] => x != 10
  | _ :: y :: xs => openEnd (y :: xs)

/-- Two lists of records, the last of the first and the first of the second made one. -/
def glued : List (List Int) → List (List Int) → List (List Int)
  | [], gs => gs
  | [r], [] => [r]
  | [r], g :: gs => (r ++ g) :: gs
  | r :: s :: rs, gs => r :: glued (s :: rs) gs

theorem front_glued (x : Int) (rs gs : List (List Int)) (h : rs ≠ []) : front x (glued rs gs) = glued (front x rs) gs := by
  match rs, gs, h with
  | [r], [], _ => rfl
  | [r], g :: gs, _ => rfl
  | r :: s :: rs, gs, _ => rfl

theorem recs_open : ∀ (a b : List Int), openEnd a = true → recsR (a ++ b) = glued (recsR a) (recsR b)
  | [], b, h => by cases h
  | [x], b, h => by
    have hx : x ≠ 10 := by simpa [openEnd] using h
    rw [List.singleton_append, recsR, if_neg hx]
    cases hq : recsR b with
    | nil => simp [recsR, hx, front, glued]
    | cons r rs => simp [recsR, hx, front, glued]
  | x :: y :: xs, b, h => by
    have ih := recs_open (y :: xs) b h
    have hne := recsR_ne (y :: xs) (by simp)
    rw [List.cons_append, recsR, ih]
    conv => rhs; rw [recsR]
    by_cases hx : x = 10
    · rw [if_pos hx, if_pos hx]
      cases hq : recsR (y :: xs) with
      | nil => exact absurd hq hne
      | cons r rs => rfl
    · rw [if_neg hx, if_neg hx, front_glued x _ _ hne]

theorem front_app (x : Int) (rs gs : List (List Int)) (h : rs ≠ []) : front x (rs ++ gs) = front x rs ++ gs := by
  cases rs with
  | nil => exact absurd rfl h
  | cons r rs => rfl

theorem recs_shut : ∀ (a b : List Int), openEnd a = false → recsR (a ++ b) = recsR a ++ recsR b
  | [], b, h => rfl
  | [x], b, h => by
    have hx : x = 10 := by simpa [openEnd] using h
    subst hx
    simp [recsR]
  | x :: y :: xs, b, h => by
    have ih := recs_shut (y :: xs) b h
    have hne := recsR_ne (y :: xs) (by simp)
    rw [List.cons_append, recsR, ih]
    conv => rhs; rw [recsR]
    by_cases hx : x = 10
    · rw [if_pos hx, if_pos hx]; rfl
    · rw [if_neg hx, if_neg hx, front_app x _ _ hne]
end Go.Proofs.Qxb6613793aDoor
