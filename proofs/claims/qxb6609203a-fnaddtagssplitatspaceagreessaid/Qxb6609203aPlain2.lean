/-
  THE PLAIN LAYER, ITS SECOND HALF: counts, distinct items; the fields as lists of bytes; the fields of 'a newline b'.
-/
import Derived.Test.Qxb6609203aPlain
import Derived.Lib.Strings
set_option linter.unusedVariables false
set_option linter.unusedSimpArgs false
namespace Go.Proofs.Qxb6609203a
open Go.Lib

theorem ba_ext {s t : ByteArray} (h : s.data.toList = t.data.toList) : s = t := by
  cases s; cases t; simp only at h; congr; exact Array.toList_inj.1 h

/-- Go's '==' on strings, as the walk spells it. -/
theorem eq_iff (s t : ByteArray) : (s.toList == t.toList) = true ↔ s = t := by
  rw [beq_iff_eq, toList_data, toList_data]
  exact ⟨ba_ext, fun h => by rw [h]⟩

/-- How often t stands in the list. -/
def cnt (fs : List ByteArray) (t : ByteArray) : Nat := fs.countP (fun s => s.toList == t.toList)

theorem cnt_nil (t : ByteArray) : cnt [] t = 0 := rfl
theorem cnt_append (a b : List ByteArray) (t : ByteArray) : cnt (a ++ b) t = cnt a t + cnt b t := List.countP_append
theorem cnt_le (a : List ByteArray) (t : ByteArray) : cnt a t ≤ a.length := List.countP_le_length
theorem cnt_zero (fs : List ByteArray) (t : ByteArray) : cnt fs t = 0 ↔ t ∉ fs := by
  unfold cnt
  rw [List.countP_eq_zero]
  constructor
  · intro h hm
    exact h t hm ((eq_iff t t).2 rfl)
  · intro h s hs he
    rw [eq_iff] at he
    subst he
    exact h hs
theorem cnt_self (t : ByteArray) : cnt [t] t = 1 := by
  simp [cnt, List.countP_cons]
theorem cnt_other {s t : ByteArray} (h : s ≠ t) : cnt [s] t = 0 := by
  rw [cnt_zero]; simp; exact fun e => h e.symm

/-- The distinct items, in the order of their first places. -/
def dist (acc : List ByteArray) : List ByteArray → List ByteArray
  | [] => acc
  | s :: t => dist (if cnt acc s = 0 then acc ++ [s] else acc) t

theorem dist_snoc : ∀ (l acc : List ByteArray) (s : ByteArray), dist acc (l ++ [s]) = if cnt (dist acc l) s = 0 then dist acc l ++ [s] else dist acc l
  | [], acc, s => rfl
  | x :: l, acc, s => dist_snoc l _ s

theorem dist_mem : ∀ (l acc : List ByteArray) (x : ByteArray), x ∈ dist acc l ↔ x ∈ acc ∨ x ∈ l
  | [], acc, x => by simp [dist]
  | s :: t, acc, x => by
    rw [dist, dist_mem t]
    by_cases h : cnt acc s = 0
    · rw [if_pos h]
      simp only [List.mem_append, List.mem_cons, List.not_mem_nil, or_false]
      exact ⟨fun h => by rcases h with (h | h) | h <;> simp [h], fun h => by rcases h with h | h | h <;> simp [h]⟩
    · rw [if_neg h]
      rw [cnt_zero] at h
      have hs : s ∈ acc := Classical.not_not.1 h
      simp only [List.mem_cons]
      exact ⟨fun h => by rcases h with h | h <;> simp [h], fun h => by rcases h with h | rfl | h <;> simp [*]⟩

theorem dist_nodup : ∀ (l acc : List ByteArray), acc.Nodup → (dist acc l).Nodup
  | [], acc, h => h
  | s :: t, acc, h => by
    rw [dist]
    refine dist_nodup t _ ?_
    split
    · rename_i h0
      rw [cnt_zero] at h0
      rw [List.nodup_append]
      exact ⟨h, by simp, fun a ha b hb => by simp at hb; subst hb; exact fun e => h0 (e ▸ ha)⟩
    · exact h

theorem dist_length : ∀ (l acc : List ByteArray), (dist acc l).length ≤ acc.length + l.length
  | [], acc => by simp [dist]
  | s :: t, acc => by
    rw [dist]
    have := dist_length t (if cnt acc s = 0 then acc ++ [s] else acc)
    split at this <;> rename_i h <;> simp [h] at this ⊢ <;> omega

/-- Two lists without repeats and with the same members are equally long. -/
theorem nodup_same {a b : List ByteArray} (ha : a.Nodup) (hb : b.Nodup) (h : ∀ x, x ∈ a ↔ x ∈ b) : a.length = b.length :=
  ((List.perm_ext_iff_of_nodup ha hb).2 h).length_eq

/-! ### lengths of the fields -/
theorem bspans_ok (s : ByteArray) : ∀ (f pos : Nat) (st : Option Nat) (acc : List (Nat × Nat)), (∀ x ∈ acc, x.1 ≤ x.2 ∧ x.2 ≤ s.size) → (∀ a, st = some a → a < pos ∧ a ≤ s.size) → acc.length ≤ pos → pos ≤ s.size →
    (∀ x ∈ (bspans s f pos st acc).1, x.1 ≤ x.2 ∧ x.2 ≤ s.size) ∧ (∀ a, (bspans s f pos st acc).2 = some a → a ≤ s.size) ∧ (bspans s f pos st acc).1.length ≤ s.size
  | 0, pos, st, acc, h1, h2, h3, h4 => ⟨h1, fun a ha => (h2 a ha).2, by simp only [bspans]; omega⟩
  | f + 1, pos, st, acc, h1, h2, h3, h4 => by
    rw [bspans_succ]
    split
    · rename_i hlt
      split
      · refine bspans_ok s f (pos + 1) none _ ?_ (fun a ha => by cases ha) ?_ (by omega)
        · cases st with
          | none => exact h1
          | some a =>
            intro x hx
            rcases List.mem_append.1 hx with hx | hx
            · exact h1 x hx
            · simp at hx; subst hx; have := h2 a rfl; exact ⟨by simp; omega, by simp; omega⟩
        · cases st with
          | none => simp only; omega
          | some a => simp only [List.length_append, List.length_cons, List.length_nil]; omega
      · refine bspans_ok s f (pos + 1) _ acc h1 ?_ (by omega) (by omega)
        cases st with
        | none => intro a ha; simp at ha; omega
        | some b => intro a ha; simp at ha; subst ha; have := h2 b rfl; omega
    · exact ⟨h1, fun a ha => (h2 a ha).2, by simp only; omega⟩

theorem fieldsB_length (s : ByteArray) : (fieldsB s).length ≤ s.size + 1 := by
  unfold fieldsB
  have h := bspans_ok s s.size 0 none [] (fun x hx => by cases hx) (fun a ha => by cases ha) (Nat.le_refl _) (Nat.zero_le _)
  rw [List.length_map]
  obtain ⟨r, hb⟩ : ∃ r, r = bspans s s.size 0 none [] := ⟨_, rfl⟩
  rw [← hb] at h ⊢
  obtain ⟨p, q⟩ := r
  cases q with
  | none => show p.length ≤ _; have := h.2.2; simp only at this; omega
  | some a => show (p ++ [(a, s.size)]).length ≤ _; have := h.2.2; simp only at this; simp; omega

theorem fieldsB_size (s : ByteArray) : ∀ x ∈ fieldsB s, x.size ≤ s.size := by
  intro x hx
  unfold fieldsB at hx
  obtain ⟨y, _, rfl⟩ := List.mem_map.1 hx
  rw [ByteArray.size_extract]
  omega

end Go.Proofs.Qxb6609203a
