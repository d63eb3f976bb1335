/-
  THE PLAIN LAYER (no Go in sight): the fields of a byte string at the four XML white-space bytes; FieldsFunc's runes against bytes; how often an item stands in a list; the distinct items.
-/
import Derived.Lib.FieldsP
namespace Go.Proofs.Qxb6609203a
open Go.Lib

/-- Is the rune (or byte) one of the four XML white-space characters? -/
def pSp (r : Nat) : Bool := r == 32 || r == 9 || r == 10 || r == 13

theorem pSp_big (r : Nat) (h : 128 ≤ r) : pSp r = false := by
  simp [pSp]; omega

/-- The spans of the fields, byte by byte. -/
def bspans (s : ByteArray) : Nat → Nat → Option Nat → List (Nat × Nat) → List (Nat × Nat) × Option Nat
  | 0, _, st, acc => (acc, st)
  | f + 1, pos, st, acc =>
    if pos < s.size then
      (if pSp (s.get! pos).toNat then
        (match st with
         | some a => bspans s f (pos + 1) none (acc ++ [(a, pos)])
         | none => bspans s f (pos + 1) none acc)
       else
        (match st with
         | some a => bspans s f (pos + 1) (some a) acc
         | none => bspans s f (pos + 1) (some pos) acc))
    else (acc, st)

theorem bspans_succ (s : ByteArray) (f pos : Nat) (st : Option Nat) (acc : List (Nat × Nat)) : bspans s (f + 1) pos st acc =
    if pos < s.size then
      (if pSp (s.get! pos).toNat then bspans s f (pos + 1) none (match st with | some a => acc ++ [(a, pos)] | none => acc)
       else bspans s f (pos + 1) (match st with | some a => some a | none => some pos) acc)
    else (acc, st) := by
  cases st <;> rfl

theorem bspans_skip (s : ByteArray) : ∀ (k f pos a : Nat) (acc : List (Nat × Nat)), pos + k ≤ s.size → (∀ j, j < k → 128 ≤ (s.get! (pos + j)).toNat) →
    bspans s (f + k) pos (some a) acc = bspans s f (pos + k) (some a) acc
  | 0, f, pos, a, acc, _, _ => rfl
  | k + 1, f, pos, a, acc, h, hb => by
    rw [show f + (k + 1) = (f + k) + 1 by omega]
    have h0 := hb 0 (by omega)
    rw [Nat.add_zero] at h0
    rw [bspans, if_pos (by omega), if_neg (by rw [pSp_big _ h0]; simp)]
    rw [bspans_skip s k f (pos + 1) a acc (by omega) (fun j hj => by have := hb (j + 1) (by omega); rwa [show pos + 1 + j = pos + (j + 1) by omega])]
    rw [show pos + 1 + k = pos + (k + 1) by omega]

/-- A rune is a white-space byte by itself, or no byte of its encoding is. -/
theorem decode_sp (s : ByteArray) (pos : Nat) (h : pos < s.size) :
    ((s.get! pos).toNat < 128 ∧ Utf8.decode s pos = ((s.get! pos).toNat, 1)) ∨
    (128 ≤ (Utf8.decode s pos).1 ∧ 1 ≤ (Utf8.decode s pos).2 ∧ pos + (Utf8.decode s pos).2 ≤ s.size ∧ ∀ j, j < (Utf8.decode s pos).2 → 128 ≤ (s.get! (pos + j)).toNat) := by
  rw [decode_at]
  generalize hb0 : (s.get! pos).toNat = b0
  generalize hb1 : (s.get! (pos + 1)).toNat = b1
  generalize hb2 : (s.get! (pos + 2)).toNat = b2
  generalize hb3 : (s.get! (pos + 3)).toNat = b3
  by_cases h0 : b0 < 128
  · left
    exact ⟨h0, by simp [decodeN, h0]⟩
  · right
    have one : ∀ j, j < 1 → 128 ≤ (s.get! (pos + j)).toNat := fun j hj => by
      obtain rfl : j = 0 := by omega
      rw [Nat.add_zero, hb0]; omega
    unfold decodeN
    rw [if_neg h0]
    split
    · rename_i h1
      split
      · refine ⟨by assumption, by simp only; omega, by simp only; omega, fun j hj => ?_⟩
        simp only at hj
        match j, hj with
        | 0, _ => rw [Nat.add_zero, hb0]; omega
        | 1, _ => rw [hb1]; omega
      · exact ⟨by decide, by decide, by simp only; omega, one⟩
    · split
      · rename_i h2
        split
        · refine ⟨by simp only; omega, by simp only; omega, by simp only; omega, fun j hj => ?_⟩
          simp only at hj
          match j, hj with
          | 0, _ => rw [Nat.add_zero, hb0]; omega
          | 1, _ => rw [hb1]; omega
          | 2, _ => rw [hb2]; omega
        · exact ⟨by decide, by decide, by simp only; omega, one⟩
      · split
        · rename_i h3
          split
          · refine ⟨by simp only; omega, by simp only; omega, by simp only; omega, fun j hj => ?_⟩
            simp only at hj
            match j, hj with
            | 0, _ => rw [Nat.add_zero, hb0]; omega
            | 1, _ => rw [hb1]; omega
            | 2, _ => rw [hb2]; omega
            | 3, _ => rw [hb3]; omega
          · exact ⟨by decide, by decide, by simp only; omega, one⟩
        · exact ⟨by decide, by decide, by simp only; omega, one⟩

/-- Rune by rune and byte by byte: the same spans. -/
theorem spans_eq (s : ByteArray) : ∀ (f pos : Nat) (st : Option Nat) (acc : List (Nat × Nat)), s.size ≤ pos + f →
    spansFromP pSp s f pos st acc = bspans s (s.size - pos) pos st acc
  | 0, pos, st, acc, h => by
    rw [show s.size - pos = 0 by omega]
    rfl
  | f + 1, pos, st, acc, h => by
    by_cases hlt : pos < s.size
    · obtain ⟨n, hn⟩ : ∃ n, s.size - pos = n + 1 := ⟨s.size - pos - 1, by omega⟩
      unfold spansFromP
      rw [if_pos hlt]
      rcases decode_sp s pos hlt with ⟨_, hd⟩ | ⟨hr, hk1, hk, hb⟩
      · rw [hn, bspans_succ, if_pos hlt, hd]
        simp only
        have e : s.size - (pos + 1) = n := by omega
        split <;> cases st <;> simp only <;> rw [spans_eq s f (pos + 1) _ _ (by omega), e]
      · rw [if_neg (by rw [pSp_big _ hr]; simp)]
        have hb0 := hb 0 (by omega)
        rw [Nat.add_zero] at hb0
        obtain ⟨k, hk'⟩ : ∃ k, (Utf8.decode s pos).2 = k + 1 := ⟨(Utf8.decode s pos).2 - 1, by omega⟩
        rw [hk'] at hk hb ⊢
        rw [hn, bspans_succ, if_pos hlt, if_neg (by rw [pSp_big _ hb0]; simp)]
        have e : n = s.size - (pos + (k + 1)) + k := by omega
        have hbk : ∀ j, j < k → 128 ≤ (s.get! (pos + 1 + j)).toNat := fun j hj => by
          have := hb (j + 1) (by omega)
          rwa [show pos + 1 + j = pos + (j + 1) by omega]
        cases st <;> simp only <;> rw [spans_eq s f (pos + (k + 1)) _ _ (by omega), e, bspans_skip s k _ (pos + 1) _ _ (by omega) hbk, show pos + 1 + k = pos + (k + 1) by omega]
    · rw [spansFromP_end _ _ _ _ _ _ hlt, show s.size - pos = 0 by omega]
      rfl

/-- The fields of s. -/
def fieldsB (s : ByteArray) : List ByteArray := (closeSpans s (bspans s s.size 0 none [])).map fun x => s.extract x.1 x.2

theorem goFields_eq (s : ByteArray) : goFieldsP pSp s = fieldsB s := by
  unfold goFieldsP fieldsB spansOfP
  rw [spans_eq s s.size 0 none [] (by omega), Nat.sub_zero]

end Go.Proofs.Qxb6609203a
