/-
  THE WALKS of zzFields (11) and zzDistinct (12).
-/
import Derived.Test.Qxb6609203aW1
import Derived.WalkSpells
set_option linter.unusedVariables false
set_option linter.unusedSimpArgs false
namespace Go.Proofs.Qxb6609203a
open Go.RowKit

theorem info9 : (Try.prog.info? 9).map (fun i => (i.zero, i.size, i.bytes)) = some (some (.string ⟨#[]⟩), 1, 16) := by kernel_rfl

/-- The pieces of s at the spans. -/
def cuts (s : ByteArray) (acc : List (Nat × Nat)) : List Value := acc.map fun x => Value.string (s.extract x.1 x.2)
theorem cuts_snoc (s : ByteArray) (acc : List (Nat × Nat)) (a b : Nat) : cuts s (acc ++ [(a, b)]) = cuts s acc ++ [Value.string (s.extract a b)] := by simp [cuts]

theorem get!_lt (s : ByteArray) (k : Nat) (h : k < s.size) : s.get! k = s[k] := by
  simp [ByteArray.get!, getElem!_pos, h]; rfl

set_option maxRecDepth 100000 in
set_option maxHeartbeats 1000000 in
theorem zzFields_any (s : ByteArray) (w : World) (hs : s.size ≤ 100000) :
    Calls Try.prog 11 #[.string s] w fun e w' => ∃ v, e = .returned v ∧ w'.ownsRow w.heap.size 9 1 v (fieldsB s).length ((fieldsB s).map Value.string) ∧ Below w.heap.size w w' := by
  obtain ⟨i0, hi, hz0, hz1, hz2⟩ := info_parts info9
  have hF : ∀ acc st, (acc, st) = bspans s s.size 0 none [] → fieldsB s = (Lib.closeSpans s (acc, st)).map fun x => s.extract x.1 x.2 := fun acc st h => by unfold fieldsB; rw [← h]
  have HF : Hid (∀ acc st, (acc, st) = bspans s s.size 0 none [] → fieldsB s = (Lib.closeSpans s (acc, st)).map fun x => s.extract x.1 x.2) := hF
  clear hF
  go_enter Try.func11, Try.ntmps11
  go_wp2
  go_loopw [3, 4, 5] (fun o st' i wr => ∃ (k : Nat) (st : Option Nat) (acc : List (Nat × Nat)) (z : Int), i = .int .i64 k ∧ k ≤ s.size ∧ st' = .int .i64 z ∧ (st = none → z = -1) ∧ (∀ a, st = some a → z = (a : Int) ∧ a < k) ∧
      wr.ownsRow w.heap.size 9 1 o acc.length (cuts s acc) ∧ Below w.heap.size w wr ∧ Hid (bspans s (s.size - k) k st acc = bspans s s.size 0 none []) ∧ acc.length ≤ k) (fun _ _ i _ => s.size - (intOf i).toNat)
  case atStart => exact ⟨0, none, [], -1, rfl, Nat.zero_le _, rfl, fun _ => rfl, (fun a h => by cases h), World.ownsRow_nil _ _ _ _, Below.refl _ _, rfl, Nat.le_refl _⟩
  case round =>
    obtain ⟨k, st, acc, z, rfl, hk, rfl, hzn, hzs, hown, hnx, HB, hal⟩ := hrel
    by_cases hlt : k < s.size
    · have hb := HB.out
      rw [show s.size - k = (s.size - (k + 1)) + 1 by omega, bspans_succ, if_pos hlt, get!_lt s k hlt] at hb
      clear HB
      cases hp : pSp s[k].toNat
      · rw [hp] at hb
        simp only [Bool.false_eq_true, if_false] at hb
        cases st with
        | none =>
          obtain rfl : z = -1 := hzn rfl
          clear hzs hzn
          have HB' : Hid (bspans s (s.size - (k + 1)) (k + 1) (some k) acc = bspans s s.size 0 none []) := hb
          clear hb
          go_wp2_with (go_at_call 19; refine (isSp_any _ _).mono ?_; rintro e w' ⟨rfl, rfl⟩)
          go_roundw
          case rel => exact ⟨k + 1, some k, acc, k, by go_num, by omega, rfl, (fun h => by cases h), (fun a h => by cases h; exact ⟨rfl, by omega⟩), hown, hnx, HB', by omega⟩
          case measure => simp [intOf]; omega
        | some a =>
          obtain ⟨rfl, ha⟩ := hzs a rfl
          clear hzs hzn
          have HB' : Hid (bspans s (s.size - (k + 1)) (k + 1) (some a) acc = bspans s s.size 0 none []) := hb
          clear hb
          go_wp2_with (go_at_call 19; refine (isSp_any _ _).mono ?_; rintro e w' ⟨rfl, rfl⟩)
          go_roundw
          case rel => exact ⟨k + 1, some a, acc, a, by go_num, by omega, rfl, (fun h => by cases h), (fun b h => by cases h; exact ⟨rfl, by omega⟩), hown, hnx, HB', by omega⟩
          case measure => simp [intOf]; omega
      · rw [hp] at hb
        simp only [if_true] at hb
        cases st with
        | none =>
          obtain rfl : z = -1 := hzn rfl
          clear hzs hzn
          have HB' : Hid (bspans s (s.size - (k + 1)) (k + 1) none acc = bspans s s.size 0 none []) := hb
          clear hb
          go_wp2_with (go_at_call 19; refine (isSp_any _ _).mono ?_; rintro e w' ⟨rfl, rfl⟩)
          go_roundw
          case rel => exact ⟨k + 1, none, acc, -1, by go_num, by omega, rfl, fun _ => rfl, (fun a h => by cases h), hown, hnx, HB', by omega⟩
          case measure => simp [intOf]; omega
        | some a =>
          obtain ⟨rfl, ha⟩ := hzs a rfl
          clear hzs hzn
          have HB' : Hid (bspans s (s.size - (k + 1)) (k + 1) none (acc ++ [(a, k)]) = bspans s s.size 0 none []) := hb
          clear hb
          have hsz := hnx.size
          go_wp2_with (first
            | (go_at_call 19; refine (isSp_any _ _).mono ?_; rintro e w' ⟨rfl, rfl⟩)
            | (at_builtin; refine wpList_append_own _ rfl _ _ 30 rfl w.heap.size 9 i0 (.string ⟨#[]⟩) 1 16 Try.underlying30 hi hz0 hz1 hz2 rfl (by decide) _ _ _ rfl (hown.alloc _) ⟨wr.heap.size, 0, none⟩ 1 1 [.string (s.extract a k)] rfl rfl (cell_one_new _ _ _) (by simp [Value.oneCell']) (by unfold maxLen; omega) (by omega) (by simp; omega) ?_; intro v3 w3 hown3 hgrow3 hnil3))
          go_roundw
          case rel =>
            have hX := hown.alloc (.cells #[.string (s.extract a k)] 9)
            exact ⟨k + 1, none, acc ++ [(a, k)], -1, by go_num, by omega, rfl, fun _ => rfl, (fun b h => by cases h), by rw [List.length_append, cuts_snoc]; exact hown3, (hnx.alloc hnx.size _).grown hgrow3 (by simp; omega) (fun j hj => (hX.lt j hj).1), HB', by simp; omega⟩
          case measure => simp [intOf]; omega
    · obtain rfl : k = s.size := by omega
      have hb := HB.out
      rw [Nat.sub_self] at hb
      have hfin := HF.out acc st hb
      have HFin : Hid (fieldsB s = (Lib.closeSpans s (acc, st)).map fun x => s.extract x.1 x.2) := hfin
      clear hfin hb HB HF
      cases st with
      | none =>
        obtain rfl : z = -1 := hzn rfl
        clear hzs hzn
        go_wp2
        go_ret
        refine ⟨_, rfl, ?_, hnx⟩
        rw [HFin.out]
        simpa [Lib.closeSpans, cuts, Function.comp_def] using hown
      | some a =>
        obtain ⟨rfl, ha⟩ := hzs a rfl
        clear hzs hzn
        have hsz := hnx.size
        go_wp2_with (at_builtin; refine wpList_append_own _ rfl _ _ 30 rfl w.heap.size 9 i0 (.string ⟨#[]⟩) 1 16 Try.underlying30 hi hz0 hz1 hz2 rfl (by decide) _ _ _ rfl (hown.alloc _) ⟨wr.heap.size, 0, none⟩ 1 1 [.string (s.extract a s.size)] rfl rfl (cell_one_new _ _ _) (by simp [Value.oneCell']) (by unfold maxLen; omega) (by omega) (by simp; omega) ?_; intro v3 w3 hown3 hgrow3 hnil3)
        go_ret
        have hX := hown.alloc (.cells #[.string (s.extract a s.size)] 9)
        refine ⟨_, rfl, ?_, (hnx.alloc hnx.size _).grown hgrow3 (by simp; omega) (fun j hj => (hX.lt j hj).1)⟩
        rw [HFin.out]
        simpa [Lib.closeSpans, cuts, Function.comp_def] using hown3
end Go.Proofs.Qxb6609203a
