/-
  THE WALKS of the shim: ZZnewTagReader (9), ZZaddTags (10), ZZtagCount (13), ZZtagRanges (14).
-/
import Derived.Test.Qxb6609203aW6
import Derived.Laws.OwnMore
set_option linter.unusedVariables false
set_option linter.unusedSimpArgs false
namespace Go.Proofs.Qxb6609203a
open Go.RowKit

/-- The reader at rp holds the table at b, its rows from B on. -/
def Tbl (w : World) (rp b B n : Nat) (ks : List ByteArray) (M : ByteArray → List (Int × Int)) : Prop :=
  ∃ es clock, Tags w b B n (fun _ => False) ks M es clock ∧ w.cell? ⟨rp, 13, none⟩ = some (.map (some b)) ∧ rp ≠ b ∧ rp < B ∧ B ≤ w.heap.size

theorem Tbl.below {w w' : World} {rp b B n : Nat} {ks : List ByteArray} {M : ByteArray → List (Int × Int)} (h : Tbl w rp b B n ks M) (hb : Below w.heap.size w w') : Tbl w' rp b B n ks M := by
  obtain ⟨es, clock, T, hc, h1, h2, h3⟩ := h
  exact ⟨es, clock, T.below hb, (hb.cell (p := ⟨rp, 13, none⟩) (by simp; omega)).trans hc, h1, h2, Nat.le_trans h3 hb.size⟩

set_option maxRecDepth 100000 in
set_option maxHeartbeats 1000000 in
theorem newTagReader_any (w : World) :
    Calls Try.prog 9 #[] w fun e w' => e = .returned (.pointer (some ⟨w.heap.size + 1, 0, none⟩)) ∧ Tbl w' (w.heap.size + 1) w.heap.size (w.heap.size + 2) 0 [] (fun _ => []) ∧ Below w.heap.size w w' := by
  have hmm := @run_makeMap Try.prog
  go_enter Try.func9, Try.ntmps9
  go_wp2
  go_ret
  refine ⟨rfl, ⟨#[], 0, ?_, ?_, by omega, by omega, by simp⟩, ?_⟩
  · exact (tags_made w (w.heap.size + 2) (by omega) _).below ((Below.refl _ _).alloc (Nat.le_refl _) _)
  · simp
  · exact ((Below.refl _ _).alloc (Nat.le_refl _) _).alloc (by simp) _

set_option maxRecDepth 100000 in
set_option maxHeartbeats 1000000 in
theorem zzAddTags_any (rp b B n : Nat) (ks : List ByteArray) (M : ByteArray → List (Int × Int)) (list : ByteArray) (f l : Int) (w : World) (h : Tbl w rp b B n ks M) (hs : list.size ≤ 100000) (hn : n ≤ 1000000) :
    Calls Try.prog 10 #[.pointer (some ⟨rp, 0, none⟩), .string list, .int .i32 f, .int .i32 l] w fun e w' => e = .returned (.tuple #[]) ∧ ∃ ks', Tbl w' rp b B (n + (fieldsB list).length) ks' (filed M (fieldsB list) (f, l)) ∧
      (∀ s, s ∈ ks' ↔ s ∈ ks ∨ s ∈ fieldsB list) ∧ Below b w w' := by
  obtain ⟨es, clock, T, hc, h1, h2, h3⟩ := h
  have ha := addTags_any rp b B n ks M es clock list f l w T hc h1 h2 h3 hs hn
  go_enter Try.func10, Try.ntmps10
  go_wp2_with (go_at_call 18; refine ha.mono ?_; rintro e w' ⟨rfl, ks', es', clock', T', hk, hc', hb⟩)
  go_end0
  exact ⟨rfl, ks', ⟨es', clock', T', hc', h1, h2, Nat.le_trans h3 hb.size⟩, hk, hb⟩

set_option maxHeartbeats 1000000 in
theorem tagCount_any (rp b B n : Nat) (ks : List ByteArray) (M : ByteArray → List (Int × Int)) (w : World) (h : Tbl w rp b B n ks M) :
    Calls Try.prog 13 #[.pointer (some ⟨rp, 0, none⟩)] w fun e w' => e = .returned (.int .i64 (ks.length : Int)) ∧ w = w' := by
  obtain ⟨es, clock, T, hc, h1, h2, h3⟩ := h
  have hl := T.lenm
  go_enter Try.func13, Try.ntmps13
  go_wp2
  go_ret
  exact ⟨rfl, rfl⟩

theorem info37 : (Try.prog.info? 37).map (fun i => (i.zero, i.size, i.bytes)) = some (some (.agg #[.int .i32 0, .int .i32 0]), 2, 8) := by kernel_rfl

theorem made_two (n : Nat) : (madeCells #[Value.int .i32 0, Value.int .i32 0] (n * 2)).toList = List.replicate (n * 2) (Value.int .i32 0) := by
  apply List.ext_getElem?
  intro j
  by_cases hj : j < n * 2
  · have h2 : j % 2 = 0 ∨ j % 2 = 1 := by omega
    rcases h2 with h2 | h2 <;> simp [madeCells, hj, h2]
  · simp [madeCells, hj]

/-- The result's row when i pairs have been laid. -/
def rowTo (zs : List (Int × Int)) (i : Nat) : List Value := prs (zs.take i) ++ List.replicate ((zs.length - i) * 2) (Value.int .i32 0)
theorem rowTo_zero (zs : List (Int × Int)) : rowTo zs 0 = List.replicate (zs.length * 2) (Value.int .i32 0) := by simp [rowTo, prs]
theorem rowTo_all (zs : List (Int × Int)) : rowTo zs zs.length = prs zs := by simp [rowTo]
theorem rowTo_set (zs : List (Int × Int)) (i : Nat) (x : Int × Int) (h : zs[i]? = some x) : ((rowTo zs i).set (i * 2) (Value.int .i32 x.1)).set (i * 2 + 1) (Value.int .i32 x.2) = rowTo zs (i + 1) := by
  have hi : i < zs.length := (List.getElem?_eq_some_iff.1 h).1
  have ht : zs.take (i + 1) = zs.take i ++ [x] := by rw [List.take_add_one, h]; rfl
  have hl : (prs (zs.take i)).length = i * 2 := by rw [prs_length, List.length_take]; omega
  obtain ⟨m, hm⟩ : ∃ m, zs.length - i = m + 1 := ⟨zs.length - i - 1, by omega⟩
  have hm' : zs.length - (i + 1) = m := by omega
  obtain ⟨a, c⟩ := x
  unfold rowTo
  rw [ht, prs_snoc, hm, hm', show (m + 1) * 2 = m * 2 + 1 + 1 by omega, List.replicate_succ, List.replicate_succ, ← hl]
  rw [List.set_append_right _ _ (Nat.le_refl _), Nat.sub_self, List.set_append_right _ _ (by omega)]
  simp

set_option maxRecDepth 100000 in
set_option maxHeartbeats 1000000 in
theorem tagRanges_any (rp b B n : Nat) (ks : List ByteArray) (M : ByteArray → List (Int × Int)) (t : ByteArray) (w : World) (h : Tbl w rp b B n ks M) (ht : t.size ≤ maxLen) (hn : n ≤ 1000000) :
    Calls Try.prog 14 #[.pointer (some ⟨rp, 0, none⟩), .string t] w fun e w' => ∃ A, e = .returned (.slice (some ⟨A, 0, none⟩) (M t).length (M t).length) ∧
      w'.ownsRow w.heap.size 37 2 (.slice (some ⟨A, 0, none⟩) (M t).length (M t).length) (M t).length (prs (M t)) ∧ Below w.heap.size w w' := by
  obtain ⟨es, clock, T, hc, h1, h2, h3⟩ := h
  obtain ⟨v, hlook, hvo, _, _⟩ := T.look ht
  have hl0 := hlook w T.heap
  have hvl := T.len t
  obtain ⟨zs, hzs⟩ : ∃ zs, zs = M t := ⟨_, rfl⟩
  rw [← hzs] at hvo hvl ⊢
  obtain ⟨ao, ca, rfl, hao⟩ := own_shape hvo
  obtain ⟨i0, hi, hz0, hz1, hz2⟩ := info_parts info37
  obtain ⟨W0, hmk, hown0, hg0⟩ := run_make_full (P := Try.prog) w w.heap.size 34 37 i0 _ 2 Try.underlying34 hi hz0 hz1 .i64 .i64 zs.length (by rw [hz2]; omega) (by unfold maxLen; omega) (Nat.le_refl _)
  rw [show (Value.agg #[Value.int .i32 0, Value.int .i32 0]).cells = #[Value.int .i32 0, Value.int .i32 0] from rfl, made_two, ← rowTo_zero zs] at hown0
  have hb0 : Below w.heap.size w W0 := (Below.refl _ w).grown hg0 (Nat.le_refl _) (fun k hk => by cases hk)
  clear hlook T hzs
  go_enter Try.func14, Try.ntmps14
  go_wp2
  go_loopw [20] (fun i wr => ∃ k : Nat, i = .int .i64 k ∧ k ≤ zs.length ∧ wr.ownsRow w.heap.size 37 2 (.slice (some ⟨w.heap.size, 0, none⟩) zs.length zs.length) zs.length (rowTo zs k) ∧ Below w.heap.size w wr) (fun i _ => zs.length - (intOf i).toNat)
  case atStart => exact ⟨0, rfl, Nat.zero_le _, hown0, hb0⟩
  case round =>
    obtain ⟨k, rfl, hk, hA, hnx⟩ := hrel
    by_cases hlt : k < zs.length
    · obtain ⟨g, rfl, hg⟩ := hao (by omega)
      obtain ⟨x, hx⟩ : ∃ x, zs[k]? = some x := ⟨_, List.getElem?_eq_getElem hlt⟩
      have hc0 : wr.cell? ⟨g, k * 2, none⟩ = some (.int .i32 x.1) := (hnx.cell (p := ⟨g, k * 2, none⟩) hg).trans ((hvo.cellAt (k * 2) (by omega)).trans (prs_at zs k x hx).1)
      have hc1 : wr.cell? ⟨g, k * 2 + 1, none⟩ = some (.int .i32 x.2) := (hnx.cell (p := ⟨g, k * 2 + 1, none⟩) hg).trans ((hvo.cellAt (k * 2 + 1) (by omega)).trans (prs_at zs k x hx).2)
      have hA' := hA.alloc (.cells #[.int .i32 x.1, .int .i32 x.2] 62)
      obtain ⟨o1, ho1⟩ : ∃ o1, (rowTo zs k)[k * 2]? = some o1 := ⟨_, List.getElem?_eq_getElem (by have := hA.1; omega)⟩
      obtain ⟨o2, ho2⟩ : ∃ o2, (rowTo zs k)[k * 2 + 1]? = some o2 := ⟨_, List.getElem?_eq_getElem (by have := hA.1; omega)⟩
      have hcA := (hA'.cellAt (k * 2) (by omega)).trans ho1
      have hcA2 := (hA'.cellAt (k * 2 + 1) (by omega)).trans ho2
      have hfA := hA'.frozenAt (k * 2)
      have hfA2 := hA'.frozenAt (k * 2 + 1)
      go_wp2
      go_roundw
      case rel =>
        have s1 := hA'.stored (k * 2) (.int .i32 x.1)
        have s2 := s1.1.stored (k * 2 + 1) (.int .i32 x.2)
        rw [rowTo_set zs k x hx] at s2
        have hsz := hnx.size
        exact ⟨k + 1, by go_num, by omega, s2.1, ((hnx.alloc hsz _).grown s1.2 (by simp; omega) (fun j hj => by cases hj; exact Nat.le_refl _)).grown s2.2 (by have := s1.2.size; simp at this ⊢; omega) (fun j hj => by cases hj; exact Nat.le_refl _)⟩
      case measure => simp [intOf]; omega
    · obtain rfl : k = zs.length := by omega
      rw [rowTo_all] at hA
      go_wp2
      go_ret
      exact ⟨w.heap.size, rfl, hA, hnx⟩
end Go.Proofs.Qxb6609203a
