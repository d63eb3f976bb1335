/-
  THE WALK of (*rulesetReader).addTags (18).
-/
import Derived.Test.Qxb6609203aW5
import Derived.Test.Qxb6609203aTags
import Derived.Deep.RegionHeld3
import Derived.Deep.AppendLies
set_option linter.unusedVariables false
set_option linter.unusedSimpArgs false
namespace Go.Proofs.Qxb6609203a
open Go.RowKit

theorem info62 : (Try.prog.info? 62).map (fun i => (i.zero, i.size, i.bytes)) = some (some (.agg #[.int .i32 0, .int .i32 0]), 2, 8) := by kernel_rfl

/-- What is filed behind 'for each of fs: file p'. -/
def filed (M : ByteArray → List (Int × Int)) (fs : List ByteArray) (p : Int × Int) : ByteArray → List (Int × Int) := fun t => M t ++ List.replicate (cnt fs t) p

theorem filed_nil (M : ByteArray → List (Int × Int)) (p : Int × Int) : filed M [] p = M := by
  funext t; simp [filed, cnt_nil]
theorem filed_step (M : ByteArray → List (Int × Int)) (fs : List ByteArray) (p : Int × Int) (k : Nat) (h : k < fs.length) :
    filed M (fs.take (k + 1)) p = upd (filed M (fs.take k) p) fs[k] (filed M (fs.take k) p fs[k] ++ [p]) := by
  funext t
  rw [List.take_succ_eq_append_getElem h]
  by_cases e : t = fs[k]
  · subst e
    rw [upd_same]
    simp only [filed, cnt_append, cnt_self, List.replicate_succ', List.append_assoc]
  · rw [upd_other _ _ e]
    simp only [filed, cnt_append, cnt_other (fun h => e h.symm), Nat.add_zero]

theorem mem_take_succ (fs : List ByteArray) (k : Nat) (h : k < fs.length) : ∀ s, s ∈ fs.take (k + 1) ↔ s ∈ fs.take k ∨ s = fs[k] := fun s => by
  rw [List.take_succ_eq_append_getElem h, List.mem_append, List.mem_singleton]

theorem grown_alloc_drew {wr w3 : World} {X : Obj} {row : Option Nat} (h : (wr.alloc X).drew.grownBy w3 row) : wr.grownBy w3 row := by
  have hs : (wr.alloc X).heap.size ≤ w3.heap.size := h.size
  simp at hs
  exact ⟨h.os, h.tape, h.output, by omega, fun k hk hne => (h.block k (show k < (wr.alloc X).heap.size by simp; omega) hne).trans (Below.heap_alloc wr X k hk)⟩

/-- Behind the append: the store's run, and the table again. -/
theorem store_after {wr w3 : World} {X : Obj} {b B n g cap : Nat} {No : Nat → Prop} {ks : List ByteArray} {M : ByteArray → List (Int × Int)} {es : Array MapEntry} {clock : Nat} {v : Value} {t : ByteArray} {f l : Int}
    (T : Tags wr b B n No ks M es clock) (ht : t.size ≤ maxLen) (hn : n < maxLen) (hvo : wr.ownsRow B 62 2 v (M t).length (prs (M t))) (hvx : ∀ x ∈ es.toList, x.key ≠ .string t → x.val.ownBlock = none ∨ x.val.ownBlock ≠ v.ownBlock)
    (hvno : ∀ g, v.ownBlock = some g → ¬ No g) (hgrow : (wr.alloc X).drew.grownBy w3 v.ownBlock) (hown : w3.ownsRow B 62 2 (.slice (some ⟨g, 0, none⟩) ((M t).length + 1) cap) ((M t).length + 1) (prs (M t) ++ [.int .i32 f, .int .i32 l]))
    (hat : v.ownBlock = some g ∨ g = wr.heap.size + 1) (hNo : ¬ No (wr.heap.size + 1)) :
    ∃ w4 es4 clock4 ks4, (Instr.mapUpdate 42 (.map (some b)) (.string t) (.slice (some ⟨g, 0, none⟩) ((M t).length + 1) cap)).run Try.prog w3 = .ok () w4 ∧ Hid (∀ s, s ∈ ks4 ↔ s ∈ ks ∨ s = t) ∧
      Tags w4 b B (n + 1) No ks4 (upd M t (M t ++ [(f, l)])) es4 clock4 ∧ w3.grownBy w4 (some b) ∧ wr.grownBy w3 v.ownBlock := by
  have hg := grown_alloc_drew hgrow
  have hvb : v.ownBlock ≠ some b := fun e => by have := (hvo.lt b e).1; have := T.lt; omega
  have hl := T.len t
  obtain ⟨w4, es4, clock4, ks4, hrun, hks, T4, hg4⟩ := T.store (zs := M t ++ [(f, l)]) ht hn hvx hvb hg (by rw [List.length_append, prs_snoc]; exact hown) (by simp; omega)
    (by rcases hat with h | h
        · exact .inl h.symm
        · exact .inr ⟨g, rfl, by omega⟩)
    (fun g' hg' => by
      have : g' = g := by simpa [Value.ownBlock] using hg'.symm
      subst this
      rcases hat with h | h
      · exact hvno _ h
      · rw [h]; exact hNo)
  exact ⟨w4, es4, clock4, ks4, hrun, hks, T4, hg4, hg⟩

set_option maxRecDepth 100000 in
set_option maxHeartbeats 4000000 in
theorem addTags_any (rp b B n : Nat) (ks : List ByteArray) (M : ByteArray → List (Int × Int)) (es : Array MapEntry) (clock : Nat) (list : ByteArray) (f l : Int) (w : World)
    (T : Tags w b B n (fun _ => False) ks M es clock) (hrp : w.cell? ⟨rp, 13, none⟩ = some (.map (some b))) (hrb : rp ≠ b) (hrB : rp < B) (hB : B ≤ w.heap.size) (hs : list.size ≤ 100000) (hn : n ≤ 1000000) :
    Calls Try.prog 18 #[.pointer (some ⟨rp, 0, none⟩), .string list, .agg #[.int .i32 f, .int .i32 l]] w fun e w' => e = .returned (.tuple #[]) ∧ ∃ ks' es' clock',
      Tags w' b B (n + (fieldsB list).length) (fun _ => False) ks' (filed M (fieldsB list) (f, l)) es' clock' ∧ (∀ s, s ∈ ks' ↔ s ∈ ks ∨ s ∈ fieldsB list) ∧ w'.cell? ⟨rp, 13, none⟩ = some (.map (some b)) ∧ Below b w w' := by
  obtain ⟨i0, hi, hz0, hz1, hz2⟩ := info_parts info62
  have hbB := T.lt
  have hfl := fieldsB_length list
  have hfz := fieldsB_size list
  obtain ⟨fs, hfs⟩ : ∃ fs, fs = fieldsB list := ⟨_, rfl⟩
  have hx := xmlFields_any list (w.alloc (.cells #[.int .i32 f, .int .i32 l] 62)) (by omega)
  rw [← hfs] at hx hfl hfz ⊢
  clear hfs
  go_enter Try.func18, Try.ntmps18
  go_wp2_with (go_at_call 20; refine hx.mono ?_; rintro e w1 ⟨A, rfl, hA, hown, hb1⟩)
  clear hx
  have hwsz : w.heap.size + 1 ≤ A := by simpa using hA
  have hbx0 : w1.cell? ⟨w.heap.size, 0, none⟩ = some (.int .i32 f) := (hb1.cell (p := ⟨w.heap.size, 0, none⟩) (by simp)).trans (by simp)
  have hbx1 : w1.cell? ⟨w.heap.size, 1, none⟩ = some (.int .i32 l) := (hb1.cell (p := ⟨w.heap.size, 1, none⟩) (by simp)).trans (by simp)
  have hBw1 : Below w.heap.size w w1 := ((Below.refl _ w).alloc (Nat.le_refl _) _).trans (hb1.mono (by simp))
  have hAlt : A < w1.heap.size := (hown.lt A rfl).2
  have T1 := (T.reno (fun g => g = A ∨ g = w.heap.size) (fun g hg => by rcases hg with rfl | rfl <;> right <;> omega)).below hBw1
  have hrp1 : w1.cell? ⟨rp, 13, none⟩ = some (.map (some b)) := (hBw1.cell (p := ⟨rp, 13, none⟩) (by simp; omega)).trans hrp
  have hBb1 : Below b w w1 := hBw1.mono (by omega)
  have hw1 : w.heap.size + 1 ≤ w1.heap.size := by omega
  have own1 : w1.ownsRow w.heap.size 9 1 (.slice (some ⟨A, 0, none⟩) fs.length fs.length) fs.length (fs.map Value.string) := ⟨hown.1, by
    rcases hown.2 with ⟨h, _⟩ | ⟨g, cap, cur, h, hg, r⟩
    · cases h
    · exact .inr ⟨g, cap, cur, h, by simp at hg; omega, r⟩⟩
  clear T hrp hown hb1 hA hBw1
  go_loopw [11] (fun i wr => ∃ (k : Nat) (ks' : List ByteArray) (es' : Array MapEntry) (clock' : Nat), i = .int .i64 k ∧ k ≤ fs.length ∧
      Tags wr b B (n + k) (fun g => g = A ∨ g = w.heap.size) ks' (filed M (fs.take k) (f, l)) es' clock' ∧ Hid (∀ s, s ∈ ks' ↔ s ∈ ks ∨ s ∈ fs.take k) ∧ wr.cell? ⟨rp, 13, none⟩ = some (.map (some b)) ∧
      wr.cell? ⟨w.heap.size, 0, none⟩ = some (.int .i32 f) ∧ wr.cell? ⟨w.heap.size, 1, none⟩ = some (.int .i32 l) ∧ wr.ownsRow w.heap.size 9 1 (.slice (some ⟨A, 0, none⟩) fs.length fs.length) fs.length (fs.map Value.string) ∧
      Below b w wr ∧ w1.heap.size ≤ wr.heap.size) (fun i _ => fs.length - (intOf i).toNat)
  case atStart => exact ⟨0, ks, es, clock, rfl, Nat.zero_le _, by rw [List.take_zero, filed_nil]; exact T1, (by intro s; simp), hrp1, hbx0, hbx1, own1, hBb1, Nat.le_refl _⟩
  case round =>
    obtain ⟨k, ks', es', clock', rfl, hk, T, HK, hrpr, hb0, hb1, hown, hnx, hsz⟩ := hrel
    clear T1 hrp1 hbx0 hbx1 own1 hBb1
    by_cases hlt : k < fs.length
    · have hc : wr.cell? ⟨A, k, none⟩ = some (.string fs[k]) := (hown.cellAt k (by omega)).trans (by simp [hlt])
      have hts := hfz fs[k] (List.getElem_mem hlt)
      have HF : Hid (filed M (fs.take (k + 1)) (f, l) = upd (filed M (fs.take k) (f, l)) fs[k] (filed M (fs.take k) (f, l) fs[k] ++ [(f, l)])) := filed_step M fs (f, l) k hlt
      have HK' : Hid (∀ s, s ∈ fs.take (k + 1) ↔ s ∈ fs.take k ∨ s = fs[k]) := mem_take_succ fs k hlt
      obtain ⟨t, ht⟩ : ∃ t, t = fs[k] := ⟨_, rfl⟩
      rw [← ht] at hc hts HF HK'
      obtain ⟨M', hM'⟩ : ∃ M', M' = filed M (fs.take k) (f, l) := ⟨_, rfl⟩
      rw [← hM'] at T HF
      have htm : t.size ≤ maxLen := by unfold maxLen; omega
      obtain ⟨v, hlook, hvo, hvx, hvno⟩ := T.look htm
      have hvl := T.len t
      have hbw := (Array.getElem?_eq_some_iff.1 T.heap).1
      have hl0 := hlook wr T.heap
      have hl0d := hlook wr.drew T.heap
      have hl0dd := hlook wr.drew.drew T.heap
      have hl1 : ∀ o, (Instr.lookup 42 (.map (some b)) (.string t) false).run Try.prog (wr.alloc o) = .ok v (wr.alloc o) := fun o => hlook _ ((Below.heap_alloc _ _ _ hbw).trans T.heap)
      have hl1d : ∀ o, (Instr.lookup 42 (.map (some b)) (.string t) false).run Try.prog (wr.alloc o).drew = .ok v (wr.alloc o).drew := fun o => hlook _ ((Below.heap_alloc _ _ _ hbw).trans T.heap)
      have hl1dd : ∀ o, (Instr.lookup 42 (.map (some b)) (.string t) false).run Try.prog (wr.alloc o).drew.drew = .ok v (wr.alloc o).drew.drew := fun o => hlook _ ((Below.heap_alloc _ _ _ hbw).trans T.heap)
      clear hlook ht hM'
      have n1 := World.new_ne wr ⟨rp, 13, none⟩ hrpr
      have n2 := World.new_ne wr ⟨w.heap.size, 0, none⟩ hb0
      have n3 := World.new_ne wr ⟨w.heap.size, 1, none⟩ hb1
      go_wp2_with fail
      have hNo : ¬ (wr.heap.size + 1 = A ∨ wr.heap.size + 1 = w.heap.size) := by omega
      have hvr : ∀ g, v.ownBlock = some g → g ≠ rp ∧ g ≠ w.heap.size := fun g hg => ⟨fun e => by have := (hvo.lt g hg).1; omega, fun e => hvno g hg (.inr e)⟩
      have e1 : some rp ≠ v.ownBlock := fun e => (hvr rp e.symm).1 rfl
      have e2 : some w.heap.size ≠ v.ownBlock := fun e => (hvr _ e.symm).2 rfl
      have e3 : some rp ≠ some b := fun e => hrb (Option.some.inj e)
      have e4 : some w.heap.size ≠ some b := fun e => by have := Option.some.inj e; omega
      have hrl : rp < wr.heap.size := by omega
      have hwl : w.heap.size < wr.heap.size := by omega
      have hnk : n + k + 1 ≤ 2000000 := by omega
      clear hvr
      go_region_held3 (fun w' => w'.cell? ⟨rp, 13, none⟩ = some (.map (some b)) ∧ w'.cell? ⟨w.heap.size, 0, none⟩ = some (.int .i32 f) ∧ w'.cell? ⟨w.heap.size, 1, none⟩ = some (.int .i32 l))
        (first
          | exact ⟨(hg4.cell_far _ (by have := hg3.size; simp; omega) e3).trans ((hg3.cell_far _ (by simp; omega) e1).trans hrpr), (hg4.cell_far _ (by have := hg3.size; simp; omega) e4).trans ((hg3.cell_far _ (by simp; omega) e2).trans hb0), (hg4.cell_far _ (by have := hg3.size; simp; omega) e4).trans ((hg3.cell_far _ (by simp; omega) e2).trans hb1)⟩
          | exact ⟨(hg3.cell_far _ (by simp; omega) e1).trans hrpr, (hg3.cell_far _ (by simp; omega) e2).trans hb0, (hg3.cell_far _ (by simp; omega) e2).trans hb1⟩
          | go_keep)
        ((refine step_append_lies _ (by rfl) _ _ _ (by rfl) B 62 i0 _ 2 8 Try.underlying50 hi hz0 hz1 hz2 rfl (by omega) v (M' t).length (prs (M' t)) (by rfl) ((hvo.alloc _).drew)
            ⟨wr.heap.size, 0, none⟩ 1 1 [.int .i32 f, .int .i32 l] (by rfl) (by rfl) (World.news_of_block (cs := #[.int .i32 f, .int .i32 l]) (t := 62) (fr := (0, 0)) (heap_alloc_new wr _)) (by simp [Value.oneCell'])
            (by omega) (by unfold maxLen; omega) (by omega) (by simp; omega) (wr.heap.size + 1) (by simp) ?_
          intro g cap w3 hown3 hgrow hat hlt3
          obtain ⟨w4, es4, clock4, ks4, hrun, HK4, T4, hg4, hg3⟩ := store_after T htm (by unfold maxLen; omega) hvo hvx hvno hgrow hown3 hat hNo))
      all_goals
        go_wp2
        go_roundw
        case rel =>
          have s3 := hg3.size
          have s4 := hg4.size
          refine ⟨k + 1, ks4, es4, clock4, by go_num, by omega, by rw [HF.out]; exact T4, fun s => (HK4.out s).trans ?_, ?_, ?_, ?_, ?_, ?_, by omega⟩
          · rw [HK.out s, HK'.out s, or_assoc]
          · exact (hg4.cell_far _ (by simp; omega) e3).trans ((hg3.cell_far _ (by simp; omega) e1).trans hrpr)
          · exact (hg4.cell_far _ (by simp; omega) e4).trans ((hg3.cell_far _ (by simp; omega) e2).trans hb0)
          · exact (hg4.cell_far _ (by simp; omega) e4).trans ((hg3.cell_far _ (by simp; omega) e2).trans hb1)
          · exact (hown.kept hg3 (.inr (fun e => hvno A e.symm (.inl rfl)))).kept hg4 (.inr (fun e => by have h : A = b := Option.some.inj e; omega))
          · exact (hnx.grown hg3 (by omega) (fun j hj => by have := (hvo.lt j hj).1; omega)).grown hg4 (by omega) (fun j hj => by cases hj; exact Nat.le_refl _)
        case measure => simp [intOf]; omega
    · obtain rfl : k = fs.length := by omega
      rw [List.take_of_length_le (Nat.le_refl _)] at T HK
      go_wp2
      go_end0
      exact ⟨rfl, ks', es', clock', T.reno _ (fun g h => h.elim), HK.out, hrpr, hnx⟩
end Go.Proofs.Qxb6609203a
