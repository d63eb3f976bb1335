/-
  ROWS OF LINES, and the step of zzAll (no walk here).
-/
import Derived.Test.Qxb6613793aDoorR12
import Derived.Test.Qxb6613793aDoorP7
set_option linter.unusedVariables false
set_option linter.unusedSimpArgs false
namespace Go.Proofs.Qxb6613793aDoor
open Go.RowKit

/-- Values that are lines. -/
def Lns (w : World) (vs : List Value) (rs : List (List Int)) : Prop := vs.length = rs.length ∧ ∀ (k : Nat) (v : Value) (r : List Int), vs[k]? = some v → rs[k]? = some r → Line w v r

theorem Lns.nil (w : World) : Lns w [] [] := ⟨rfl, fun k v r h => by simp at h⟩
theorem Lns.append {w : World} {vs us : List Value} {rs ss : List (List Int)} (h : Lns w vs rs) (h2 : Lns w us ss) : Lns w (vs ++ us) (rs ++ ss) := by
  refine ⟨by rw [List.length_append, List.length_append, h.1, h2.1], fun k v r hv hr => ?_⟩
  rcases Nat.lt_or_ge k vs.length with hk | hk
  · rw [List.getElem?_append_left hk] at hv
    rw [List.getElem?_append_left (by rw [← h.1]; exact hk)] at hr
    exact h.2 k v r hv hr
  · rw [List.getElem?_append_right hk] at hv
    rw [List.getElem?_append_right (by rw [← h.1]; exact hk), ← h.1] at hr
    exact h2.2 _ v r hv hr
theorem Lns.one {w : World} {v : Value} {r : List Int} (h : Line w v r) : Lns w [v] [r] := by
  refine ⟨rfl, fun k v' r' hv hr => ?_⟩
  cases k with
  | zero => simp at hv hr; subst hv; subst hr; exact h
  | succ k => simp at hv
theorem Lns.take {w : World} {vs : List Value} {rs : List (List Int)} (h : Lns w vs rs) (m : Nat) : Lns w (vs.take m) (rs.take m) := by
  refine ⟨by simp [h.1], fun k v r hv hr => ?_⟩
  rcases Nat.lt_or_ge k m with hk | hk
  · rw [List.getElem?_take_of_lt hk] at hv hr
    exact h.2 k v r hv hr
  · rw [List.getElem?_eq_none (by simp; omega)] at hv
    cases hv
theorem Lns.drop {w : World} {vs : List Value} {rs : List (List Int)} (h : Lns w vs rs) (m : Nat) : Lns w (vs.drop m) (rs.drop m) := by
  refine ⟨by simp [h.1], fun k v r hv hr => ?_⟩
  rw [List.getElem?_drop] at hv hr
  exact h.2 _ v r hv hr
theorem Lns.at {w : World} {vs : List Value} {rs : List (List Int)} (h : Lns w vs rs) (k : Nat) (hk : k < rs.length) : ∃ v, vs[k]? = some v ∧ Line w v (rs.getD k []) := by
  have hk' : k < vs.length := by rw [h.1]; exact hk
  refine ⟨vs[k], List.getElem?_eq_getElem hk', h.2 k _ _ (List.getElem?_eq_getElem hk') ?_⟩
  simp [List.getD, List.getElem?_eq_getElem hk]
theorem Line.blk {w : World} {v : Value} {r : List Int} (h : Line w v r) : ∃ g, v.ownBlock = some g ∧ g < w.heap.size := by
  obtain ⟨g, o, c, rfl, _, hg, _⟩ := h
  exact ⟨g, rfl, hg⟩
theorem Lns.blk {w : World} {vs : List Value} {rs : List (List Int)} (h : Lns w vs rs) (v : Value) (hv : v ∈ vs) : ∃ g, v.ownBlock = some g ∧ g < w.heap.size := by
  obtain ⟨k, hk⟩ := List.mem_iff_getElem?.1 hv
  have hk1 : k < rs.length := by rw [← h.1]; exact (List.getElem?_eq_some_iff.1 hk).1
  exact (h.2 k v _ hk (List.getElem?_eq_getElem hk1)).blk
theorem Lns.kept {w w' : World} {vs : List Value} {rs : List (List Int)} {F : Nat → Prop} (h : Lns w vs rs) (hc : Chg F w w') (hF : ∀ v ∈ vs, ∀ g, v.ownBlock = some g → ¬ F g) : Lns w' vs rs :=
  ⟨h.1, fun k v r hv hr => (h.2 k v r hv hr).kept hc (hF v (List.mem_of_getElem? hv))⟩

/-- A row of bytes of one's own is a line. -/
theorem own_line {w : World} {B n : Nat} {v : Value} {xs : List Int} (h : w.ownsRow B 5 1 v n (xs.map (Value.int .u8))) (hne : v ≠ .slice none 0 0) : Line w v xs := by
  have hl := h.1
  rw [List.length_map, Nat.mul_one] at hl
  rcases h.2 with ⟨rfl, _⟩ | ⟨g, cap, cur, rfl, _, hg, _, hcap, hcs, hcur⟩
  · exact absurd rfl hne
  · rw [Nat.mul_one] at hcur
    refine ⟨g, 0, cap, by rw [hl], by omega, heap_lt hg, fun i hi => ?_⟩
    rw [Nat.zero_add, heap_of_cell hg, ← Array.getElem?_toList]
    have hi2 : i < n := by omega
    have h3 : (cur.toList.take n)[i]? = (xs.map (Value.int .u8))[i]? := by rw [hcur]
    rw [List.getElem?_take_of_lt hi2] at h3
    rw [h3, List.getElem?_map, List.getElem?_eq_getElem hi]
    simp [List.getD, List.getElem?_eq_getElem hi]
/-- What stands in zzAll after k rounds. -/
structure AllInv (p : Pm) (Q : Nat) (w0 wr : World) (out : Value) (k pos : Nat) (long : Value) (vs : List Value) (dn : List (Nat × Nat × Nat)) : Prop where
  cut : dn ++ cuts p.l pos = cuts p.l 0
  len : dn.length = k
  own : wr.ownsRow w0.heap.size 22 1 out k vs
  lns : Lns wr vs (linesAt p.l dn)
  rs : RS p Q wr long false pos
  vo : ∀ v ∈ vs, ∀ g, v.ownBlock = some g → w0.heap.size ≤ g ∧ ¬ foot p Q long g ∧ out.ownBlock ≠ some g
  oo : ∀ g, out.ownBlock = some g → ¬ foot p Q long g
  lo : ∀ g, long.ownBlock = some g → w0.heap.size ≤ g
  chg : Chg (foot0 p Q) w0 wr

theorem foot_of0 {p : Pm} {Q : Nat} {long : Value} {b : Nat} (h : foot p Q long b) : foot0 p Q b ∨ long.ownBlock = some b := by
  rcases h with h | h | h
  · exact .inl (.inl h)
  · exact .inl (.inr h)
  · exact .inr h
theorem foot0_to {p : Pm} {Q : Nat} {long : Value} {b : Nat} (h : foot0 p Q b) : foot p Q long b := by
  rcases h with h | h
  · exact .inl h
  · exact .inr (.inl h)

theorem AllInv.step {p : Pm} {Q : Nat} {w0 wr : World} {out : Value} {k pos : Nat} {long : Value} {vs : List Value} {dn : List (Nat × Nat × Nat)} (hI : AllInv p Q w0 wr out k pos long vs dn) (hrely : ∀ b, p.rely b → b < w0.heap.size) (hfo : ∀ b, foot0 p Q b → b < w0.heap.size) (hlt : pos < p.l.length) (hk : k ≤ 1048576)
    {w5 : World} {long5 : Value} (hrs5 : RS p Q w5 long5 false (nx p.l pos)) (hC5 : Chg (foot p Q long) wr w5) (hnew : ∀ g, long5.ownBlock = some g → long.ownBlock = some g ∨ wr.heap.size ≤ g)
    {w6 : World} {n : Nat} (ho6 : w6.ownsRow w5.heap.size 5 1 (.slice (some ⟨w5.heap.size, 0, none⟩) n n) n (((p.l.drop pos).take ((p.l.drop pos).idxOf 10)).map (Value.int .u8))) (hb6 : Below w5.heap.size w5 w6) :
    ∃ a l c w7, (Builtin.append_ #[33, 33] 33 #[out, .slice (some ⟨w6.heap.size, 0, none⟩) 1 1]).run Tryd.prog (w6.alloc (.cells #[.slice (some ⟨w5.heap.size, 0, none⟩) n n] 22)) = .ok (.slice a l c) w7 ∧
      AllInv p Q w0 w7 (.slice a l c) (k + 1) (nx p.l pos) long5 (vs ++ [.slice (some ⟨w5.heap.size, 0, none⟩) n n]) (dn ++ [(pos, pos + (p.l.drop pos).idxOf 10, nx p.l pos)]) := by
  obtain ⟨hcut, hlen, hown, hlns, hrs, hvo, hoo, hlo, hchg⟩ := hI
  have s0 := hchg.size
  have s1 := hC5.size
  have s2 := hb6.size
  have hN6 : Chg NoB w5 w6 := Chg.of_below hb6
  have hoL : ∀ g, out.ownBlock = some g → w0.heap.size ≤ g ∧ g < wr.heap.size := fun g hg => hown.lt g hg
  have hown6 : w6.ownsRow w0.heap.size 22 1 out k vs := hN6.own (hC5.own hown hoo) (fun _ _ h => h)
  obtain ⟨a, l, c, w7, hrun, hown7, hgr, hbk⟩ := app1 33 22 24 _ Tryd.underlying33 info22 rfl (Nat.le_refl _) w0.heap.size w6 (by omega) out k vs hown6 (.slice (some ⟨w5.heap.size, 0, none⟩) n n) rfl (by omega)
  have hC7 : Chg (fun b => out.ownBlock = some b) w6 w7 := ((Chg.refl _ w6).alloc _).grown hgr (fun j hj => .inl hj)
  have hcl6 : Line w6 (.slice (some ⟨w5.heap.size, 0, none⟩) n n) ((p.l.drop pos).take ((p.l.drop pos).idxOf 10)) := own_line ho6 (fun e => by cases e)
  have hcl7 := hcl6.kept hC7 (fun g hg ho => by obtain rfl : w5.heap.size = g := by simpa [Value.ownBlock] using hg
                                                have := (hoL _ ho).2; omega)
  have hs7 : w6.heap.size ≤ w7.heap.size := hC7.size
  have hf5 : ∀ b, foot p Q long5 b → foot p Q long b ∨ wr.heap.size ≤ b := by
    rintro b (h | h | h)
    · exact .inl (.inl h)
    · exact .inl (.inr (.inl h))
    · rcases hnew b h with h | h
      · exact .inl (.inr (.inr h))
      · exact .inr h
  have hf5u : ∀ b, foot p Q long5 b → b < w5.heap.size := by
    intro b hb
    rcases foot_of0 hb with h | h
    · have := hfo b h; omega
    · obtain ⟨n9, xs9, h9⟩ := hrs5.o
      exact (h9.lt b h).2
  have hline : linesAt p.l (dn ++ [(pos, pos + (p.l.drop pos).idxOf 10, nx p.l pos)]) = linesAt p.l dn ++ [(p.l.drop pos).take ((p.l.drop pos).idxOf 10)] := by
    unfold linesAt
    rw [List.map_append, List.map_cons, List.map_nil]
    rw [show pos + (p.l.drop pos).idxOf 10 - pos = (p.l.drop pos).idxOf 10 by omega]
  refine ⟨a, l, c, w7, hrun, ⟨?_, by simp [hlen], hown7, ?_, ?_, ?_, ?_, ?_, ?_⟩⟩
  · rw [List.append_assoc, List.singleton_append, ← cuts_cons p.l pos hlt, hcut]
  · rw [hline]
    refine Lns.append ?_ (Lns.one hcl7)
    exact ((hlns.kept hC5 (fun v hv g hg => (hvo v hv g hg).2.1)).kept hN6 (fun _ _ _ _ h => h)).kept hC7 (fun v hv g hg => (hvo v hv g hg).2.2)
  · refine (hrs5.kept hN6 (fun _ _ h => h) (fun _ _ h => h)).kept hC7 (fun b hb ho => ?_) (fun b hb ho => ?_)
    · rcases hf5 b hb with h | h
      · exact hoo b ho h
      · have := (hoL b ho).2; omega
    · have := hrely b hb; have := (hoL b ho).1; omega
  · intro v hv g hg
    rcases List.mem_append.1 hv with hv | hv
    · obtain ⟨h1, h2, h3⟩ := hvo v hv g hg
      obtain ⟨g', hg', hlt'⟩ := hlns.blk v hv
      obtain rfl : g = g' := Option.some.inj (hg.symm.trans hg')
      refine ⟨h1, fun h => ?_, fun h => ?_⟩
      · rcases hf5 g h with h | h
        · exact h2 h
        · omega
      · rcases hbk with e | e
        · exact h3 (e.symm.trans h)
        · have := Option.some.inj (e.symm.trans h); omega
    · obtain rfl : v = _ := List.mem_singleton.1 hv
      obtain rfl : w5.heap.size = g := by simpa [Value.ownBlock] using hg
      refine ⟨by omega, fun h => by have := hf5u _ h; omega, fun h => ?_⟩
      rcases hbk with e | e
      · have := (hoL _ (e.symm.trans h)).2; omega
      · have := Option.some.inj (e.symm.trans h)
        have := hcl6.blk
        obtain ⟨g9, h9, h10⟩ := this
        obtain rfl : w5.heap.size = g9 := by simpa [Value.ownBlock] using h9
        omega
  · intro g hg h
    rcases hbk with e | e
    · rcases hf5 g h with h | h
      · exact hoo g (e.symm.trans hg) h
      · have := (hoL g (e.symm.trans hg)).2; omega
    · have := Option.some.inj (e.symm.trans hg)
      have := hf5u g h
      omega
  · intro g hg
    rcases hnew g hg with h | h
    · exact hlo g h
    · omega
  · refine ((hchg.trans hC5 (fun j hj h => ?_)).trans hN6 (fun _ _ h => h.elim)).trans hC7 (fun j hj h => ?_)
    · rcases foot_of0 h with h | h
      · exact h
      · have := hlo j h; omega
    · have := (hoL j h).1; omega
end Go.Proofs.Qxb6613793aDoor
