/-
  THE JOINED DATA, READERS APART, what zzAll got, the row 'want' (no walk of the law here).
-/
import Derived.Test.Qxb6613793aDoorR17
import Derived.Test.Qxb6613793aDoorR18
set_option linter.unusedVariables false
set_option linter.unusedSimpArgs false
namespace Go.Proofs.Qxb6613793aDoor
open Go.RowKit

theorem Handed.below {w w' : World} {a0 : Option Addr} {n c : Nat} {l : List Int} (h : Handed w a0 n c l) (hb : Below w.heap.size w w') : Handed w' a0 n c l := by
  refine ⟨h.1, h.2.1, ?_⟩
  rcases h.2.2 with h | ⟨x, hx, hc⟩
  · exact .inl h
  · exact .inr ⟨x, hx, fun i hi => (hb.cell (cell_lt (hc i hi))).trans (hc i hi)⟩

/-- 'append(v, d...)' where it fits. -/
theorem app_fit (B : Nat) (w : World) (g n cap : Nat) (xs : List Int) (hown : w.ownsRow B 5 1 (.slice (some ⟨g, 0, none⟩) n cap) n (xs.map (Value.int .u8))) (ao : Option Addr) (m : Nat) (ys : List Int) (hm : m = ys.length) (hao : (ao = none ∧ ys = []) ∨ ∃ D, ao = some ⟨D, 0, none⟩) (hd : Dat ao m ys w) (hroom : n + m ≤ cap) :
    ∃ w', (Builtin.append_ #[22, 22] 22 #[.slice (some ⟨g, 0, none⟩) n cap, .slice ao m m]).run Tryd.prog w = .ok (.slice (some ⟨g, 0, none⟩) (n + m) cap) w' ∧
      w'.ownsRow B 5 1 (.slice (some ⟨g, 0, none⟩) (n + m) cap) (n + m) ((xs ++ ys).map (Value.int .u8)) ∧ w.grownBy w' (some g) := by
  obtain ⟨i, hi, he⟩ := Option.map_eq_some_iff.1 info5
  obtain ⟨hs, hby⟩ := Prod.mk.inj he
  rcases hao with ⟨rfl, rfl⟩ | ⟨D, rfl⟩
  · obtain rfl : m = 0 := hm
    refine ⟨w, run_append_owned_none w B 22 22 5 i 1 Tryd.underlying22 hi _ _ _ hown, by rw [List.append_nil]; exact hown, ⟨rfl, rfl, rfl, Nat.le_refl _, fun _ _ _ => rfl⟩⟩
  · obtain ⟨w', h1, h2, h3⟩ := run_append_fits (P := Tryd.prog) w B 22 22 5 i 1 Tryd.underlying22 hi hs g n cap _ hown ⟨D, 0, none⟩ m m (ys.map (Value.int .u8)) (by simp [hm])
      (fun j u hj => by
        rw [List.getElem?_map] at hj
        have hjl : j < ys.length := by
          rcases Nat.lt_or_ge j ys.length with h | h
          · exact h
          · rw [List.getElem?_eq_none h] at hj; cases hj
        have ha : (⟨D, 0, none⟩ : Addr).add j = ⟨D, j, none⟩ := by unfold Addr.add; split <;> simp_all
        rw [ha, hd.dat D rfl j hjl]
        rw [List.getElem?_eq_getElem hjl] at hj
        simp only [Option.map_some, Option.some.injEq] at hj
        rw [← hj]
        simp [List.getD, List.getElem?_eq_getElem hjl]) (fun u hu => by obtain ⟨_, _, rfl⟩ := List.mem_map.1 hu; rfl) hroom
    exact ⟨w', h1, by rw [List.map_append]; exact h2, h3⟩

/-- 'make', and the two appends. -/
theorem joined (w : World) (ao0 ao1 : Option Addr) (n0 n1 n2 : Nat) (hn2 : n2 = n0 + n1) (l0 l1 : List Int) (hn0 : n0 = l0.length) (hn1 : n1 = l1.length) (hb0 : n0 ≤ 524288) (hb1 : n1 ≤ 524288)
    (hao0 : (ao0 = none ∧ l0 = []) ∨ ∃ D, ao0 = some ⟨D, 0, none⟩) (hao1 : (ao1 = none ∧ l1 = []) ∨ ∃ D, ao1 = some ⟨D, 0, none⟩) (hd0 : Dat ao0 n0 l0 w) (hd1 : Dat ao1 n1 l1 w) :
    ∃ g W0 W1 W2, (Instr.makeSlice 22 (.int .i64 0) (.int .i64 ((n0 : Int) + (n1 : Int)))).run Tryd.prog w = .ok (.slice (some ⟨g, 0, none⟩) 0 n2) W0 ∧
      (Builtin.append_ #[22, 22] 22 #[.slice (some ⟨g, 0, none⟩) 0 n2, .slice ao0 n0 n0]).run Tryd.prog W0 = .ok (.slice (some ⟨g, 0, none⟩) n0 n2) W1 ∧
      (Builtin.append_ #[22, 22] 22 #[.slice (some ⟨g, 0, none⟩) n0 n2, .slice ao1 n1 n1]).run Tryd.prog W1 = .ok (.slice (some ⟨g, 0, none⟩) n2 n2) W2 ∧
      Dat (some ⟨g, 0, none⟩) n2 (l0 ++ l1) W2 ∧ Below w.heap.size w W2 := by
  subst hn2
  obtain ⟨i, hi, he⟩ := Option.map_eq_some_iff.1 info5
  obtain ⟨hs, hby⟩ := Prod.mk.inj he
  have hz : i.zero = some (.int .u8 0) := by have := info5z; rw [hi] at this; exact this
  obtain ⟨W0, hr0, ho0, hg0⟩ := run_make_own (P := Tryd.prog) w w.heap.size 22 5 i _ 1 Tryd.underlying22 hi hz hs .i64 .i64 (n0 + n1) (by rw [hby]; omega) (by unfold maxLen; omega) (Nat.le_refl _)
  have hb0' : Below w.heap.size w W0 := (Below.refl _ w).grown hg0 (Nat.le_refl _) (fun k hk => by cases hk)
  obtain ⟨W1, hr1, ho1, hg1⟩ := app_fit w.heap.size W0 w.heap.size 0 (n0 + n1) [] ho0 ao0 n0 l0 hn0 hao0 (hd0.below hb0') (by omega)
  have hb1' : Below w.heap.size w W1 := hb0'.grown hg1 hb0'.size (fun k hk => by cases hk; exact Nat.le_refl _)
  rw [Nat.zero_add] at hr1 ho1
  rw [List.nil_append] at ho1
  obtain ⟨W2, hr2, ho2, hg2⟩ := app_fit w.heap.size W1 w.heap.size n0 (n0 + n1) l0 ho1 ao1 n1 l1 hn1 hao1 (hd1.below hb1') (Nat.le_refl _)
  have hb2' : Below w.heap.size w W2 := hb1'.grown hg2 hb1'.size (fun k hk => by cases hk; exact Nat.le_refl _)
  refine ⟨w.heap.size, W0, W1, W2, by rw [← Int.natCast_add]; exact hr0, hr1, hr2, ⟨fun x hx => ?_, by rw [List.length_append]; omega, by rw [List.length_append]; omega, by omega, fun _ => ⟨_, rfl⟩, fun a ha => ?_, fun D hD j hj => ?_⟩, hb2'⟩
  · rcases List.mem_append.1 hx with h | h
    · exact hd0.byt x h
    · exact hd1.byt x h
  · cases ha; exact (ho2.lt _ rfl).2
  · obtain rfl : w.heap.size = D := by simpa using hD
    rw [ho2.cellAt j (by rw [List.length_append] at hj; omega), List.getElem?_map, List.getElem?_eq_getElem hj]
    simp [List.getD, List.getElem?_eq_getElem hj]

/-- A reader at its beginning: what it may change lies in [lo, hi); what it leans on lies under B. -/
structure Rd (p : Pm) (Q : Nat) (l : List Int) (lo hi B : Nat) (w : World) : Prop where
  ok : p.Ok
  rs : RS p Q w (.slice none 0 0) false 0
  pl : p.l = l
  ft : ∀ b, foot0 p Q b → lo ≤ b ∧ b < hi
  rl : ∀ b, p.rely b → b < B

theorem Rd.kept {p : Pm} {Q : Nat} {l : List Int} {lo hi B : Nat} {w w' : World} {F : Nat → Prop} (h : Rd p Q l lo hi B w) (hc : Chg F w w') (h1 : ∀ b, lo ≤ b → b < hi → ¬ F b) (h2 : ∀ b, b < B → ¬ F b) : Rd p Q l lo hi B w' :=
  ⟨h.ok, h.rs.kept hc (fun b hb => by
    rcases foot_of0 hb with h9 | h9
    · exact h1 b (h.ft b h9).1 (h.ft b h9).2
    · cases h9) (fun b hb => h2 b (h.rl b hb)), h.pl, h.ft, h.rl⟩

theorem newRd (ao : Option Addr) (n : Nat) (z : Int) (l : List Int) (aE aF : Addr) (w0 w : World) (hn : n = l.length) (hz1 : -9223372036854775808 ≤ z) (hz2 : z ≤ 65536) (he : Env aE aF w0) (hd : Dat ao n l w0) (hb : Below w0.heap.size w0 w) :
    Calls Tryd.prog 18 #[.slice ao n n, .int .i64 z] w fun e w' => ∃ p Q, e = .returned (.pointer (some ⟨Q, 0, none⟩)) ∧ Rd p Q l w.heap.size w'.heap.size w0.heap.size w' ∧ Below w.heap.size w w' := by
  refine (newReader_all ao n n z l aE aF w hn hz1 hz2 (he.below hb) (hd.below hb)).mono ?_
  rintro e w' ⟨Q, hQ, rfl, hok, hrs, hb'⟩
  refine ⟨_, Q, rfl, ⟨hok, hrs, rfl, fun b hb => ⟨?_, hrs.foot_lt b hb⟩, ?_⟩, hb'⟩
  · rcases hb with h | rfl
    · exact fresh_own w z ao n l aE aF b h
    · omega
  · rintro b (rfl | rfl | rfl | rfl | hx)
    · exact cell_lt he.eF
    · exact cell_lt he.eE
    · obtain ⟨_, _, k⟩ := he.hE; exact heap_lt k
    · obtain ⟨_, _, k⟩ := he.hF; exact heap_lt k
    · cases ao with
      | none => cases hx
      | some a => obtain rfl : a.block = b := by simpa [fresh] using hx
                  exact hd.lt a rfl

/-- What zzAll got: a row of lines, all above lo. -/
structure Got (w : World) (lo : Nat) (v : Value) (vs : List Value) (rs : List (List Int)) : Prop where
  own : w.ownsRow lo 22 1 v vs.length vs
  lns : Lns w vs rs
  blk : ∀ x ∈ vs, ∀ g, x.ownBlock = some g → lo ≤ g

theorem Got.kept {w w' : World} {lo : Nat} {v : Value} {vs : List Value} {rs : List (List Int)} {F : Nat → Prop} (h : Got w lo v vs rs) (hc : Chg F w w') (hF : ∀ b, lo ≤ b → b < w.heap.size → ¬ F b) : Got w' lo v vs rs :=
  ⟨hc.own h.own (fun g hg => hF g (h.own.lt g hg).1 (h.own.lt g hg).2), h.lns.kept hc (fun x hx g hg => by
    obtain ⟨g', h1, h2⟩ := h.lns.blk x hx
    obtain rfl : g' = g := Option.some.inj (h1.symm.trans hg)
    exact hF g' (h.blk x hx g' hg) h2), h.blk⟩
theorem Got.len {w : World} {lo : Nat} {v : Value} {vs : List Value} {rs : List (List Int)} (h : Got w lo v vs rs) : vs.length = rs.length := h.lns.1
theorem Got.below {w w' : World} {lo : Nat} {v : Value} {vs : List Value} {rs : List (List Int)} (h : Got w lo v vs rs) (hb : Below w.heap.size w w') : Got w' lo v vs rs := h.kept (F := NoB) (Chg.of_below hb) (fun _ _ _ h => h)

theorem cntR_le (l : List Int) : cntR l ≤ l.length := by
  have h1 := recs_cuts l l.length 0 (Nat.le_refl _)
  have h2 := cuts_len l l.length 0 (Nat.le_refl _)
  have h3 := congrArg List.length h1
  rw [List.drop_zero, recsR_len, linesAt, List.length_map] at h3
  omega

theorem allRd (p : Pm) (Q : Nat) (l : List Int) (lo hi B : Nat) (w : World) (h : Rd p Q l lo hi B w) (lm : Int) (hlm : lm = ((l.length + 2 : Nat) : Int)) :
    Calls Tryd.prog 19 #[.pointer (some ⟨Q, 0, none⟩), .int .i64 lm] w fun e w' => ∃ av nv cv vs, e = .returned (.tuple #[.slice av nv cv, .bool true]) ∧ nv = cntR l ∧ Got w' w.heap.size (.slice av nv cv) vs (recsR l) ∧ Chg (fun b => lo ≤ b ∧ b < hi) w w' := by
  subst hlm
  have hln := h.ok.ln
  rw [h.pl] at hln
  refine (all_reads p h.ok Q w h.rs (l.length + 2) (by rw [h.pl]; omega) (by omega)).mono ?_
  rintro e w' ⟨v, vs, rfl, h1, h2, h3, h4⟩
  rw [h.pl] at h2
  obtain ⟨a, c, rfl⟩ := own_len h1
  exact ⟨a, _, c, vs, rfl, by rw [h2.1, recsR_len], ⟨h1, h2, h3⟩, h4.mono (fun b _ hb => h.ft b hb)⟩

/-- The row 'want'. -/
structure Want (w9 wr : World) (v : Value) (xs : List Value) : Prop where
  own : wr.ownsRow w9.heap.size 22 1 v xs.length xs
  bel : Below w9.heap.size w9 wr

theorem Want.step {w9 wr : World} {v : Value} {xs : List Value} (h : Want w9 wr v xs) (x : Value) (hx : x.oneCell' = true) (hn : xs.length ≤ 2000000) :
    ∃ a l c w', (Builtin.append_ #[33, 33] 33 #[v, .slice (some ⟨wr.heap.size, 0, none⟩) 1 1]).run Tryd.prog (wr.alloc (.cells #[x] 22)) = .ok (.slice a l c) w' ∧ Want w9 w' (.slice a l c) (xs ++ [x]) ∧ Chg (fun b => v.ownBlock = some b) wr w' ∧
      ∀ b, (.slice a l c : Value).ownBlock = some b → v.ownBlock = some b ∨ wr.heap.size ≤ b := by
  obtain ⟨a, l, c, w', hrun, hown, hgr, hbk⟩ := app1 33 22 24 _ Tryd.underlying33 info22 rfl (Nat.le_refl _) w9.heap.size wr h.bel.size v xs.length xs h.own x hx hn
  refine ⟨a, l, c, w', hrun, ⟨by rw [List.length_append]; exact hown, (h.bel.alloc h.bel.size _).grown hgr (by have := h.bel.size; simp; omega) (fun j hj => (h.own.lt j hj).1)⟩, ((Chg.refl _ wr).alloc _).grown hgr (fun j hj => .inl hj), fun b hb => ?_⟩
  rcases hbk with e | e
  · exact .inl (e.symm.trans hb)
  · exact .inr (by have := Option.some.inj (e.symm.trans hb); omega)

theorem app22B (B : Nat) (w : World) (v : Value) (n : Nat) (xs : List Int) (hB : B ≤ w.heap.size) (hown : w.ownsRow B 5 1 v n (xs.map (Value.int .u8))) (hvn : v ≠ .slice none 0 0) (y : Value) (ys : List Int) (hl : Line w y ys) (hb : n + ys.length ≤ 4000000) :
    ∃ v' w', (Builtin.append_ #[22, 22] 22 #[v, y]).run Tryd.prog w = .ok v' w' ∧ w'.ownsRow B 5 1 v' (n + ys.length) ((xs ++ ys).map (Value.int .u8)) ∧ w.grownBy w' v.ownBlock ∧ v' ≠ .slice none 0 0 ∧ (v'.ownBlock = v.ownBlock ∨ v'.ownBlock = some w.heap.size) := by
  obtain ⟨i, hi, he⟩ := Option.map_eq_some_iff.1 info5
  obtain ⟨hs, hby⟩ := Prod.mk.inj he
  have hz : i.zero = some (.int .u8 0) := by have := info5z; rw [hi] at this; exact this
  obtain ⟨g, o, c, rfl, h1, h2, h4⟩ := hl
  obtain ⟨v', w', hr, h5, h6, h8, h7⟩ := run_append_own_at (P := Tryd.prog) w B 22 22 5 i (.int .u8 0) 1 1 Tryd.underlying22 hi hz hs hby rfl (by decide) v n (xs.map (Value.int .u8)) hown ⟨g, o, none⟩ ys.length c (ys.map (Value.int .u8)) (by simp)
    (fun j u hj => by
      rw [List.getElem?_map] at hj
      have hjl : j < ys.length := by
        rcases Nat.lt_or_ge j ys.length with h | h
        · exact h
        · rw [List.getElem?_eq_none h] at hj; cases hj
      rw [addr_add, h4 j hjl]
      rw [List.getElem?_eq_getElem hjl] at hj
      simp only [Option.map_some, Option.some.injEq] at hj
      rw [← hj]
      simp [List.getD, List.getElem?_eq_getElem hjl]) (fun u hu => by obtain ⟨_, _, rfl⟩ := List.mem_map.1 hu; rfl) (by simp only [maxLen]; omega) (by omega) hB
  exact ⟨v', w', hr, by rw [List.map_append]; exact h5, h6, fun e => hvn (h8.1 e).1, h7⟩

/-- The last line of the one and the first of the other made one, and filed. -/
theorem Want.join {w9 wr w10 : World} {u : Value} {xs : List Value} (h : Want w9 wr u xs) (hn : xs.length ≤ 2000000) (X Y : List Int) (nx : Nat) (ho : w10.ownsRow wr.heap.size 5 1 (.slice (some ⟨wr.heap.size, 0, none⟩) nx nx) nx (X.map (Value.int .u8))) (hb : Below wr.heap.size wr w10) (y : Value) (hy : Line w9 y Y) (hl : nx + Y.length ≤ 4000000) :
    ∃ a1 l1 c1 w11 a l c w12, (Builtin.append_ #[22, 22] 22 #[.slice (some ⟨wr.heap.size, 0, none⟩) nx nx, y]).run Tryd.prog w10 = .ok (.slice a1 l1 c1) w11 ∧
      (Builtin.append_ #[33, 33] 33 #[u, .slice (some ⟨w11.heap.size, 0, none⟩) 1 1]).run Tryd.prog (w11.alloc (.cells #[.slice a1 l1 c1] 22)) = .ok (.slice a l c) w12 ∧
      Want w9 w12 (.slice a l c) (xs ++ [.slice a1 l1 c1]) ∧ Line w12 (.slice a1 l1 c1) (X ++ Y) ∧ (∀ g, (.slice a1 l1 c1 : Value).ownBlock = some g → (.slice a l c : Value).ownBlock ≠ some g) := by
  have s1 := h.bel.size
  have s2 := hb.size
  have hyr : Line wr y Y := hy.kept (F := NoB) (Chg.of_below h.bel) (fun _ _ h => h)
  have hy10 : Line w10 y Y := hyr.kept (F := NoB) (Chg.of_below hb) (fun _ _ h => h)
  obtain ⟨J, w11, hr1, ho1, hg1, hn1, hbk1⟩ := app22B wr.heap.size w10 _ nx X s2 ho (fun e => by cases e) y Y hy10 hl
  obtain ⟨a1, l1, c1, rfl⟩ := own_slice ho1
  have hC11 : Chg (fun b => b = wr.heap.size) w10 w11 := (Chg.refl _ w10).grown hg1 (fun j hj => .inl (Option.some.inj hj).symm)
  have s3 := hC11.size
  have hbr : Below wr.heap.size wr w11 := hb.trans (hC11.below s2 (fun k hk e => by omega))
  have hu : ∀ g, u.ownBlock = some g → w9.heap.size ≤ g ∧ g < wr.heap.size := fun g hg => h.own.lt g hg
  have hW : Want w9 w11 u xs := ⟨(Chg.of_below (F := NoB) hbr).own h.own (fun _ _ h => h), h.bel.trans (hbr.mono s1)⟩
  obtain ⟨a, l, c, w12, hr2, hW2, hC2, hnew⟩ := hW.step (.slice a1 l1 c1) rfl hn
  have hJ : Line w11 (.slice a1 l1 c1) (X ++ Y) := own_line ho1 hn1
  have hJb : ∀ g, (.slice a1 l1 c1 : Value).ownBlock = some g → wr.heap.size ≤ g ∧ g < w11.heap.size := fun g hg => ho1.lt g hg
  refine ⟨a1, l1, c1, w11, a, l, c, w12, hr1, hr2, hW2, hJ.kept hC2 (fun g hg e => ?_), fun g hg e => ?_⟩
  · have := (hu g e).2; have := (hJb g hg).1; omega
  · have h1 := hJb g hg
    rcases hnew g e with h2 | h2
    · have := (hu g h2).2; omega
    · omega

theorem line_one {w : World} {v : Value} {r : List Int} (h : Line w v r) : v.oneCell' = true := by
  obtain ⟨g, o, c, rfl, _⟩ := h
  rfl

/-- Row k of what zzAll got, as memory shows it. -/
theorem Got.cell {w w' : World} {lo : Nat} {av : Option Addr} {n c : Nat} {vs : List Value} {rs : List (List Int)} (h : Got w lo (.slice av n c) vs rs) (hb : Below w.heap.size w w') (k : Nat) (hk : k < n) :
    ∃ g x, av = some ⟨g, 0, none⟩ ∧ vs[k]? = some x ∧ w'.cell? ⟨g, k, none⟩ = some x ∧ Line w x (rs.getD k []) := by
  have hn : vs.length = n := by
    obtain ⟨a, c', e⟩ := own_len h.own
    simp at e; omega
  obtain ⟨g, cap, e, hg, hc⟩ := row_at h.own (by omega)
  obtain ⟨x, hx, hl⟩ := h.lns.at k (by rw [← h.lns.1]; omega)
  obtain ⟨rfl, _⟩ : av = some ⟨g, 0, none⟩ ∧ True := by simp at e; exact ⟨e.1, trivial⟩
  exact ⟨g, x, rfl, hx, (hb.cell (p := ⟨g, k, none⟩) hg).trans (hc k x hx), hl⟩
end Go.Proofs.Qxb6613793aDoor
