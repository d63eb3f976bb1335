/-
  THE WALK of (*record.Reader).Next (38).
-/
import Derived.Test.Qxb6613793aDoorR6
import Derived.Maps.AppendAt
set_option linter.unusedVariables false
set_option linter.unusedSimpArgs false
namespace Go.Proofs.Qxb6613793aDoor
open Go.RowKit

theorem info5 : (Tryd.prog.info? 5).map (fun i => (i.size, i.bytes)) = some (1, 1) := by kernel_rfl
theorem info5z : (Tryd.prog.info? 5).bind (·.zero) = some (.int .u8 0) := by kernel_rfl

/-- A slice value that is not nil, and its bytes. -/
def Line (w : World) (v : Value) (xs : List Int) : Prop :=
  ∃ g o c, v = .slice (some ⟨g, o, none⟩) xs.length c ∧ xs.length ≤ c ∧ g < w.heap.size ∧ ∀ i, i < xs.length → w.cell? ⟨g, o + i, none⟩ = some (.int .u8 (xs.getD i 0))
theorem RowIn.line {w : World} {g : Nat} {v : Value} {xs : List Int} (h : RowIn w g v xs) : Line w v xs := let ⟨o, c, h1, h2, h3, h4, h5⟩ := h; ⟨g, o, c, h1, h2, h4, h5⟩

theorem own_slice {w : World} {B e s n : Nat} {v : Value} {xs : List Value} (h : w.ownsRow B e s v n xs) : ∃ a l c, v = .slice a l c := by
  rcases h.2 with ⟨rfl, _⟩ | ⟨g, cap, _, rfl, _⟩
  · exact ⟨_, _, _, rfl⟩
  · exact ⟨_, _, _, rfl⟩

/-- 'append(v, y...)' of bytes. -/
theorem app22 (w : World) (v : Value) (n : Nat) (xs : List Int) (hown : w.ownsRow 0 5 1 v n (xs.map (Value.int .u8))) (g o c : Nat) (ys : List Int) (m : Nat) (hm : m = ys.length) (hrow : RowIn w g (.slice (some ⟨g, o, none⟩) m c) ys) (hb : n + m ≤ 4000000) :
    ∃ v' w', (Builtin.append_ #[22, 22] 22 #[v, .slice (some ⟨g, o, none⟩) m c]).run Tryd.prog w = .ok v' w' ∧ w'.ownsRow 0 5 1 v' (n + m) ((xs ++ ys).map (Value.int .u8)) ∧ w.grownBy w' v.ownBlock ∧ (v'.ownBlock = v.ownBlock ∨ v'.ownBlock = some w.heap.size) := by
  obtain ⟨i, hi, he⟩ := Option.map_eq_some_iff.1 info5
  obtain ⟨hs, hby⟩ := Prod.mk.inj he
  have hz : i.zero = some (.int .u8 0) := by have := info5z; rw [hi] at this; exact this
  obtain ⟨o', c', e, h1, h2, h3, h4⟩ := hrow
  obtain ⟨ho, -, rfl⟩ : o = o' ∧ m = ys.length ∧ c = c' := by simpa using e
  subst ho
  obtain ⟨v', w', hr, h5, h6, _, h7⟩ := run_append_own_at (P := Tryd.prog) w 0 22 22 5 i (.int .u8 0) 1 1 Tryd.underlying22 hi hz hs hby rfl (by decide) v n (xs.map (Value.int .u8)) hown ⟨g, o, none⟩ m c (ys.map (Value.int .u8)) (by simp [hm])
    (fun j u hj => by
      rw [List.getElem?_map] at hj
      have hjl : j < ys.length := by
        rcases Nat.lt_or_ge j ys.length with h | h
        · exact h
        · rw [List.getElem?_eq_none h] at hj; cases hj
      have ha : (⟨g, o, none⟩ : Addr).add j = ⟨g, o + j, none⟩ := by unfold Addr.add; split <;> simp_all
      rw [ha, h4 j hjl]
      rw [List.getElem?_eq_getElem hjl] at hj
      simp only [Option.map_some, Option.some.injEq] at hj
      rw [← hj]
      simp [List.getD, List.getElem?_eq_getElem hjl]) (fun u hu => by obtain ⟨_, _, rfl⟩ := List.mem_map.1 hu; rfl) (by simp only [maxLen]; omega) (by omega) (Nat.zero_le _)
  exact ⟨v', w', hr, by rw [List.map_append]; exact h5, h6, h7⟩

/-- An append whose run is known. -/
theorem wpList_run_append {P : Program} {w w' : World} {ops : Array Oper} {rest : List Oper} {o : Oper} {a : Act} {Q : Exit → Act → World → Prop} (hgd : o.guard = none) (s x : Operand) (t : TypeId) (ho : o.op = .call { callee := .builtin .append, args := #[s, x], argTypes := #[t, t] })
    (v y v' : Value) (hs : a.eval s = v) (hx : a.eval x = y) (hr : (Builtin.append_ #[t, t] o.type #[v, y]).run P w = .ok v' w') (h : wpList P ops Q rest (a.put o.dst v') w') : wpList P ops Q (o :: rest) a w :=
  wpList_plain hgd fun _ hK => by
    unfold Oper.wp execOp
    simp only [ho, resolve, invoke, builtin, Sem.run_bind, Sem.run_pure, Result.andThen_ok, List.map_toArray, List.map_cons, List.map_nil, hs, hx, hr]
    exact hK _ _ h

/-- 'r.long = v'', the row v' having grown out of the old one. -/
theorem RS.longer {p : Pm} {Q : Nat} {w w2 : World} {long v' : Value} {rest : Bool} {pos : Nat} (h : RS p Q w long rest pos) (hg : w.grownBy w2 long.ownBlock) {n : Nat} {xs : List Value} (ho : w2.ownsRow 0 5 1 v' n xs) (hv : v'.ownBlock = long.ownBlock ∨ v'.ownBlock = some w.heap.size) :
    RS p Q (w2.setCell ⟨Q, 1, none⟩ v') v' rest pos ∧ (w2.setCell ⟨Q, 1, none⟩ v').ownsRow 0 5 1 v' n xs ∧ Chg (foot p Q long) w (w2.setCell ⟨Q, 1, none⟩ v') := by
  have hc1 : Chg (fun b => long.ownBlock = some b) w w2 := (Chg.refl _ w).grown hg (fun k hk => .inl hk)
  have hc2 : Chg (fun b => b = Q) w2 (w2.setCell ⟨Q, 1, none⟩ v') := (Chg.refl (fun b => b = Q) w2).setCell (p := ⟨Q, 1, none⟩) (.inl rfl) _
  obtain ⟨⟨st, hq⟩, ⟨r, wv, hb⟩, hs, _, h1, h2, h3⟩ := h
  have hq2 : w2.heap[Q]? = some (.cells (Qcells p.R long st pos rest) 55 (0, 0)) := (hc1.block Q (heap_lt hq) (fun e => (h3 Q e).2.1 rfl)).trans hq
  have hlo : ∀ g, v'.ownBlock = some g → ¬ p.own g ∧ g ≠ Q ∧ ¬ p.rely g := by
    intro g hg'
    rcases hv with e | e
    · exact h3 g (e ▸ hg')
    · obtain rfl : w.heap.size = g := Option.some.inj (e.symm.trans hg')
      refine ⟨fun hw => ?_, fun e => ?_, fun hw => Nat.lt_irrefl _ (hs.lt _ hw)⟩
      · obtain ⟨_, _, _, _, b1, b2, b3, _⟩ := hb
        rcases hw with e | e | e
        · rw [← e] at b1; exact Nat.lt_irrefl _ (heap_lt b1)
        · rw [← e] at b2; exact Nat.lt_irrefl _ (heap_lt b2)
        · rw [← e] at b3; exact Nat.lt_irrefl _ (heap_lt b3)
      · rw [← e] at hq; exact Nat.lt_irrefl _ (heap_lt hq)
  have ho3 := hc2.own ho (fun k hk => (hlo k hk).2.1)
  refine ⟨⟨⟨st, (heap_setCell_same w2 Q 1 _ 55 _ hq2).trans (by simp [Qcells])⟩, ⟨r, wv, (hb.kept hc1 (fun b hb e => (h3 b e).1 hb)).kept hc2 (fun b hb e => h1 (e ▸ hb))⟩, (hs.kept hc1 (fun b hb e => (h3 b e).2.2 hb)).kept hc2 (fun b hb e => h2 (e ▸ hb)), ⟨n, xs, ho3⟩, h1, h2, hlo⟩, ho3, ?_⟩
  exact (hc1.mono (G := foot p Q long) (fun _ _ h => .inr (.inr h))).trans hc2 (fun _ _ h => .inr (.inl h))

set_option maxRecDepth 100000 in
set_option maxHeartbeats 1000000 in
theorem next_none (p : Pm) (hp : p.Ok) (Q : Nat) (w : World) (long : Value) (pos : Nat) (h : RS p Q w long false pos) (hf : p.l.drop pos = []) :
    Calls Tryd.prog 38 #[.pointer (some ⟨Q, 0, none⟩)] w fun e w' => e = .returned (.tuple #[.slice none 0 0, .iface 91 (.pointer (some p.aE))]) ∧ RS p Q w' long false pos ∧ Chg (foot p Q long) w w' := by
  have H36 := hide (head_none p hp Q w long pos h hf)
  clear h hf
  go_enter Tryd.func38, Tryd.ntmps38
  go_wp2_with (go_at_call 36; go_must (refine H36.out.mono ?_; rintro e w' ⟨rfl, hrs, hC⟩; clear H36))
  go_ret2
  exact ⟨rfl, hrs, hC.mono (fun _ _ h => h.elim .inl (fun h => .inr (.inl h)))⟩

set_option maxRecDepth 100000 in
set_option maxHeartbeats 1000000 in
theorem next_short (p : Pm) (hp : p.Ok) (Q : Nat) (w : World) (long : Value) (pos : Nat) (h : RS p Q w long false pos) (hf : (p.l.drop pos).idxOf 10 < p.eff) (hne : 0 < (p.l.drop pos).length) :
    Calls Tryd.prog 38 #[.pointer (some ⟨Q, 0, none⟩)] w fun e w' => ∃ v, e = .returned (.tuple #[v, .nilIface]) ∧ RowIn w' p.U v ((p.l.drop pos).take ((p.l.drop pos).idxOf 10)) ∧ RS p Q w' long false (pos + min ((p.l.drop pos).idxOf 10 + 1) (p.l.drop pos).length) ∧ Chg (foot p Q long) w w' := by
  have H36 := hide (head_last p hp Q w long pos h hf hne)
  clear h hf hne
  go_enter Tryd.func38, Tryd.ntmps38
  go_wp2_with (go_at_call 36; go_must (refine H36.out.mono ?_; rintro e w' ⟨v, rfl, hrow, hrs, hC⟩; clear H36))
  go_ret2
  exact ⟨_, rfl, hrow, hrs, hC.mono (fun _ _ h => h.elim .inl (fun h => .inr (.inl h)))⟩

set_option maxRecDepth 100000 in
set_option maxHeartbeats 4000000 in
theorem next_long_nil (p : Pm) (hp : p.Ok) (Q : Nat) (w : World) (pos : Nat) (h : RS p Q w (.slice none 0 0) false pos) (hf : p.eff ≤ (p.l.drop pos).idxOf 10) :
    Calls Tryd.prog 38 #[.pointer (some ⟨Q, 0, none⟩)] w fun e w' => ∃ v long', e = .returned (.tuple #[v, .nilIface]) ∧ Line w' v ((p.l.drop pos).take ((p.l.drop pos).idxOf 10)) ∧ RS p Q w' long' false (pos + min ((p.l.drop pos).idxOf 10 + 1) (p.l.drop pos).length) ∧ Chg (foot p Q (.slice none 0 0)) w w' ∧
      (∀ g, long'.ownBlock = some g → ((.slice none 0 0) : Value).ownBlock = some g ∨ w.heap.size ≤ g) := by
  have h36 := head_full p hp Q w (.slice none 0 0) pos h hf
  have hh1 := idx_le (p.l.drop pos)
  have hdl : (p.l.drop pos).length = p.l.length - pos := by simp
  have hln := hp.ln
  have h16 := hp.e16
  obtain ⟨X, hX⟩ : ∃ x, x = p.l.drop pos := ⟨_, rfl⟩
  rw [← hX] at h36 hf hh1 hdl ⊢
  obtain ⟨LF, hLF⟩ : ∃ n, n = X.idxOf 10 := ⟨_, rfl⟩
  rw [← hLF] at hf hh1 ⊢
  have hpe : (X.take p.eff).length = p.eff := by simp; omega
  have HDL := hide hdl
  clear hdl
  have H36 := hide h36
  have HX := hide hX
  have HLF := hide hLF
  have HH := hide h
  clear h36 hX hLF h
  go_enter Tryd.func38, Tryd.ntmps38
  go_wp2_with (first | (at_builtin; go_must (refine wpList_run_append rfl _ _ 22 rfl _ _ _ rfl rfl HRUN.out ?_)) | (go_at_call 36; go_must (
        refine H36.out.mono ?_
        rintro e w1 ⟨v, rfl, hrow, hrs1, hC1⟩
        obtain ⟨st, hq1⟩ := hrs1.q
        have c1 : w1.cell? ⟨Q, 1, none⟩ = some (.slice none 0 0) := heap_of_cell hq1 1
        have hrow2 := hrow
        obtain ⟨o, cc, rfl, -, -, -, -⟩ := hrow
        rw [hpe] at hrow2
        have hown0 : w1.ownsRow 0 5 1 (.slice none 0 0) 0 (([] : List Int).map (Value.int .u8)) := ⟨rfl, .inl ⟨rfl, rfl⟩⟩
        obtain ⟨v', w2, hrun, hown, hgr, hvb⟩ := app22 w1 (.slice none 0 0) 0 [] hown0 p.U o cc (X.take p.eff) p.eff hpe.symm hrow2 (by have := hp.big; omega)
        obtain ⟨va, vl, vc, rfl⟩ := own_slice hown
        have hq2 : w2.heap[Q]? = some (.cells (Qcells p.R (.slice none 0 0) st (pos + p.eff) true) 55 (0, 0)) := (hgr.block Q (heap_lt hq1) (fun e => (hrs1.lo Q e.symm).2.1 rfl)).trans hq1
        have c1' : w2.cell? ⟨Q, 1, none⟩ = some (.slice none 0 0) := heap_of_cell hq2 1
        have f1 : w2.frozen? ⟨Q, 1, none⟩ = false := heap_frozen hq2 1
        obtain ⟨hrs2, hown2, hC2⟩ := hrs1.longer (v' := .slice va vl vc) hgr hown hvb
        have HRS2 := hide hrs2
        have HOWN2 := hide hown2
        have HC2 := hide hC2
        have HRUN := hide hrun
        clear hrun
        rw [hpe]
        clear H36 hrs2 hown2 hC2 hown hown0 hq1 hq2)))
  go_loopg [] (LF + 1) (fun gk wr => ∃ (m : Nat) (lc : Value) (fl : Bool) (ps : Nat), RS p Q wr lc fl ps ∧ wr.ownsRow 0 5 1 lc m ((X.take m).map (Value.int .u8)) ∧ 0 < m ∧ m ≤ LF ∧ (fl = true → ps = pos + m ∧ LF - m + 1 ≤ gk) ∧ (fl = false → m = LF ∧ ps = pos + min (LF + 1) X.length) ∧
      Chg (foot p Q (.slice none 0 0)) w wr ∧ (∀ g, lc.ownBlock = some g → ((.slice none 0 0) : Value).ownBlock = some g ∨ w.heap.size ≤ g))
  case atStart =>
    have e0 : 0 + p.eff = p.eff := Nat.zero_add _
    refine ⟨p.eff, .slice va vl vc, true, pos + p.eff, HRS2.out, by have := HOWN2.out; rw [e0, List.nil_append] at this; exact this, by omega, by omega, fun _ => ⟨rfl, by omega⟩, (fun e => by cases e), ?_, fun g hg => ?_⟩
    · exact (hC1.mono (G := foot p Q (.slice none 0 0)) (fun _ _ h => h.elim .inl (fun h => .inr (.inl h)))).trans HC2.out (fun _ _ h => h)
    · rcases hvb with e | e
      · exact .inl (e ▸ hg)
      · right
        have := Option.some.inj (e.symm.trans hg)
        have := hC1.size
        omega
  case round =>
    obtain ⟨m, lc, fl, ps, hrs, hown, hm0, hmL, hfl1, hfl2, hC, hlc⟩ := hrel
    obtain ⟨st3, hq3⟩ := hrs.q
    have d4 : wr.cell? ⟨Q, 4, none⟩ = some (.bool fl) := heap_of_cell hq3 4
    have d1 : wr.cell? ⟨Q, 1, none⟩ = some lc := heap_of_cell hq3 1
    have hcmp : ∀ b, b < w.heap.size → foot p Q lc b → foot p Q (.slice none 0 0) b := fun b hb hf => by
      rcases hf with h | h | h
      · exact .inl h
      · exact .inr (.inl h)
      · rcases hlc b h with h1 | h1
        · exact .inr (.inr h1)
        · omega
    cases fl with
    | false =>
      obtain ⟨rfl, rfl⟩ := hfl2 rfl
      clear hq3
      go_wp2_with fail
      go_ret2
      suffices hra : Line wr lc (X.take m) by first | exact ⟨lc, lc, rfl, hra, hrs, hC, hlc⟩ | exact ⟨lc, rfl, hra, lc, hrs, hC, hlc⟩
      have hlen : (X.take m).length = m := by simp; omega
      rcases hown.2 with ⟨_, e⟩ | ⟨g, cap, cur, rfl, _, hg, hnc, hcm, hsz, hcur⟩
      · omega
      · refine ⟨g, 0, cap, by rw [hlen], by rw [hlen]; exact hnc, heap_lt hg, fun i hi => ?_⟩
        rw [heap_of_cell hg]
        have hi2 : i < m := by omega
        have h1 := congrArg (fun l => l[i]?) hcur
        simp only [Nat.mul_one, List.getElem?_take_of_lt hi2, List.getElem?_map] at h1
        rw [Nat.zero_add, ← Array.getElem?_toList, h1]
        simp only [List.getD, List.getElem?_take_of_lt hi2]
        rw [List.getElem?_eq_getElem (by omega)]
        rfl
    | true =>
      obtain ⟨rfl, hgk⟩ := hfl1 rfl
      have hdd : p.l.drop (pos + m) = X.drop m := by rw [HX.out, List.drop_drop]
      have hid : (X.drop m).idxOf 10 = LF - m := by rw [idxOf_drop X m (by rw [← HLF.out]; exact hmL), ← HLF.out]
      have key : ∃ (PC : List Int) (fl' : Bool) (ps' : Nat), PC.length ≤ LF - m ∧ X.take (m + PC.length) = X.take m ++ PC ∧ (fl' = true → ps' = pos + (m + PC.length) ∧ PC.length = p.eff) ∧ (fl' = false → PC.length = LF - m ∧ ps' = pos + min (LF + 1) X.length) ∧
          Calls Tryd.prog 39 #[.pointer (some ⟨Q, 0, none⟩)] wr fun e w' => ∃ v, e = .returned (.tuple #[v, .nilIface]) ∧ RowIn w' p.U v PC ∧ RS p Q w' lc fl' ps' ∧ Chg (foot0 p Q) wr w' := by
        by_cases hfu : p.eff ≤ LF - m
        · have hpl : ((X.drop m).take p.eff).length = p.eff := by simp; omega
          refine ⟨(X.drop m).take p.eff, true, pos + m + p.eff, by omega, by rw [hpl, List.take_add], fun _ => ⟨by omega, hpl⟩, (fun e => by cases e), ?_⟩
          have := nextPiece_full p hp Q wr lc true (pos + m) hrs (by rw [hdd, hid]; exact hfu)
          rw [hdd] at this
          exact this
        · have hpl : ((X.drop m).take (LF - m)).length = LF - m := by simp; omega
          refine ⟨(X.drop m).take (LF - m), false, pos + m + min (LF - m + 1) (X.drop m).length, by omega, by rw [hpl, List.take_add], (fun e => by cases e), fun _ => ⟨hpl, by simp; omega⟩, ?_⟩
          have := nextPiece_last p hp Q wr lc true (pos + m) hrs (by rw [hdd, hid]; omega)
          rw [hdd, hid] at this
          exact this
      obtain ⟨PC, fl', ps', hpc1, hpc2, hpc3, hpc4, h39⟩ := key
      obtain ⟨np, hnp⟩ : ∃ n, n = PC.length := ⟨_, rfl⟩
      have H39 := hide h39
      have HN := hide hnp
      clear h39 hq3 hnp
      go_wp2_with (first | (at_builtin; go_must (refine wpList_run_append rfl _ _ 22 rfl _ _ _ rfl rfl HRUN5.out ?_)) | (go_at_call 39; go_must (
        refine H39.out.mono ?_
        rintro e w4 ⟨vp, rfl, hrow4, hrs4, hC4⟩
        obtain ⟨st4, hq4⟩ := hrs4.q
        have k1 : w4.cell? ⟨Q, 1, none⟩ = some lc := heap_of_cell hq4 1
        have hown4 : w4.ownsRow 0 5 1 lc m ((X.take m).map (Value.int .u8)) := hC4.own hown (fun k hk h => h.elim (hrs.lo k hk).1 (hrs.lo k hk).2.1)
        have hrow4' := hrow4
        obtain ⟨o4, c4, rfl, -, -, -, -⟩ := hrow4
        rw [← HN.out] at hrow4' ⊢
        obtain ⟨v5, w5, hrun5, hown5, hgr5, hvb5⟩ := app22 w4 lc m (X.take m) hown4 p.U o4 c4 PC np HN.out hrow4' (by have := HN.out; have := HDL.out; omega)
        obtain ⟨va5, vl5, vc5, rfl⟩ := own_slice hown5
        have hq5 : w5.heap[Q]? = some (.cells (Qcells p.R lc st4 ps' fl') 55 (0, 0)) := (hgr5.block Q (heap_lt hq4) (fun e => (hrs4.lo Q e.symm).2.1 rfl)).trans hq4
        have k1' : w5.cell? ⟨Q, 1, none⟩ = some lc := heap_of_cell hq5 1
        have f5 : w5.frozen? ⟨Q, 1, none⟩ = false := heap_frozen hq5 1
        obtain ⟨hrs5, hown6, hC5⟩ := hrs4.longer (v' := .slice va5 vl5 vc5) hgr5 hown5 hvb5
        have HRS5 := hide hrs5
        have HOWN5 := hide hown6
        have HC5 := hide hC5
        have HRUN5 := hide hrun5
        clear hrun5
        clear H39 hrs5 hown6 hC5 hown5 hown4 hq4 hq5)))
      have hnp := HN.out
      have hCC : Chg (foot p Q (.slice none 0 0)) w (w5.setCell ⟨Q, 1, none⟩ (.slice va5 vl5 vc5)) := (hC.trans (hC4.mono (G := foot p Q lc) (fun _ _ h => h.elim .inl (fun h => .inr (.inl h)))) hcmp).trans HC5.out hcmp
      have hown7 : (w5.setCell ⟨Q, 1, none⟩ (.slice va5 vl5 vc5)).ownsRow 0 5 1 (.slice va5 vl5 vc5) (m + np) ((X.take (m + np)).map (Value.int .u8)) := by have := HOWN5.out; rw [hnp, hpc2, ← hnp]; exact this
      have hnew : ∀ g, (.slice va5 vl5 vc5 : Value).ownBlock = some g → ((.slice none 0 0) : Value).ownBlock = some g ∨ w.heap.size ≤ g := fun g hg => by
        rcases hvb5 with e | e
        · exact hlc g (e ▸ hg)
        · right
          have h1 := Option.some.inj (e.symm.trans hg)
          have h2 := hC.size
          have h3 := hC4.size
          omega
      cases fl' with
      | true =>
        obtain ⟨hp1, hp2⟩ := hpc3 rfl
        go_roundg (LF - (m + np) + 1)
        case measure => omega
        case rel => exact ⟨m + np, .slice va5 vl5 vc5, true, ps', HRS5.out, hown7, by omega, by omega, fun _ => ⟨by omega, Nat.le_refl _⟩, (fun e => by cases e), hCC, hnew⟩
      | false =>
        obtain ⟨hp1, hp2⟩ := hpc4 rfl
        go_roundg 0
        case measure => omega
        case rel => exact ⟨m + np, .slice va5 vl5 vc5, false, ps', HRS5.out, hown7, by omega, by omega, (fun e => by cases e), fun _ => ⟨by omega, hp2⟩, hCC, hnew⟩

set_option maxRecDepth 100000 in
set_option maxHeartbeats 4000000 in
theorem next_long_some (p : Pm) (hp : p.Ok) (Q : Nat) (w : World) (g0 n0 cap0 : Nat) (pos : Nat) (h : RS p Q w (.slice (some ⟨g0, 0, none⟩) n0 cap0) false pos) (hf : p.eff ≤ (p.l.drop pos).idxOf 10) :
    Calls Tryd.prog 38 #[.pointer (some ⟨Q, 0, none⟩)] w fun e w' => ∃ v long', e = .returned (.tuple #[v, .nilIface]) ∧ Line w' v ((p.l.drop pos).take ((p.l.drop pos).idxOf 10)) ∧ RS p Q w' long' false (pos + min ((p.l.drop pos).idxOf 10 + 1) (p.l.drop pos).length) ∧ Chg (foot p Q (.slice (some ⟨g0, 0, none⟩) n0 cap0)) w w' ∧
      (∀ g, long'.ownBlock = some g → ((.slice (some ⟨g0, 0, none⟩) n0 cap0) : Value).ownBlock = some g ∨ w.heap.size ≤ g) := by
  have h36 := head_full p hp Q w (.slice (some ⟨g0, 0, none⟩) n0 cap0) pos h hf
  have hh1 := idx_le (p.l.drop pos)
  have hdl : (p.l.drop pos).length = p.l.length - pos := by simp
  have hln := hp.ln
  have h16 := hp.e16
  obtain ⟨X, hX⟩ : ∃ x, x = p.l.drop pos := ⟨_, rfl⟩
  rw [← hX] at h36 hf hh1 hdl ⊢
  obtain ⟨LF, hLF⟩ : ∃ n, n = X.idxOf 10 := ⟨_, rfl⟩
  rw [← hLF] at hf hh1 ⊢
  have hpe : (X.take p.eff).length = p.eff := by simp; omega
  have HDL := hide hdl
  clear hdl
  have H36 := hide h36
  have HX := hide hX
  have HLF := hide hLF
  have HH := hide h
  clear h36 hX hLF h
  go_enter Tryd.func38, Tryd.ntmps38
  go_wp2_with (first | (at_builtin; go_must (refine wpList_run_append rfl _ _ 22 rfl _ _ _ rfl rfl HRUN.out ?_)) | (go_at_call 36; go_must (
        refine H36.out.mono ?_
        rintro e w1 ⟨v, rfl, hrow, hrs1, hC1⟩
        obtain ⟨st, hq1⟩ := hrs1.q
        have c1 : w1.cell? ⟨Q, 1, none⟩ = some (.slice (some ⟨g0, 0, none⟩) n0 cap0) := heap_of_cell hq1 1
        have hrow2 := hrow
        obtain ⟨o, cc, rfl, -, -, -, -⟩ := hrow
        rw [hpe] at hrow2
        have hown0 : w1.ownsRow 0 5 1 (.slice (some ⟨g0, 0, none⟩) 0 cap0) 0 (([] : List Int).map (Value.int .u8)) := by
          obtain ⟨n1, xs1, ho1⟩ := hrs1.o
          rcases ho1.2 with ⟨e, _⟩ | ⟨g, cap, cur, e, hb, hg, hnc, hcm, hsz, _⟩
          · cases e
          · obtain ⟨rfl, rfl, rfl⟩ : g0 = g ∧ n0 = n1 ∧ cap0 = cap := by simpa using e
            exact ⟨rfl, .inr ⟨g0, cap0, cur, rfl, Nat.zero_le _, hg, Nat.zero_le _, hcm, hsz, by simp⟩⟩
        obtain ⟨v', w2, hrun, hown, hgr, hvb⟩ := app22 w1 (.slice (some ⟨g0, 0, none⟩) 0 cap0) 0 [] hown0 p.U o cc (X.take p.eff) p.eff hpe.symm hrow2 (by have := hp.big; omega)
        obtain ⟨va, vl, vc, rfl⟩ := own_slice hown
        have hq2 : w2.heap[Q]? = some (.cells (Qcells p.R (.slice (some ⟨g0, 0, none⟩) n0 cap0) st (pos + p.eff) true) 55 (0, 0)) := (hgr.block Q (heap_lt hq1) (fun e => (hrs1.lo Q e.symm).2.1 rfl)).trans hq1
        have c1' : w2.cell? ⟨Q, 1, none⟩ = some (.slice (some ⟨g0, 0, none⟩) n0 cap0) := heap_of_cell hq2 1
        have f1 : w2.frozen? ⟨Q, 1, none⟩ = false := heap_frozen hq2 1
        obtain ⟨hrs2, hown2, hC2⟩ := hrs1.longer (v' := .slice va vl vc) hgr hown hvb
        have HRS2 := hide hrs2
        have HOWN2 := hide hown2
        have HC2 := hide hC2
        have HRUN := hide hrun
        clear hrun
        rw [hpe]
        have hn0 : (0 : Int) ≤ (cap0 : Int) := Int.natCast_nonneg _
        clear H36 hrs2 hown2 hC2 hown hown0 hq1 hq2)))
  go_loopg [] (LF + 1) (fun gk wr => ∃ (m : Nat) (lc : Value) (fl : Bool) (ps : Nat), RS p Q wr lc fl ps ∧ wr.ownsRow 0 5 1 lc m ((X.take m).map (Value.int .u8)) ∧ 0 < m ∧ m ≤ LF ∧ (fl = true → ps = pos + m ∧ LF - m + 1 ≤ gk) ∧ (fl = false → m = LF ∧ ps = pos + min (LF + 1) X.length) ∧
      Chg (foot p Q (.slice (some ⟨g0, 0, none⟩) n0 cap0)) w wr ∧ (∀ g, lc.ownBlock = some g → ((.slice (some ⟨g0, 0, none⟩) n0 cap0) : Value).ownBlock = some g ∨ w.heap.size ≤ g))
  case atStart =>
    have e0 : 0 + p.eff = p.eff := Nat.zero_add _
    refine ⟨p.eff, .slice va vl vc, true, pos + p.eff, HRS2.out, by have := HOWN2.out; rw [e0, List.nil_append] at this; exact this, by omega, by omega, fun _ => ⟨rfl, by omega⟩, (fun e => by cases e), ?_, fun g hg => ?_⟩
    · exact (hC1.mono (G := foot p Q (.slice (some ⟨g0, 0, none⟩) n0 cap0)) (fun _ _ h => h.elim .inl (fun h => .inr (.inl h)))).trans HC2.out (fun _ _ h => h)
    · rcases hvb with e | e
      · exact .inl (e ▸ hg)
      · right
        have := Option.some.inj (e.symm.trans hg)
        have := hC1.size
        omega
  case round =>
    obtain ⟨m, lc, fl, ps, hrs, hown, hm0, hmL, hfl1, hfl2, hC, hlc⟩ := hrel
    obtain ⟨st3, hq3⟩ := hrs.q
    have d4 : wr.cell? ⟨Q, 4, none⟩ = some (.bool fl) := heap_of_cell hq3 4
    have d1 : wr.cell? ⟨Q, 1, none⟩ = some lc := heap_of_cell hq3 1
    have hcmp : ∀ b, b < w.heap.size → foot p Q lc b → foot p Q (.slice (some ⟨g0, 0, none⟩) n0 cap0) b := fun b hb hf => by
      rcases hf with h | h | h
      · exact .inl h
      · exact .inr (.inl h)
      · rcases hlc b h with h1 | h1
        · exact .inr (.inr h1)
        · omega
    cases fl with
    | false =>
      obtain ⟨rfl, rfl⟩ := hfl2 rfl
      clear hq3
      go_wp2_with fail
      go_ret2
      suffices hra : Line wr lc (X.take m) by first | exact ⟨lc, lc, rfl, hra, hrs, hC, hlc⟩ | exact ⟨lc, rfl, hra, lc, hrs, hC, hlc⟩
      have hlen : (X.take m).length = m := by simp; omega
      rcases hown.2 with ⟨_, e⟩ | ⟨g, cap, cur, rfl, _, hg, hnc, hcm, hsz, hcur⟩
      · omega
      · refine ⟨g, 0, cap, by rw [hlen], by rw [hlen]; exact hnc, heap_lt hg, fun i hi => ?_⟩
        rw [heap_of_cell hg]
        have hi2 : i < m := by omega
        have h1 := congrArg (fun l => l[i]?) hcur
        simp only [Nat.mul_one, List.getElem?_take_of_lt hi2, List.getElem?_map] at h1
        rw [Nat.zero_add, ← Array.getElem?_toList, h1]
        simp only [List.getD, List.getElem?_take_of_lt hi2]
        rw [List.getElem?_eq_getElem (by omega)]
        rfl
    | true =>
      obtain ⟨rfl, hgk⟩ := hfl1 rfl
      have hdd : p.l.drop (pos + m) = X.drop m := by rw [HX.out, List.drop_drop]
      have hid : (X.drop m).idxOf 10 = LF - m := by rw [idxOf_drop X m (by rw [← HLF.out]; exact hmL), ← HLF.out]
      have key : ∃ (PC : List Int) (fl' : Bool) (ps' : Nat), PC.length ≤ LF - m ∧ X.take (m + PC.length) = X.take m ++ PC ∧ (fl' = true → ps' = pos + (m + PC.length) ∧ PC.length = p.eff) ∧ (fl' = false → PC.length = LF - m ∧ ps' = pos + min (LF + 1) X.length) ∧
          Calls Tryd.prog 39 #[.pointer (some ⟨Q, 0, none⟩)] wr fun e w' => ∃ v, e = .returned (.tuple #[v, .nilIface]) ∧ RowIn w' p.U v PC ∧ RS p Q w' lc fl' ps' ∧ Chg (foot0 p Q) wr w' := by
        by_cases hfu : p.eff ≤ LF - m
        · have hpl : ((X.drop m).take p.eff).length = p.eff := by simp; omega
          refine ⟨(X.drop m).take p.eff, true, pos + m + p.eff, by omega, by rw [hpl, List.take_add], fun _ => ⟨by omega, hpl⟩, (fun e => by cases e), ?_⟩
          have := nextPiece_full p hp Q wr lc true (pos + m) hrs (by rw [hdd, hid]; exact hfu)
          rw [hdd] at this
          exact this
        · have hpl : ((X.drop m).take (LF - m)).length = LF - m := by simp; omega
          refine ⟨(X.drop m).take (LF - m), false, pos + m + min (LF - m + 1) (X.drop m).length, by omega, by rw [hpl, List.take_add], (fun e => by cases e), fun _ => ⟨hpl, by simp; omega⟩, ?_⟩
          have := nextPiece_last p hp Q wr lc true (pos + m) hrs (by rw [hdd, hid]; omega)
          rw [hdd, hid] at this
          exact this
      obtain ⟨PC, fl', ps', hpc1, hpc2, hpc3, hpc4, h39⟩ := key
      obtain ⟨np, hnp⟩ : ∃ n, n = PC.length := ⟨_, rfl⟩
      have H39 := hide h39
      have HN := hide hnp
      clear h39 hq3 hnp
      go_wp2_with (first | (at_builtin; go_must (refine wpList_run_append rfl _ _ 22 rfl _ _ _ rfl rfl HRUN5.out ?_)) | (go_at_call 39; go_must (
        refine H39.out.mono ?_
        rintro e w4 ⟨vp, rfl, hrow4, hrs4, hC4⟩
        obtain ⟨st4, hq4⟩ := hrs4.q
        have k1 : w4.cell? ⟨Q, 1, none⟩ = some lc := heap_of_cell hq4 1
        have hown4 : w4.ownsRow 0 5 1 lc m ((X.take m).map (Value.int .u8)) := hC4.own hown (fun k hk h => h.elim (hrs.lo k hk).1 (hrs.lo k hk).2.1)
        have hrow4' := hrow4
        obtain ⟨o4, c4, rfl, -, -, -, -⟩ := hrow4
        rw [← HN.out] at hrow4' ⊢
        obtain ⟨v5, w5, hrun5, hown5, hgr5, hvb5⟩ := app22 w4 lc m (X.take m) hown4 p.U o4 c4 PC np HN.out hrow4' (by have := HN.out; have := HDL.out; omega)
        obtain ⟨va5, vl5, vc5, rfl⟩ := own_slice hown5
        have hq5 : w5.heap[Q]? = some (.cells (Qcells p.R lc st4 ps' fl') 55 (0, 0)) := (hgr5.block Q (heap_lt hq4) (fun e => (hrs4.lo Q e.symm).2.1 rfl)).trans hq4
        have k1' : w5.cell? ⟨Q, 1, none⟩ = some lc := heap_of_cell hq5 1
        have f5 : w5.frozen? ⟨Q, 1, none⟩ = false := heap_frozen hq5 1
        obtain ⟨hrs5, hown6, hC5⟩ := hrs4.longer (v' := .slice va5 vl5 vc5) hgr5 hown5 hvb5
        have HRS5 := hide hrs5
        have HOWN5 := hide hown6
        have HC5 := hide hC5
        have HRUN5 := hide hrun5
        clear hrun5
        clear H39 hrs5 hown6 hC5 hown5 hown4 hq4 hq5)))
      have hnp := HN.out
      have hCC : Chg (foot p Q (.slice (some ⟨g0, 0, none⟩) n0 cap0)) w (w5.setCell ⟨Q, 1, none⟩ (.slice va5 vl5 vc5)) := (hC.trans (hC4.mono (G := foot p Q lc) (fun _ _ h => h.elim .inl (fun h => .inr (.inl h)))) hcmp).trans HC5.out hcmp
      have hown7 : (w5.setCell ⟨Q, 1, none⟩ (.slice va5 vl5 vc5)).ownsRow 0 5 1 (.slice va5 vl5 vc5) (m + np) ((X.take (m + np)).map (Value.int .u8)) := by have := HOWN5.out; rw [hnp, hpc2, ← hnp]; exact this
      have hnew : ∀ g, (.slice va5 vl5 vc5 : Value).ownBlock = some g → ((.slice (some ⟨g0, 0, none⟩) n0 cap0) : Value).ownBlock = some g ∨ w.heap.size ≤ g := fun g hg => by
        rcases hvb5 with e | e
        · exact hlc g (e ▸ hg)
        · right
          have h1 := Option.some.inj (e.symm.trans hg)
          have h2 := hC.size
          have h3 := hC4.size
          omega
      cases fl' with
      | true =>
        obtain ⟨hp1, hp2⟩ := hpc3 rfl
        go_roundg (LF - (m + np) + 1)
        case measure => omega
        case rel => exact ⟨m + np, .slice va5 vl5 vc5, true, ps', HRS5.out, hown7, by omega, by omega, fun _ => ⟨by omega, Nat.le_refl _⟩, (fun e => by cases e), hCC, hnew⟩
      | false =>
        obtain ⟨hp1, hp2⟩ := hpc4 rfl
        go_roundg 0
        case measure => omega
        case rel => exact ⟨m + np, .slice va5 vl5 vc5, false, ps', HRS5.out, hown7, by omega, by omega, (fun e => by cases e), fun _ => ⟨by omega, hp2⟩, hCC, hnew⟩

/-- Next, where something is left: the next record. -/
theorem next_some (p : Pm) (hp : p.Ok) (Q : Nat) (w : World) (long : Value) (pos : Nat) (h : RS p Q w long false pos) (hne : 0 < (p.l.drop pos).length) :
    Calls Tryd.prog 38 #[.pointer (some ⟨Q, 0, none⟩)] w fun e w' => ∃ v long', e = .returned (.tuple #[v, .nilIface]) ∧ Line w' v ((p.l.drop pos).take ((p.l.drop pos).idxOf 10)) ∧ RS p Q w' long' false (pos + min ((p.l.drop pos).idxOf 10 + 1) (p.l.drop pos).length) ∧ Chg (foot p Q long) w w' ∧
      (∀ g, long'.ownBlock = some g → long.ownBlock = some g ∨ w.heap.size ≤ g) := by
  rcases Nat.lt_or_ge ((p.l.drop pos).idxOf 10) p.eff with hf | hf
  · refine (next_short p hp Q w long pos h hf hne).mono ?_
    rintro e w' ⟨v, rfl, h1, h2, h3⟩
    exact ⟨v, long, rfl, h1.line, h2, h3, fun g hg => .inl hg⟩
  · obtain ⟨n, xs, ho⟩ := h.o
    rcases ho.2 with ⟨rfl, _⟩ | ⟨g, cap, cur, rfl, _⟩
    · exact next_long_nil p hp Q w pos h hf
    · exact next_long_some p hp Q w g n cap pos h hf
end Go.Proofs.Qxb6613793aDoor
