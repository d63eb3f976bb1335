/-
  THE WALK of (*record.Reader).Head (36).
-/
import Derived.Test.Qxb6613793aDoorR5
set_option linter.unusedVariables false
set_option linter.unusedSimpArgs false
namespace Go.Proofs.Qxb6613793aDoor
open Go.RowKit

theorem eql_nil_left (a : Addr) (w : World) : (binOp .eql 50 .nilIface (.iface 91 (.pointer (some a)))).run Tryd.prog w = .ok (.bool false) w := run_eql_iface_nil_left (P := Tryd.prog) w 91 (.pointer (some a)) Tryd.underlying50

/-- 'r.start = r.read'. -/
theorem RS.start {p : Pm} {Q : Nat} {w : World} {long : Value} {rest : Bool} {pos : Nat} (h : RS p Q w long rest pos) (z : Int) :
    RS p Q (w.setCell ⟨Q, 2, none⟩ (.int .i64 z)) long rest pos ∧ Chg (fun k => k = Q) w (w.setCell ⟨Q, 2, none⟩ (.int .i64 z)) := by
  obtain ⟨st, hq⟩ := h.q
  have hc : Chg (fun k => k = Q) w (w.setCell ⟨Q, 2, none⟩ (.int .i64 z)) := (Chg.refl (fun k => k = Q) w).setCell (p := ⟨Q, 2, none⟩) (.inl rfl) _
  exact ⟨h.turn rest hc ⟨z, (heap_setCell_same w Q 2 _ 55 _ hq).trans (by simp [Qcells])⟩, hc⟩

/-- '[]byte("\n")' made: the row's mark. -/
theorem conv_lf0 (w : World) : (convert 22 22 (.slice (some ⟨w.heap.size, 0, none⟩) 1 1)).run Tryd.prog (w.alloc (.cells #[.int .u8 10] 5)) = .ok (.slice (some ⟨w.heap.size, 0, none⟩) 1 1) (w.alloc (.cells #[.int .u8 10] 5 (1, 2))) :=
  Lib.run_convert_bytes_const (P := Tryd.prog) w 22 5 #[.int .u8 10] 1 1 Tryd.underlying22 Tryd.underlying5
theorem trim42n (U : Nat) (w : World) (o n cc : Nat) (xs : List Int) (hrow : RowIn w U (.slice (some ⟨U, o, none⟩) n cc) xs) (hn : n ≤ 2000000) :
    Calls Tryd.prog 42 #[.slice (some ⟨U, o, none⟩) n cc, .slice (some ⟨w.heap.size, 0, none⟩) 1 1] (w.alloc (.cells #[.int .u8 10] 5 (1, 2))) fun e W => e = .returned (Lib.bytesTrimSuffix U o n cc xs [10]) ∧ W = w.alloc (.cells #[.int .u8 10] 5 (1, 2)) := by
  obtain ⟨o', c', e, h1, h2, h3, h4⟩ := hrow
  obtain ⟨ho, hnl, rfl⟩ : o = o' ∧ n = xs.length ∧ cc = c' := by simpa using e
  subst ho
  refine Tryd.bytes_TrimSuffix U o n cc w.heap.size 0 1 1 xs [10] _ hnl.symm rfl (by omega) (by omega) (fun i hi => ?_) (fun i hi => ?_)
  · exact (World.cell?_of_block (a := ⟨U, o + i, none⟩) (Below.heap_alloc _ _ U h3)).trans (h4 i (by omega))
  · obtain rfl : i = 0 := by omega
    exact cell_of_row _ w.heap.size 0 _ 5 (1, 2) (heap_alloc_new w (.cells #[.int .u8 10] 5 (1, 2)))

set_option maxRecDepth 100000 in
set_option maxHeartbeats 1000000 in
theorem head_full (p : Pm) (hp : p.Ok) (Q : Nat) (w : World) (long : Value) (pos : Nat) (h : RS p Q w long false pos) (hf : p.eff ≤ (p.l.drop pos).idxOf 10) :
    Calls Tryd.prog 36 #[.pointer (some ⟨Q, 0, none⟩)] w fun e w' => ∃ v, e = .returned (.tuple #[v, .bool false, .nilIface]) ∧ RowIn w' p.U v ((p.l.drop pos).take p.eff) ∧ RS p Q w' long true (pos + p.eff) ∧ Chg (foot0 p Q) w w' := by
  obtain ⟨st, hq⟩ := h.q
  have c4 : w.cell? ⟨Q, 4, none⟩ = some (.bool false) := heap_of_cell hq 4
  have c3 : w.cell? ⟨Q, 3, none⟩ = some (.int .i64 pos) := heap_of_cell hq 3
  have c2 : w.cell? ⟨Q, 2, none⟩ = some (.int .i64 st) := heap_of_cell hq 2
  have f2 : w.frozen? ⟨Q, 2, none⟩ = false := heap_frozen hq 2
  obtain ⟨hS, hCS⟩ := h.start (pos : Int)
  have h40 := readSlice_rec p hp Q _ long false pos hS
  rw [rs_full _ _ hf] at h40
  dsimp only [Pm.err] at h40
  have hl : ((p.l.drop pos).take p.eff).length = p.eff := by have := idx_le (p.l.drop pos); simp at this ⊢; omega
  rw [hl] at h40
  obtain ⟨PC, hPC⟩ : ∃ x, x = (p.l.drop pos).take p.eff := ⟨_, rfl⟩
  rw [← hPC] at h40 ⊢
  clear hf hl hPC
  have H40 := hide h40
  have HCS : Chg (foot0 p Q) w (w.setCell ⟨Q, 2, none⟩ (.int .i64 (pos : Int))) := hCS.mono (fun _ _ h => .inr h)
  clear h40 h hS hCS hq
  go_enter Tryd.func36, Tryd.ntmps36
  go_wp2_with fail
  refine wp_loop_rounds 1 ?_
  rw [rounds_succ]
  go_wp2_with (first
    | (go_at_call 40; go_must (
        refine H40.out.mono ?_
        rintro e w' ⟨v, rfl, hrow, hrs, hC0⟩
        have hC := HCS.trans hC0 (fun _ _ h => h)
        have eF : w'.cell? ⟨0, 0, none⟩ = some (.iface 91 (.pointer (some p.aF))) := hrs.s.eF
        have eE : w'.cell? ⟨1, 0, none⟩ = some (.iface 91 (.pointer (some p.aE))) := hrs.s.eE
        obtain ⟨ca, ta, kE⟩ := hrs.s.hE
        obtain ⟨cb, tb, kF⟩ := hrs.s.hF
        have hrow' := hide hrow
        obtain ⟨o, cc, rfl, -, -, -, -⟩ := hrow
        obtain ⟨st', hq'⟩ := hrs.q
        have d4 : w'.cell? ⟨Q, 4, none⟩ = some (.bool false) := heap_of_cell hq' 4
        have f4 : w'.frozen? ⟨Q, 4, none⟩ = false := heap_frozen hq' 4
        clear H40 HCS hC0))
    | (go_at_call 41; go_must (refine (is_same p.aF _).mono ?_; rintro e w'' ⟨rfl, rfl⟩)))
  go_ret3
  obtain ⟨h1, h2⟩ := hrs.rest true
  have hUQ : p.U ≠ Q := fun e => hrs.qo (.inr (.inl e.symm))
  exact ⟨_, rfl, hrow'.out.kept h2 hUQ, h1, hC.trans h2 (fun _ _ h => .inr h)⟩
set_option maxRecDepth 100000 in
set_option maxHeartbeats 1000000 in
theorem head_lf (p : Pm) (hp : p.Ok) (Q : Nat) (w : World) (long : Value) (pos : Nat) (h : RS p Q w long false pos) (hf : (p.l.drop pos).idxOf 10 < p.eff) (hf2 : (p.l.drop pos).idxOf 10 < (p.l.drop pos).length) :
    Calls Tryd.prog 36 #[.pointer (some ⟨Q, 0, none⟩)] w fun e w' => ∃ v, e = .returned (.tuple #[v, .bool true, .nilIface]) ∧ RowIn w' p.U v ((p.l.drop pos).take ((p.l.drop pos).idxOf 10)) ∧ RS p Q w' long false (pos + ((p.l.drop pos).idxOf 10 + 1)) ∧ Chg (foot0 p Q) w w' := by
  obtain ⟨st, hq⟩ := h.q
  have c4 : w.cell? ⟨Q, 4, none⟩ = some (.bool false) := heap_of_cell hq 4
  have c3 : w.cell? ⟨Q, 3, none⟩ = some (.int .i64 pos) := heap_of_cell hq 3
  have c2 : w.cell? ⟨Q, 2, none⟩ = some (.int .i64 st) := heap_of_cell hq 2
  have f2 : w.frozen? ⟨Q, 2, none⟩ = false := heap_frozen hq 2
  obtain ⟨hS, hCS⟩ := h.start (pos : Int)
  have h40 := readSlice_rec p hp Q _ long false pos hS
  rw [rs_line _ _ hf hf2] at h40
  dsimp only [Pm.err] at h40
  have hl : ((p.l.drop pos).take ((p.l.drop pos).idxOf 10 + 1)).length = (p.l.drop pos).idxOf 10 + 1 := by simp at hf2 ⊢; omega
  rw [hl, take_lf _ hf2] at h40
  obtain ⟨LF, hLF⟩ : ∃ n, n = (p.l.drop pos).idxOf 10 := ⟨_, rfl⟩
  obtain ⟨PC, hPC⟩ : ∃ x, x = (p.l.drop pos).take LF := ⟨_, rfl⟩
  rw [← hLF, ← hPC] at h40 ⊢
  have hpl : PC.length = LF := by rw [hPC]; simp at hf2 ⊢; omega
  have hLb : LF ≤ 65536 := by have := hp.big; omega
  clear hl hf hLF hPC hf2
  have H40 := hide h40
  have HCS : Chg (foot0 p Q) w (w.setCell ⟨Q, 2, none⟩ (.int .i64 (pos : Int))) := hCS.mono (fun _ _ h => .inr h)
  clear h40 h hS hCS hq
  go_enter Tryd.func36, Tryd.ntmps36
  go_wp2_with fail
  refine wp_loop_rounds 1 ?_
  rw [rounds_succ]
  go_wp2_with (first
    | (go_at_call 40; go_must (
        refine H40.out.mono ?_
        rintro e w' ⟨v, rfl, hrow, hrs, hC0⟩
        have hC := HCS.trans hC0 (fun _ _ h => h)
        have eF : w'.cell? ⟨0, 0, none⟩ = some (.iface 91 (.pointer (some p.aF))) := hrs.s.eF
        have eE : w'.cell? ⟨1, 0, none⟩ = some (.iface 91 (.pointer (some p.aE))) := hrs.s.eE
        obtain ⟨ca, ta, kE⟩ := hrs.s.hE
        obtain ⟨cb, tb, kF⟩ := hrs.s.hF
        have hrow' := hide hrow
        obtain ⟨o, cc, rfl, -, -, -, -⟩ := hrow
        obtain ⟨st', hq'⟩ := hrs.q
        have d4 : w'.cell? ⟨Q, 4, none⟩ = some (.bool false) := heap_of_cell hq' 4
        have f4 : w'.frozen? ⟨Q, 4, none⟩ = false := heap_frozen hq' 4
        have hcv := conv_lf0 w'
        have heq := eql_nil_left p.aE w'
        clear H40 HCS hC0))
    | (go_at_call 41; go_must (refine (is_nil p.aF _).mono ?_; rintro e w'' ⟨rfl, rfl⟩)))
  have hUQ : p.U ≠ Q := fun e => hrs.qo (.inr (.inl e.symm))
  refine (trim42n p.U w' o (LF + 1) cc (PC ++ [10]) (by simpa [hpl] using hrow'.out) (by omega)).mono ?_
  rintro e W ⟨rfl, rfl⟩
  unfold Lib.bytesTrimSuffix
  rw [if_pos (trim_yes PC)]
  unfold Lib.sliceTo
  have e1 : LF + 1 - [(10 : Int)].length = PC.length := by simp [hpl]
  rw [e1]
  go_wp2_with fail
  go_ret3
  have hC3 : Chg NoB w' (w'.alloc (.cells #[.int .u8 10] 5 (1, 2))) := (Chg.refl _ _).alloc _
  have hcut := (RowIn.cut hrow'.out).kept hC3 (fun h => h)
  rw [hpl] at hcut
  exact ⟨_, rfl, hcut, hrs.laid _, hC.trans hC3 (fun _ _ h => h.elim)⟩
set_option maxRecDepth 100000 in
set_option maxHeartbeats 1000000 in
theorem head_end (p : Pm) (hp : p.Ok) (Q : Nat) (w : World) (long : Value) (pos : Nat) (h : RS p Q w long false pos) (hf : (p.l.drop pos).idxOf 10 < p.eff) (hf2 : (p.l.drop pos).idxOf 10 = (p.l.drop pos).length) (hne : 0 < (p.l.drop pos).length) :
    Calls Tryd.prog 36 #[.pointer (some ⟨Q, 0, none⟩)] w fun e w' => ∃ v, e = .returned (.tuple #[v, .bool true, .nilIface]) ∧ RowIn w' p.U v (p.l.drop pos) ∧ RS p Q w' long false (pos + (p.l.drop pos).length) ∧ Chg (foot0 p Q) w w' := by
  obtain ⟨st, hq⟩ := h.q
  have c4 : w.cell? ⟨Q, 4, none⟩ = some (.bool false) := heap_of_cell hq 4
  have c3 : w.cell? ⟨Q, 3, none⟩ = some (.int .i64 pos) := heap_of_cell hq 3
  have c2 : w.cell? ⟨Q, 2, none⟩ = some (.int .i64 st) := heap_of_cell hq 2
  have f2 : w.frozen? ⟨Q, 2, none⟩ = false := heap_frozen hq 2
  obtain ⟨hS, hCS⟩ := h.start (pos : Int)
  have h40 := readSlice_rec p hp Q _ long false pos hS
  rw [rs_end _ _ hf hf2] at h40
  dsimp only [Pm.err] at h40
  have hno := trim_no (p.l.drop pos) (hp.byt.drop _) hf2
  obtain ⟨PC, hPC⟩ : ∃ x, x = p.l.drop pos := ⟨_, rfl⟩
  rw [← hPC] at h40 hno ⊢
  have hLb : PC.length ≤ 65536 := by have := hp.big; rw [hPC]; omega
  have hEF := hp.ne
  rw [← hPC] at hne
  have q0 : decide ((0 : Int) < (PC.length : Int)) = true := decide_eq_true (by omega)
  clear hf hPC hf2
  have H40 := hide h40
  have HCS : Chg (foot0 p Q) w (w.setCell ⟨Q, 2, none⟩ (.int .i64 (pos : Int))) := hCS.mono (fun _ _ h => .inr h)
  clear h40 h hS hCS hq
  go_enter Tryd.func36, Tryd.ntmps36
  go_wp2_with fail
  refine wp_loop_rounds 1 ?_
  rw [rounds_succ]
  go_wp2_with (first
    | (go_at_call 40; go_must (
        refine H40.out.mono ?_
        rintro e w' ⟨v, rfl, hrow, hrs, hC0⟩
        have hC := HCS.trans hC0 (fun _ _ h => h)
        have eF : w'.cell? ⟨0, 0, none⟩ = some (.iface 91 (.pointer (some p.aF))) := hrs.s.eF
        have eE : w'.cell? ⟨1, 0, none⟩ = some (.iface 91 (.pointer (some p.aE))) := hrs.s.eE
        obtain ⟨ca, ta, kE⟩ := hrs.s.hE
        obtain ⟨cb, tb, kF⟩ := hrs.s.hF
        have hrow' := hide hrow
        obtain ⟨o, cc, rfl, -, -, -, -⟩ := hrow
        obtain ⟨st', hq'⟩ := hrs.q
        have d4 : w'.cell? ⟨Q, 4, none⟩ = some (.bool false) := heap_of_cell hq' 4
        have f4 : w'.frozen? ⟨Q, 4, none⟩ = false := heap_frozen hq' 4
        have hcv := conv_lf0 w'
        have heq := eql_same p.aE w'
        clear H40 HCS hC0))
    | (go_at_call 41; go_must (refine (is_other p.aE p.aF ca cb ta tb _ hEF kE kF).mono ?_; rintro e w'' ⟨rfl, rfl⟩)))
  have hUQ : p.U ≠ Q := fun e => hrs.qo (.inr (.inl e.symm))
  refine (trim42n p.U w' o PC.length cc PC hrow'.out (by omega)).mono ?_
  rintro e W ⟨rfl, rfl⟩
  unfold Lib.bytesTrimSuffix
  rw [if_neg (by rw [hno]; decide)]
  go_wp2_with fail
  go_ret3
  have hC3 : Chg NoB w' (w'.alloc (.cells #[.int .u8 10] 5 (1, 2))) := (Chg.refl _ _).alloc _
  exact ⟨_, rfl, hrow'.out.kept hC3 (fun h => h), hrs.laid _, hC.trans hC3 (fun _ _ h => h.elim)⟩
set_option maxRecDepth 100000 in
set_option maxHeartbeats 1000000 in
theorem head_none (p : Pm) (hp : p.Ok) (Q : Nat) (w : World) (long : Value) (pos : Nat) (h : RS p Q w long false pos) (hf : p.l.drop pos = []) :
    Calls Tryd.prog 36 #[.pointer (some ⟨Q, 0, none⟩)] w fun e w' => e = .returned (.tuple #[.slice none 0 0, .bool false, .iface 91 (.pointer (some p.aE))]) ∧ RS p Q w' long false pos ∧ Chg (foot0 p Q) w w' := by
  obtain ⟨st, hq⟩ := h.q
  have c4 : w.cell? ⟨Q, 4, none⟩ = some (.bool false) := heap_of_cell hq 4
  have c3 : w.cell? ⟨Q, 3, none⟩ = some (.int .i64 pos) := heap_of_cell hq 3
  have c2 : w.cell? ⟨Q, 2, none⟩ = some (.int .i64 st) := heap_of_cell hq 2
  have f2 : w.frozen? ⟨Q, 2, none⟩ = false := heap_frozen hq 2
  obtain ⟨hS, hCS⟩ := h.start (pos : Int)
  have h40 := readSlice_rec p hp Q _ long false pos hS
  have h16 := hp.e16
  rw [rs_end _ _ (by rw [hf]; exact Nat.lt_of_lt_of_le (by decide) h16) (by rw [hf]; rfl)] at h40
  dsimp only [Pm.err] at h40
  rw [hf] at h40
  have hEF := hp.ne
  clear hf
  have H40 := hide h40
  have HCS : Chg (foot0 p Q) w (w.setCell ⟨Q, 2, none⟩ (.int .i64 (pos : Int))) := hCS.mono (fun _ _ h => .inr h)
  clear h40 h hS hCS hq
  go_enter Tryd.func36, Tryd.ntmps36
  go_wp2_with fail
  refine wp_loop_rounds 1 ?_
  rw [rounds_succ]
  go_wp2_with (first
    | (go_at_call 40; go_must (
        refine H40.out.mono ?_
        rintro e w' ⟨v, rfl, hrow, hrs, hC0⟩
        have hC := HCS.trans hC0 (fun _ _ h => h)
        have eF : w'.cell? ⟨0, 0, none⟩ = some (.iface 91 (.pointer (some p.aF))) := hrs.s.eF
        have eE : w'.cell? ⟨1, 0, none⟩ = some (.iface 91 (.pointer (some p.aE))) := hrs.s.eE
        obtain ⟨ca, ta, kE⟩ := hrs.s.hE
        obtain ⟨cb, tb, kF⟩ := hrs.s.hF
        have hrow' := hide hrow
        obtain ⟨o, cc, rfl, -, -, -, -⟩ := hrow
        obtain ⟨st', hq'⟩ := hrs.q
        have d4 : w'.cell? ⟨Q, 4, none⟩ = some (.bool false) := heap_of_cell hq' 4
        have f4 : w'.frozen? ⟨Q, 4, none⟩ = false := heap_frozen hq' 4
        have heq := eql_same p.aE w'
        clear H40 HCS hC0))
    | (go_at_call 41; go_must (refine (is_other p.aE p.aF ca cb ta tb _ hEF kE kF).mono ?_; rintro e w'' ⟨rfl, rfl⟩)))
  go_ret3
  exact ⟨rfl, hrs, hC⟩
/-- Head at a line that fits. -/
theorem head_last (p : Pm) (hp : p.Ok) (Q : Nat) (w : World) (long : Value) (pos : Nat) (h : RS p Q w long false pos) (hf : (p.l.drop pos).idxOf 10 < p.eff) (hne : 0 < (p.l.drop pos).length) :
    Calls Tryd.prog 36 #[.pointer (some ⟨Q, 0, none⟩)] w fun e w' => ∃ v, e = .returned (.tuple #[v, .bool true, .nilIface]) ∧ RowIn w' p.U v ((p.l.drop pos).take ((p.l.drop pos).idxOf 10)) ∧ RS p Q w' long false (pos + min ((p.l.drop pos).idxOf 10 + 1) (p.l.drop pos).length) ∧ Chg (foot0 p Q) w w' := by
  have := idx_le (p.l.drop pos)
  rcases Nat.lt_or_ge ((p.l.drop pos).idxOf 10) (p.l.drop pos).length with h2 | h2
  · rw [Nat.min_eq_left (by omega)]
    exact head_lf p hp Q w long pos h hf h2
  · have h3 := head_end p hp Q w long pos h hf (by omega) hne
    rw [Nat.min_eq_right (by omega), List.take_of_length_le h2]
    exact h3
end Go.Proofs.Qxb6613793aDoor
