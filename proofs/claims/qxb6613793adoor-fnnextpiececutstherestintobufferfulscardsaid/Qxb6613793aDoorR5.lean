/-
  THE WALKS of (*record.Reader).readSlice (40) and nextPiece (39).
-/
import Derived.Test.Qxb6613793aDoorR4
import Derived.Test.Qxb6613793aDoorIs
import Derived.LaidEql
import Derived.Lib.SlBytesConst
set_option linter.unusedVariables false
set_option linter.unusedSimpArgs false
namespace Go.Proofs.Qxb6613793aDoor
open Go.RowKit

/-- The cells of the record.Reader. -/
def Qcells (R : Nat) (long : Value) (st : Int) (rd : Nat) (rest : Bool) : Array Value := #[.pointer (some ⟨R, 0, none⟩), long, .int .i64 st, .int .i64 rd, .bool rest]

/-- What a reader may change. -/
def foot (p : Pm) (Q : Nat) (long : Value) (b : Nat) : Prop := p.own b ∨ b = Q ∨ long.ownBlock = some b

/-- .. but for the long line's memory. -/
def foot0 (p : Pm) (Q : Nat) (b : Nat) : Prop := p.own b ∨ b = Q

/-- A record.Reader at place pos. -/
structure RS (p : Pm) (Q : Nat) (w : World) (long : Value) (rest : Bool) (pos : Nat) : Prop where
  q : ∃ st : Int, w.heap[Q]? = some (.cells (Qcells p.R long st pos rest) 55 (0, 0))
  b : ∃ r wv, BSt p w r wv .nilIface pos
  s : Still p w
  o : ∃ n xs, w.ownsRow 0 5 1 long n xs
  qo : ¬ p.own Q
  ql : ¬ p.rely Q
  lo : ∀ g, long.ownBlock = some g → ¬ p.own g ∧ g ≠ Q ∧ ¬ p.rely g

theorem RS.far {p : Pm} {Q : Nat} {w : World} {long : Value} {rest : Bool} {pos : Nat} (h : RS p Q w long rest pos) (hp : p.Ok) (b : Nat) (hb : p.rely b) : ¬ foot p Q long b := by
  rintro (h1 | rfl | h1)
  · exact hp.far b hb h1
  · exact h.ql hb
  · exact (h.lo b h1).2.2 hb

theorem RS.kept {p : Pm} {Q : Nat} {w w' : World} {long : Value} {rest : Bool} {pos : Nat} {F : Nat → Prop} (h : RS p Q w long rest pos) (hc : Chg F w w') (hf : ∀ b, foot p Q long b → ¬ F b) (hl : ∀ b, p.rely b → ¬ F b) : RS p Q w' long rest pos := by
  obtain ⟨⟨st, hq⟩, ⟨r, wv, hb⟩, hs, ⟨n, xs, ho⟩, h1, h2, h3⟩ := h
  exact ⟨⟨st, (hc.block Q (heap_lt hq) (hf Q (.inr (.inl rfl)))).trans hq⟩, ⟨r, wv, hb.kept hc (fun b hb => hf b (.inl hb))⟩, hs.kept hc hl, ⟨n, xs, hc.own ho (fun k hk => hf k (.inr (.inr hk)))⟩, h1, h2, h3⟩

theorem RS.le {p : Pm} {Q : Nat} {w : World} {long : Value} {rest : Bool} {pos : Nat} (h : RS p Q w long rest pos) : pos ≤ p.l.length := by
  obtain ⟨r, wv, _, _, _, _, _, _, _, _, _, _, h1, _⟩ := h.b
  omega

set_option maxRecDepth 100000 in
set_option maxHeartbeats 1000000 in
theorem readSlice_rec (p : Pm) (hp : p.Ok) (Q : Nat) (w : World) (long : Value) (rest : Bool) (pos : Nat) (h : RS p Q w long rest pos) :
    Calls Tryd.prog 40 #[.pointer (some ⟨Q, 0, none⟩)] w fun e w' => ∃ v, e = .returned (.tuple #[v, p.err (rs p.eff (p.l.drop pos)).2]) ∧ RowIn w' p.U v (rs p.eff (p.l.drop pos)).1 ∧ RS p Q w' long rest (pos + (rs p.eff (p.l.drop pos)).1.length) ∧ Chg (foot0 p Q) w w' := by
  obtain ⟨⟨st, hq⟩, ⟨r, wv, hb⟩, hs, ⟨n, xs, ho⟩, hqo, hql, hlo⟩ := h
  have hln := hp.ln
  have c0 : w.cell? ⟨Q, 0, none⟩ = some (.pointer (some ⟨p.R, 0, none⟩)) := heap_of_cell hq 0
  obtain ⟨LINE, KIND, hrs⟩ : ∃ a b, rs p.eff (p.l.drop pos) = (a, b) := ⟨_, _, rfl⟩
  have h44 := readSlice_buf p hp r wv pos w hs hb
  rw [hrs] at h44 ⊢
  dsimp only at h44 ⊢
  have H44 := hide h44
  clear h44 hrs
  generalize p.err KIND = ER at *
  go_enter Tryd.func40, Tryd.ntmps40
  go_wp2_with (go_at_call 44; go_must (
    refine H44.out.mono ?_
    rintro e w' ⟨v, r', wv', rfl, hrow, hb', hC⟩
    have hrow' := hide hrow
    obtain ⟨o, cc, rfl, hcc, -, -, -⟩ := hrow
    have hq' : w'.heap[Q]? = some (.cells (Qcells p.R long st pos rest) 55 (0, 0)) := (hC.block Q (heap_lt hq) hqo).trans hq
    have c3 : w'.cell? ⟨Q, 3, none⟩ = some (.int .i64 pos) := heap_of_cell hq' 3
    have f3 : w'.frozen? ⟨Q, 3, none⟩ = false := heap_frozen hq' 3
    have hle : pos + LINE.length ≤ p.l.length := by
      obtain ⟨_, _, _, _, _, _, _, _, _, _, h1, _⟩ := hb'
      omega
    have hwr : IntKind.i64.wrap ((pos : Int) + (LINE.length : Int)) = ((pos + LINE.length : Nat) : Int) := by rw [IntKind.wrap_i64]; omega))
  go_ret2
  have hC2 : Chg (foot0 p Q) w w' := hC.mono (fun _ _ h => .inl h)
  have hC3 : Chg (foot0 p Q) w (w'.setCell ⟨Q, 3, none⟩ (.int .i64 ((pos + LINE.length : Nat) : Int))) := hC2.setCell (.inl (.inr rfl)) _
  have hS1 : Chg (fun b => b = Q) w' (w'.setCell ⟨Q, 3, none⟩ (.int .i64 ((pos + LINE.length : Nat) : Int))) := (Chg.refl (fun b => b = Q) w').setCell (p := ⟨Q, 3, none⟩) (.inl rfl) _
  refine ⟨_, rfl, hrow'.out.kept hS1 (fun e => hqo (.inr (.inl e.symm))), ⟨⟨st, (heap_setCell_same w' Q 3 _ 55 _ hq').trans (by simp [Qcells])⟩, ⟨r', wv', hb'.kept hS1 (fun b hb e => hqo (e ▸ hb))⟩, ?_, ?_, hqo, hql, hlo⟩, hC3⟩
  · exact (hs.kept hC hp.far).kept hS1 (fun b hb e => hql (e ▸ hb))
  · exact ⟨n, xs, (hC.own ho (fun k hk => (hlo k hk).1)).1, ((hC.own ho (fun k hk => (hlo k hk).1)) |> fun h => hS1.own h (fun k hk => (hlo k hk).2.1)).2⟩

/-- '[]byte("\n")' made: the row's mark. -/
theorem conv_lf (w : World) (Q : Nat) (u : Value) : (convert 22 22 (.slice (some ⟨w.heap.size, 0, none⟩) 1 1)).run Tryd.prog ((w.setCell ⟨Q, 4, none⟩ u).alloc (.cells #[.int .u8 10] 5)) =
    .ok (.slice (some ⟨w.heap.size, 0, none⟩) 1 1) ((w.setCell ⟨Q, 4, none⟩ u).alloc (.cells #[.int .u8 10] 5 (1, 2))) := by
  have h := Lib.run_convert_bytes_const (P := Tryd.prog) (w.setCell ⟨Q, 4, none⟩ u) 22 5 #[.int .u8 10] 1 1 Tryd.underlying22 Tryd.underlying5
  rwa [show (w.setCell ⟨Q, 4, none⟩ u).heap.size = w.heap.size by simp [World.setCell]] at h

theorem RS.turn {p : Pm} {Q : Nat} {w w' : World} {long : Value} {rest : Bool} {pos : Nat} (h : RS p Q w long rest pos) (rest' : Bool) (hc : Chg (fun b => b = Q) w w') (hq : ∃ st : Int, w'.heap[Q]? = some (.cells (Qcells p.R long st pos rest') 55 (0, 0))) : RS p Q w' long rest' pos := by
  obtain ⟨_, ⟨r, wv, hb⟩, hs, ⟨n, xs, ho⟩, h1, h2, h3⟩ := h
  exact ⟨hq, ⟨r, wv, hb.kept hc (fun b hb e => h1 (e ▸ hb))⟩, hs.kept hc (fun b hb e => h2 (e ▸ hb)), ⟨n, xs, hc.own ho (fun k hk => (h3 k hk).2.1)⟩, h1, h2, h3⟩

/-- 'r.rest = b', and a row laid behind it. -/
theorem RS.rest {p : Pm} {Q : Nat} {w : World} {long : Value} {rest : Bool} {pos : Nat} (h : RS p Q w long rest pos) (b : Bool) :
    RS p Q (w.setCell ⟨Q, 4, none⟩ (.bool b)) long b pos ∧ Chg (fun k => k = Q) w (w.setCell ⟨Q, 4, none⟩ (.bool b)) := by
  obtain ⟨st, hq⟩ := h.q
  have hc : Chg (fun k => k = Q) w (w.setCell ⟨Q, 4, none⟩ (.bool b)) := (Chg.refl (fun k => k = Q) w).setCell (p := ⟨Q, 4, none⟩) (.inl rfl) _
  exact ⟨h.turn b hc ⟨st, (heap_setCell_same w Q 4 _ 55 _ hq).trans (by simp [Qcells])⟩, hc⟩
theorem RS.laid {p : Pm} {Q : Nat} {w : World} {long : Value} {rest : Bool} {pos : Nat} (h : RS p Q w long rest pos) (o : Obj) : RS p Q (w.alloc o) long rest pos :=
  h.kept ((Chg.refl NoB w).alloc o) (fun _ _ h => h) (fun _ _ h => h)

theorem RowIn.cut {w : World} {g o n c : Nat} {xs ys : List Int} (h : RowIn w g (.slice (some ⟨g, o, none⟩) n c) (xs ++ ys)) : RowIn w g (.slice (some ⟨g, o, none⟩) xs.length c) xs := by
  obtain ⟨o', c', e, h1, h2, h3, h4⟩ := h
  obtain ⟨ho, -, rfl⟩ : o = o' ∧ n = (xs ++ ys).length ∧ c = c' := by simpa using e
  subst ho
  rw [List.length_append] at h1 h4
  refine ⟨o, c, rfl, by omega, h2, h3, fun i hi => ?_⟩
  rw [h4 i (by omega)]
  simp [List.getD, List.getElem?_append_left hi]

theorem trim42 (U Q : Nat) (w : World) (o n cc : Nat) (xs : List Int) (u : Value) (hrow : RowIn w U (.slice (some ⟨U, o, none⟩) n cc) xs) (hUQ : U ≠ Q) (hn : n ≤ 2000000) :
    Calls Tryd.prog 42 #[.slice (some ⟨U, o, none⟩) n cc, .slice (some ⟨w.heap.size, 0, none⟩) 1 1] ((w.setCell ⟨Q, 4, none⟩ u).alloc (.cells #[.int .u8 10] 5 (1, 2))) fun e W => e = .returned (Lib.bytesTrimSuffix U o n cc xs [10]) ∧ W = (w.setCell ⟨Q, 4, none⟩ u).alloc (.cells #[.int .u8 10] 5 (1, 2)) := by
  obtain ⟨o', c', e, h1, h2, h3, h4⟩ := hrow
  obtain ⟨ho, hnl, rfl⟩ : o = o' ∧ n = xs.length ∧ cc = c' := by simpa using e
  subst ho
  have hsz : (w.setCell ⟨Q, 4, none⟩ u).heap.size = w.heap.size := by simp [World.setCell]
  refine Tryd.bytes_TrimSuffix U o n cc w.heap.size 0 1 1 xs [10] _ hnl.symm rfl (by omega) (by omega) (fun i hi => ?_) (fun i hi => ?_)
  · have hb : ((w.setCell ⟨Q, 4, none⟩ u).alloc (.cells #[.int .u8 10] 5 (1, 2))).heap[U]? = w.heap[U]? := (Below.heap_alloc _ _ U (by omega)).trans (Below.heap_setCell w _ _ U hUQ)
    exact (World.cell?_of_block (a := ⟨U, o + i, none⟩) hb).trans (h4 i (by omega))
  · obtain rfl : i = 0 := by omega
    have hb := heap_alloc_new (w.setCell ⟨Q, 4, none⟩ u) (.cells #[.int .u8 10] 5 (1, 2))
    rw [hsz] at hb
    exact cell_of_row _ w.heap.size 0 _ 5 (1, 2) hb

theorem neq_same (a : Addr) (w : World) : (binOp .neq 50 (.iface 91 (.pointer (some a))) (.iface 91 (.pointer (some a)))).run Tryd.prog w = .ok (.bool false) w := by
  obtain ⟨i, hi, hcmp⟩ := Option.map_eq_some_iff.1 isComp
  obtain ⟨j, hj, hjs⟩ := Option.map_eq_some_iff.1 isSize
  simp only [binOp]
  simp [Op.equal, Op.maxDepth, run_equalIn_iface_ptr_same (P := Tryd.prog) w 9998 a Tryd.underlying50 Tryd.underlying91 hi hcmp hj]
theorem eql_same (a : Addr) (w : World) : (binOp .eql 50 (.iface 91 (.pointer (some a))) (.iface 91 (.pointer (some a)))).run Tryd.prog w = .ok (.bool true) w := by
  obtain ⟨i, hi, hcmp⟩ := Option.map_eq_some_iff.1 isComp
  obtain ⟨j, hj, hjs⟩ := Option.map_eq_some_iff.1 isSize
  exact run_eql_iface_ptr_same (P := Tryd.prog) w a Tryd.underlying50 Tryd.underlying91 hi hcmp hj

/-! ### the plain laws of 'rs' -/
theorem idx_le (xs : List Int) : xs.idxOf 10 ≤ xs.length := List.idxOf_le_length
theorem take_lf (xs : List Int) (h : xs.idxOf 10 < xs.length) : xs.take (xs.idxOf 10 + 1) = xs.take (xs.idxOf 10) ++ [10] := by
  rw [List.take_add_one, List.getElem?_eq_getElem h, List.getElem_idxOf h]; rfl
theorem rs_full (eff : Nat) (xs : List Int) (h : eff ≤ xs.idxOf 10) : rs eff xs = (xs.take eff, 1) := by
  have := idx_le xs
  unfold rs
  rw [if_neg (by omega), if_pos (by omega)]
theorem rs_line (eff : Nat) (xs : List Int) (h : xs.idxOf 10 < eff) (h2 : xs.idxOf 10 < xs.length) : rs eff xs = (xs.take (xs.idxOf 10 + 1), 0) := by
  unfold rs
  rw [if_pos ⟨h, h2⟩]
theorem rs_end (eff : Nat) (xs : List Int) (h : xs.idxOf 10 < eff) (h2 : xs.idxOf 10 = xs.length) : rs eff xs = (xs, 2) := by
  unfold rs
  rw [if_neg (by omega), if_neg (by omega)]
theorem trim_yes (xs : List Int) : Lib.hasSuffix (Lib.bytesOf (xs ++ [10])) (Lib.bytesOf [10]) = true := by
  unfold Lib.hasSuffix
  rw [List.isSuffixOf_iff_suffix]
  exact ⟨Lib.bytesOf xs, by simp [Lib.bytesOf]⟩
theorem trim_no (xs : List Int) (hb : Byt xs) (h : xs.idxOf 10 = xs.length) : Lib.hasSuffix (Lib.bytesOf xs) (Lib.bytesOf [10]) = false := by
  cases hq : Lib.hasSuffix (Lib.bytesOf xs) (Lib.bytesOf [10]) with
  | false => rfl
  | true =>
    unfold Lib.hasSuffix at hq
    rw [List.isSuffixOf_iff_suffix] at hq
    have hm : (10 : UInt8) ∈ Lib.bytesOf xs := hq.subset (by simp [Lib.bytesOf])
    simp only [Lib.bytesOf, List.mem_map] at hm
    obtain ⟨x, hx, e⟩ := hm
    have h1 := byte_ten x (hb x hx)
    have h2 : (x == 10) = true := by rw [← h1]; simp [e]
    have h3 : x = 10 := by simpa using h2
    have := List.idxOf_lt_length_iff.2 (h3 ▸ hx)
    omega

set_option maxRecDepth 100000 in
set_option maxHeartbeats 1000000 in
theorem nextPiece_full (p : Pm) (hp : p.Ok) (Q : Nat) (w : World) (long : Value) (rest : Bool) (pos : Nat) (h : RS p Q w long rest pos) (hf : p.eff ≤ (p.l.drop pos).idxOf 10) :
    Calls Tryd.prog 39 #[.pointer (some ⟨Q, 0, none⟩)] w fun e w' => ∃ v, e = .returned (.tuple #[v, .nilIface]) ∧ RowIn w' p.U v ((p.l.drop pos).take p.eff) ∧ RS p Q w' long rest (pos + p.eff) ∧ Chg (foot0 p Q) w w' := by
  have h40 := readSlice_rec p hp Q w long rest pos h
  rw [rs_full _ _ hf] at h40
  dsimp only [Pm.err] at h40
  have hl : ((p.l.drop pos).take p.eff).length = p.eff := by have := idx_le (p.l.drop pos); simp at this ⊢; omega
  rw [hl] at h40
  have H40 := hide h40
  clear h40 hl hf h
  go_enter Tryd.func39, Tryd.ntmps39
  go_wp2_with (first
    | (go_at_call 40; go_must (
        refine H40.out.mono ?_
        rintro e w' ⟨v, rfl, hrow, hrs, hC⟩
        have eF : w'.cell? ⟨0, 0, none⟩ = some (.iface 91 (.pointer (some p.aF))) := hrs.s.eF
        clear H40))
    | (go_at_call 41; go_must (refine (is_same p.aF _).mono ?_; rintro e w'' ⟨rfl, rfl⟩)))
  go_ret2
  exact ⟨_, rfl, hrow, hrs, hC⟩

set_option maxRecDepth 100000 in
set_option maxHeartbeats 1000000 in
theorem nextPiece_lf (p : Pm) (hp : p.Ok) (Q : Nat) (w : World) (long : Value) (rest : Bool) (pos : Nat) (h : RS p Q w long rest pos) (hf : (p.l.drop pos).idxOf 10 < p.eff) (hf2 : (p.l.drop pos).idxOf 10 < (p.l.drop pos).length) :
    Calls Tryd.prog 39 #[.pointer (some ⟨Q, 0, none⟩)] w fun e w' => ∃ v, e = .returned (.tuple #[v, .nilIface]) ∧ RowIn w' p.U v ((p.l.drop pos).take ((p.l.drop pos).idxOf 10)) ∧ RS p Q w' long false (pos + ((p.l.drop pos).idxOf 10 + 1)) ∧ Chg (foot0 p Q) w w' := by
  have h40 := readSlice_rec p hp Q w long rest pos h
  rw [rs_line _ _ hf hf2] at h40
  dsimp only [Pm.err] at h40
  have hl : ((p.l.drop pos).take ((p.l.drop pos).idxOf 10 + 1)).length = (p.l.drop pos).idxOf 10 + 1 := by simp at hf2 ⊢; omega
  rw [hl, take_lf _ hf2] at h40
  obtain ⟨LF, hLF⟩ : ∃ n, n = (p.l.drop pos).idxOf 10 := ⟨_, rfl⟩
  obtain ⟨PC, hPC⟩ : ∃ x, x = (p.l.drop pos).take LF := ⟨_, rfl⟩
  rw [← hLF, ← hPC] at h40 ⊢
  have hpl : PC.length = LF := by rw [hPC]; simp at hf2 ⊢; omega
  have hLb : LF ≤ 65536 := by have := hp.big; omega
  have H40 := hide h40
  clear h40 hl hf h hLF hPC hf2
  go_enter Tryd.func39, Tryd.ntmps39
  go_wp2_with (first
    | (go_at_call 40; go_must (
        refine H40.out.mono ?_
        rintro e w' ⟨v, rfl, hrow, hrs, hC⟩
        have eF : w'.cell? ⟨0, 0, none⟩ = some (.iface 91 (.pointer (some p.aF))) := hrs.s.eF
        obtain ⟨st, hq'⟩ := hrs.q
        have c4 : w'.cell? ⟨Q, 4, none⟩ = some (.bool rest) := heap_of_cell hq' 4
        have f4 : w'.frozen? ⟨Q, 4, none⟩ = false := heap_frozen hq' 4
        have hrow' := hide hrow
        obtain ⟨o, cc, rfl, -, -, -, -⟩ := hrow
        have hcv := conv_lf w' Q (.bool false)
        clear H40))
    | (go_at_call 41; go_must (refine (is_nil p.aF _).mono ?_; rintro e w'' ⟨rfl, rfl⟩)))
  have hUQ : p.U ≠ Q := fun e => hrs.qo (.inr (.inl e.symm))
  refine (trim42 p.U Q w' o (LF + 1) cc (PC ++ [10]) (.bool false) (by simpa [hpl] using hrow'.out) hUQ (by omega)).mono ?_
  rintro e W ⟨rfl, rfl⟩
  unfold Lib.bytesTrimSuffix
  rw [if_pos (trim_yes PC)]
  unfold Lib.sliceTo
  have e1 : LF + 1 - [(10 : Int)].length = PC.length := by simp [hpl]
  rw [e1]
  go_wp2_with fail
  go_ret2
  obtain ⟨h1, h2⟩ := hrs.rest false
  have hC3 : Chg (fun k => k = Q) w' ((w'.setCell ⟨Q, 4, none⟩ (.bool false)).alloc (.cells #[.int .u8 10] 5 (1, 2))) := h2.alloc _
  have hcut := (RowIn.cut hrow'.out).kept hC3 hUQ
  rw [hpl] at hcut
  exact ⟨_, rfl, hcut, h1.laid _, hC.trans hC3 (fun _ _ h => .inr h)⟩

set_option maxRecDepth 100000 in
set_option maxHeartbeats 1000000 in
theorem nextPiece_end (p : Pm) (hp : p.Ok) (Q : Nat) (w : World) (long : Value) (rest : Bool) (pos : Nat) (h : RS p Q w long rest pos) (hf : (p.l.drop pos).idxOf 10 < p.eff) (hf2 : (p.l.drop pos).idxOf 10 = (p.l.drop pos).length) :
    Calls Tryd.prog 39 #[.pointer (some ⟨Q, 0, none⟩)] w fun e w' => ∃ v, e = .returned (.tuple #[v, .nilIface]) ∧ RowIn w' p.U v (p.l.drop pos) ∧ RS p Q w' long false (pos + (p.l.drop pos).length) ∧ Chg (foot0 p Q) w w' := by
  have h40 := readSlice_rec p hp Q w long rest pos h
  rw [rs_end _ _ hf hf2] at h40
  dsimp only [Pm.err] at h40
  have hno := trim_no (p.l.drop pos) (hp.byt.drop _) hf2
  obtain ⟨PC, hPC⟩ : ∃ x, x = p.l.drop pos := ⟨_, rfl⟩
  rw [← hPC] at h40 hno ⊢
  have hLb : PC.length ≤ 65536 := by have := hp.big; rw [hPC]; omega
  have H40 := hide h40
  have hEF := hp.ne
  clear h40 hf h hPC hf2
  go_enter Tryd.func39, Tryd.ntmps39
  go_wp2_with (first
    | (go_at_call 40; go_must (
        refine H40.out.mono ?_
        rintro e w' ⟨v, rfl, hrow, hrs, hC⟩
        have eF : w'.cell? ⟨0, 0, none⟩ = some (.iface 91 (.pointer (some p.aF))) := hrs.s.eF
        have eE : w'.cell? ⟨1, 0, none⟩ = some (.iface 91 (.pointer (some p.aE))) := hrs.s.eE
        obtain ⟨ca, ta, kE⟩ := hrs.s.hE
        obtain ⟨cb, tb, kF⟩ := hrs.s.hF
        have heq := neq_same p.aE w'
        obtain ⟨st, hq'⟩ := hrs.q
        have c4 : w'.cell? ⟨Q, 4, none⟩ = some (.bool rest) := heap_of_cell hq' 4
        have f4 : w'.frozen? ⟨Q, 4, none⟩ = false := heap_frozen hq' 4
        have hrow' := hide hrow
        obtain ⟨o, cc, rfl, -, -, -, -⟩ := hrow
        have hcv := conv_lf w' Q (.bool false)
        clear H40))
    | (go_at_call 41; go_must (refine (is_other p.aE p.aF ca cb ta tb _ hEF kE kF).mono ?_; rintro e w'' ⟨rfl, rfl⟩)))
  have hUQ : p.U ≠ Q := fun e => hrs.qo (.inr (.inl e.symm))
  refine (trim42 p.U Q w' o PC.length cc PC (.bool false) hrow'.out hUQ (by omega)).mono ?_
  rintro e W ⟨rfl, rfl⟩
  unfold Lib.bytesTrimSuffix
  rw [if_neg (by rw [hno]; decide)]
  go_wp2_with fail
  go_ret2
  obtain ⟨h1, h2⟩ := hrs.rest false
  have hC3 : Chg (fun k => k = Q) w' ((w'.setCell ⟨Q, 4, none⟩ (.bool false)).alloc (.cells #[.int .u8 10] 5 (1, 2))) := h2.alloc _
  exact ⟨_, rfl, hrow'.out.kept hC3 hUQ, h1.laid _, hC.trans hC3 (fun _ _ h => .inr h)⟩

/-- The last piece: the line ends at its LF or with the stream. -/
theorem nextPiece_last (p : Pm) (hp : p.Ok) (Q : Nat) (w : World) (long : Value) (rest : Bool) (pos : Nat) (h : RS p Q w long rest pos) (hf : (p.l.drop pos).idxOf 10 < p.eff) :
    Calls Tryd.prog 39 #[.pointer (some ⟨Q, 0, none⟩)] w fun e w' => ∃ v, e = .returned (.tuple #[v, .nilIface]) ∧ RowIn w' p.U v ((p.l.drop pos).take ((p.l.drop pos).idxOf 10)) ∧ RS p Q w' long false (pos + min ((p.l.drop pos).idxOf 10 + 1) (p.l.drop pos).length) ∧ Chg (foot0 p Q) w w' := by
  have := idx_le (p.l.drop pos)
  rcases Nat.lt_or_ge ((p.l.drop pos).idxOf 10) (p.l.drop pos).length with h2 | h2
  · rw [Nat.min_eq_left (by omega)]
    exact nextPiece_lf p hp Q w long rest pos h hf h2
  · have h3 := nextPiece_end p hp Q w long rest pos h hf (by omega)
    rw [Nat.min_eq_right (by omega), List.take_of_length_le h2]
    exact h3
end Go.Proofs.Qxb6613793aDoor
