/-
  THE STATE of a bufio.Reader over a bytes.Reader; fill (52) whole; readErr (50), Buffered (51).
-/
import Derived.Test.Qxb6613793aDoorR2
set_option linter.unusedVariables false
set_option linter.unusedSimpArgs false
namespace Go.Proofs.Qxb6613793aDoor
open Go.RowKit

/-- Who is who. -/
structure Pm where
  R : Nat
  S : Nat
  U : Nat
  eff : Nat
  ao : Option Addr
  c : Nat
  l : List Int
  aE : Addr
  aF : Addr

/-- Bytes. -/
def Byt (xs : List Int) : Prop := ∀ x ∈ xs, 0 ≤ x ∧ x < 256

/-- The blocks that a reader changes. -/
def Pm.own (p : Pm) (b : Nat) : Prop := b = p.R ∨ b = p.U ∨ b = p.S
/-- The blocks on which it leans. -/
def Pm.rely (p : Pm) (b : Nat) : Prop := b = 0 ∨ b = 1 ∨ b = p.aE.block ∨ b = p.aF.block ∨ p.ao.map (·.block) = some b

structure Pm.Ok (p : Pm) : Prop where
  RU : p.R ≠ p.U
  RS : p.R ≠ p.S
  SU : p.S ≠ p.U
  far : ∀ b, p.rely b → ¬ p.own b
  e16 : 16 ≤ p.eff
  big : p.eff ≤ 65536
  byt : Byt p.l
  ln : p.l.length ≤ 1048576
  lc : p.l.length ≤ p.c
  cb : p.c ≤ 140737488355328
  ne : p.aE ≠ p.aF
  od : p.l ≠ [] → ∃ D, p.ao = some ⟨D, 0, none⟩

structure Still (p : Pm) (w : World) : Prop where
  eE : w.cell? ⟨1, 0, none⟩ = some (.iface 91 (.pointer (some p.aE)))
  eF : w.cell? ⟨0, 0, none⟩ = some (.iface 91 (.pointer (some p.aF)))
  hE : ∃ cs t, w.heap[p.aE.block]? = some (.cells cs t (0, 0))
  hF : ∃ cs t, w.heap[p.aF.block]? = some (.cells cs t (0, 0))
  dat : ∀ D, p.ao = some ⟨D, 0, none⟩ → ∀ j, j < p.l.length → w.cell? ⟨D, j, none⟩ = some (.int .u8 (p.l.getD j 0))
  lt : ∀ b, p.rely b → b < w.heap.size

theorem cell_lt {w : World} {a : Addr} {v : Value} (h : w.cell? a = some v) : a.block < w.heap.size := by
  cases hq : w.heap[a.block]? with
  | none => simp [World.cell?, hq] at h
  | some o => exact heap_lt hq

theorem Still.kept {p : Pm} {w w' : World} {F : Nat → Prop} (h : Still p w) (hc : Chg F w w') (hF : ∀ b, p.rely b → ¬ F b) : Still p w' := by
  refine ⟨(hc.cell (cell_lt h.eE) (hF _ (.inr (.inl rfl)))).trans h.eE, (hc.cell (cell_lt h.eF) (hF _ (.inl rfl))).trans h.eF, ?_, ?_, fun D hD j hj => ?_, fun b hb => Nat.lt_of_lt_of_le (h.lt b hb) hc.size⟩
  · obtain ⟨cs, t, h1⟩ := h.hE
    exact ⟨cs, t, (hc.block _ (heap_lt h1) (hF _ (.inr (.inr (.inl rfl))))).trans h1⟩
  · obtain ⟨cs, t, h1⟩ := h.hF
    exact ⟨cs, t, (hc.block _ (heap_lt h1) (hF _ (.inr (.inr (.inr (.inl rfl)))))).trans h1⟩
  · have h1 := h.dat D hD j hj
    exact (hc.cell (cell_lt h1) (hF _ (.inr (.inr (.inr (.inr (by rw [hD]; rfl))))))).trans h1

/-- The reader stands at place pos of the data: what is buffered is what follows. -/
def BSt (p : Pm) (w : World) (r wv : Nat) (er : Value) (pos : Nat) : Prop :=
  ∃ ub x y pr, w.heap[p.R]? = some (.cells (Rcells p.eff p.U p.S r wv er x y) 74 (0, 0)) ∧ w.heap[p.U]? = some (.cells (bcells ub) 5 (0, 0)) ∧
    w.heap[p.S]? = some (.cells (Scells (.slice p.ao p.l.length p.c) (pos + (wv - r)) pr) 62 (0, 0)) ∧ ub.length = p.eff ∧ r ≤ wv ∧ wv ≤ p.eff ∧ pos + (wv - r) ≤ p.l.length ∧
    (ub.drop r).take (wv - r) = (p.l.drop pos).take (wv - r)

theorem BSt.kept {p : Pm} {w w' : World} {F : Nat → Prop} {r wv pos : Nat} {er : Value} (h : BSt p w r wv er pos) (hc : Chg F w w') (hF : ∀ b, p.own b → ¬ F b) : BSt p w' r wv er pos := by
  obtain ⟨ub, x, y, pr, h1, h2, h3, rest⟩ := h
  exact ⟨ub, x, y, pr, (hc.block _ (heap_lt h1) (hF _ (.inl rfl))).trans h1, (hc.block _ (heap_lt h2) (hF _ (.inr (.inl rfl)))).trans h2, (hc.block _ (heap_lt h3) (hF _ (.inr (.inr rfl)))).trans h3, rest⟩

theorem spl_take (ub1 l : List Int) (v k pos : Nat) (h : ub1.take v = (l.drop pos).take v) (hv : v ≤ ub1.length) (hk : ((l.drop (pos + v)).take k).length = k) :
    (splL ub1 v ((l.drop (pos + v)).take k)).take (v + k) = (l.drop pos).take (v + k) := by
  unfold splL
  rw [List.take_append_of_le_length (by simp [hv] at hk ⊢; omega), List.take_of_length_le (by simp at hk ⊢; omega), h, List.take_add, List.drop_drop]

theorem spl0_take (ub cs : List Int) : (splL ub 0 cs).take cs.length = cs := by simp [splL]

set_option maxHeartbeats 1000000 in
theorem fill_all (p : Pm) (hp : p.Ok) (r wv pos : Nat) (w : World) (hs : Still p w) (hb : BSt p w r wv .nilIface pos) (hlt : wv - r < p.eff) :
    Calls Tryd.prog 52 #[.pointer (some ⟨p.R, 0, none⟩)] w fun e w' => e = .returned (.tuple #[]) ∧ (∃ v', ((wv - r < v' ∧ BSt p w' 0 v' .nilIface pos) ∨ (v' = wv - r ∧ pos + v' = p.l.length ∧ BSt p w' 0 v' (.iface 91 (.pointer (some p.aE))) pos))) ∧ Chg p.own w w' := by
  obtain ⟨ub, x, y, pr, hR, hU, hS, hl, hrw, hwe, hpl, hcont⟩ := hb
  have hbig : p.eff ≤ 2000000 := by have := hp.big; omega
  have n1 : 1 ≠ p.R ∧ 1 ≠ p.U ∧ 1 ≠ p.S := by
    have := hp.far 1 (.inr (.inl rfl))
    exact ⟨fun e => this (.inl e), fun e => this (.inr (.inl e)), fun e => this (.inr (.inr e))⟩
  have key : ∀ (v : Nat) (ub1 : List Int), v = wv - r → ub1.length = p.eff → ub1.take v = (p.l.drop pos).take v →
      (p.l.length ≤ pos + (wv - r) → Calls Tryd.prog 52 #[.pointer (some ⟨p.R, 0, none⟩)] w fun e w' => e = .returned (.tuple #[]) ∧ w'.heap[p.R]? = some (.cells (Rcells p.eff p.U p.S 0 v (.iface 91 (.pointer (some p.aE))) x y) 74 (0, 0)) ∧
        w'.heap[p.U]? = some (.cells (bcells ub1) 5 (0, 0)) ∧ w'.heap[p.S]? = some (.cells (Scells (.slice p.ao p.l.length p.c) (pos + (wv - r)) pr) 62 (0, 0)) ∧ Chg (fun b => b = p.R ∨ b = p.U ∨ b = p.S) w w') →
      (∀ D, p.ao = some ⟨D, 0, none⟩ → pos + (wv - r) < p.l.length → ∀ k, k = min (p.eff - v) (p.l.length - (pos + (wv - r))) → Calls Tryd.prog 52 #[.pointer (some ⟨p.R, 0, none⟩)] w fun e w' => e = .returned (.tuple #[]) ∧ w'.heap[p.R]? = some (.cells (Rcells p.eff p.U p.S 0 (v + k) .nilIface x y) 74 (0, 0)) ∧
        w'.heap[p.U]? = some (.cells (bcells (splL ub1 v ((p.l.drop (pos + (wv - r))).take k))) 5 (0, 0)) ∧ w'.heap[p.S]? = some (.cells (Scells (.slice (some ⟨D, 0, none⟩) p.l.length p.c) (pos + (wv - r) + k) (-1)) 62 (0, 0)) ∧ Chg (fun b => b = p.R ∨ b = p.U ∨ b = p.S) w w') →
      Calls Tryd.prog 52 #[.pointer (some ⟨p.R, 0, none⟩)] w fun e w' => e = .returned (.tuple #[]) ∧ (∃ v', ((wv - r < v' ∧ BSt p w' 0 v' .nilIface pos) ∨ (v' = wv - r ∧ pos + v' = p.l.length ∧ BSt p w' 0 v' (.iface 91 (.pointer (some p.aE))) pos))) ∧ Chg p.own w w' := by
    intro v ub1 hv hl1 ht h1 h2
    by_cases hx : p.l.length ≤ pos + (wv - r)
    · refine (h1 hx).mono ?_
      rintro e w' ⟨rfl, hR', hU', hS', hC⟩
      refine ⟨rfl, ⟨v, .inr ⟨hv, by omega, ub1, x, y, pr, hR', hU', ?_, hl1, Nat.zero_le _, by omega, by omega, ?_⟩⟩, hC⟩
      · rw [hS', Nat.sub_zero, hv]
      · simpa using ht
    · have hne : p.l ≠ [] := fun e => by rw [e] at hx; simp at hx
      obtain ⟨D, hD⟩ := hp.od hne
      obtain ⟨k, hk⟩ : ∃ k, k = min (p.eff - v) (p.l.length - (pos + (wv - r))) := ⟨_, rfl⟩
      refine (h2 D hD (by omega) k hk).mono ?_
      rintro e w' ⟨rfl, hR', hU', hS', hC⟩
      have hkl : ((p.l.drop (pos + v)).take k).length = k := by simp; omega
      refine ⟨rfl, ⟨v + k, .inl ⟨by omega, splL ub1 v ((p.l.drop (pos + (wv - r))).take k), x, y, -1, hR', hU', ?_, ?_, Nat.zero_le _, by omega, by omega, ?_⟩⟩, hC⟩
      · rw [hS', hD, hv, Nat.sub_zero, Nat.add_assoc]
      · rw [← hv, splL_length _ _ _ (by rw [hkl]; omega), hl1]
      · rw [← hv, List.drop_zero, Nat.sub_zero]
        exact spl_take ub1 p.l v k pos ht (by omega) hkl
  have nD : ∀ D, p.ao = some ⟨D, 0, none⟩ → D ≠ p.S ∧ D ≠ p.U ∧ D ≠ p.R := fun D hD => by
    have := hp.far D (.inr (.inr (.inr (.inr (by rw [hD]; rfl)))))
    exact ⟨fun e => this (.inr (.inr e)), fun e => this (.inr (.inl e)), fun e => this (.inl e)⟩
  have hln := hp.ln
  by_cases h0 : r = 0
  · refine key wv ub (by omega) hl (by simpa [h0] using hcont) ?_ ?_
    · intro hx
      exact fill_eofA p.R p.S p.U p.eff r wv wv p.l.length p.c _ pr x y _ ub ub w hR hU hl hbig hp.RU hp.RS hp.SU h0 (by omega) rfl rfl p.ao p.aE hS hs.eE hx (by omega) n1
    · intro D hD hx k hk
      exact fill_someA p.R p.S p.U p.eff r wv wv p.l.length p.c _ pr x y _ ub ub w hR hU hl hbig hp.RU hp.RS hp.SU h0 (by omega) rfl rfl D p.l (hD ▸ hS) (hs.dat D hD) rfl hp.lc (by omega) hp.cb hx (nD D hD).1 (nD D hD).2.1 (nD D hD).2.2 k hk
  · by_cases h1 : r = p.eff
    · have hwv : wv = p.eff := by omega
      have hv0 : (0 : Nat) = wv - r := by omega
      refine key 0 ub hv0 hl (by simp) ?_ ?_
      · intro hx
        exact fill_eofC p.R p.S p.U p.eff r wv 0 p.l.length p.c _ pr x y _ ub ub w hR hU hl hbig hp.RU hp.RS hp.SU (by omega) h1 hwv rfl rfl p.ao p.aE hS hs.eE hx (by omega) n1
      · intro D hD hx k hk
        exact fill_someC p.R p.S p.U p.eff r wv 0 p.l.length p.c _ pr x y _ ub ub w hR hU hl hbig hp.RU hp.RS hp.SU (by omega) h1 hwv rfl rfl D p.l (hD ▸ hS) (hs.dat D hD) rfl hp.lc (by omega) hp.cb hx (nD D hD).1 (nD D hD).2.1 (nD D hD).2.2 k hk
    · have hcl : ((ub.drop r).take (wv - r)).length = wv - r := by simp; omega
      refine key (wv - r) (splL ub 0 ((ub.drop r).take (wv - r))) rfl (by rw [splL_length _ _ _ (by rw [hcl]; omega), hl]) ?_ ?_ ?_
      · have := spl0_take ub ((ub.drop r).take (wv - r))
        rw [hcl] at this
        rw [this, hcont]
      · intro hx
        exact fill_eofB p.R p.S p.U p.eff r wv (wv - r) p.l.length p.c _ pr x y _ ub _ w hR hU hl hbig hp.RU hp.RS hp.SU (by omega) (by omega) hrw hwe rfl rfl p.ao p.aE hS hs.eE hx (by omega) n1
      · intro D hD hx k hk
        exact fill_someB p.R p.S p.U p.eff r wv (wv - r) p.l.length p.c _ pr x y _ ub _ w hR hU hl hbig hp.RU hp.RS hp.SU (by omega) (by omega) hrw hwe rfl rfl D p.l (hD ▸ hS) (hs.dat D hD) rfl hp.lc (by omega) hp.cb hx (nD D hD).1 (nD D hD).2.1 (nD D hD).2.2 k hk

set_option maxRecDepth 100000 in
theorem readErr_all (R eff U S r wv : Nat) (er : Value) (x y : Int) (w : World) (hR : w.heap[R]? = some (.cells (Rcells eff U S r wv er x y) 74 (0, 0))) :
    Calls Tryd.prog 50 #[.pointer (some ⟨R, 0, none⟩)] w fun e w' => e = .returned er ∧ w'.heap[R]? = some (.cells (Rcells eff U S r wv .nilIface x y) 74 (0, 0)) ∧ Chg (fun b => b = R) w w' := by
  have d4 : w.cell? ⟨R, 4, none⟩ = some er := heap_of_cell hR 4
  have f4 : w.frozen? ⟨R, 4, none⟩ = false := heap_frozen hR 4
  go_enter Tryd.func50, Tryd.ntmps50
  go_wp2
  go_ret
  exact ⟨rfl, (heap_setCell_same w R 4 _ 74 _ hR).trans (by simp [Rcells]), (Chg.refl (fun b => b = R) w).setCell (p := ⟨R, 4, none⟩) (.inl rfl) _⟩

set_option maxRecDepth 100000 in
theorem buffered_all (R eff U S r wv : Nat) (er : Value) (x y : Int) (w : World) (hR : w.heap[R]? = some (.cells (Rcells eff U S r wv er x y) 74 (0, 0))) (hr : r ≤ wv) (hw : wv ≤ 2000000) :
    Calls Tryd.prog 51 #[.pointer (some ⟨R, 0, none⟩)] w fun e w' => e = .returned (.int .i64 (wv - r : Nat)) ∧ ∃ m, w' = w.drewN m := by
  have d2 : w.cell? ⟨R, 2, none⟩ = some (.int .i64 r) := heap_of_cell hR 2
  have d3 : w.cell? ⟨R, 3, none⟩ = some (.int .i64 wv) := heap_of_cell hR 3
  have hwr : IntKind.i64.wrap ((wv : Int) - (r : Int)) = ((wv - r : Nat) : Int) := by rw [IntKind.wrap_i64]; omega
  go_enter Tryd.func51, Tryd.ntmps51
  go_wp2_with fail
  go_quiet (fail)
  go_wp2
  go_ret
  exact ⟨rfl, _, rfl⟩
end Go.Proofs.Qxb6613793aDoor
