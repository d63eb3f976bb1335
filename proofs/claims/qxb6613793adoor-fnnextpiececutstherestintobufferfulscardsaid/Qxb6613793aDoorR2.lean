/-
  THE WALK of (*bufio.Reader).fill (52).
-/
import Derived.Test.Qxb6613793aDoorR1
set_option linter.unusedVariables false
set_option linter.unusedSimpArgs false
namespace Go.Proofs.Qxb6613793aDoor
open Go.RowKit

/-- The cells of the bufio.Reader. -/
def Rcells (eff U S r wv : Nat) (er : Value) (x y : Int) : Array Value := #[.slice (some ⟨U, 0, none⟩) eff eff, .iface 47 (.pointer (some ⟨S, 0, none⟩)), .int .i64 r, .int .i64 wv, er, .int .i64 x, .int .i64 y]

/-- Bytes as cells. -/
def bcells (ub : List Int) : Array Value := (ub.map (Value.int .u8)).toArray
/-- cs laid over ub from place o on. -/
def splL (ub : List Int) (o : Nat) (cs : List Int) : List Int := ub.take o ++ cs ++ ub.drop (o + cs.length)

theorem laidOver_bcells (ub : List Int) (o : Nat) (cs : List Int) : laidOver (bcells ub) o (cs.map (Value.int .u8)) = bcells (splL ub o cs) := by
  simp [laidOver, bcells, splL, List.map_take, List.map_drop]
theorem splL_length (ub : List Int) (o : Nat) (cs : List Int) (h : o + cs.length ≤ ub.length) : (splL ub o cs).length = ub.length := by
  simp [splL]; omega
theorem bcells_size (ub : List Int) : (bcells ub).size = ub.length := by simp [bcells]
theorem bcells_at (ub : List Int) (j : Nat) (h : j < ub.length) : (bcells ub)[j]? = some (.int .u8 (ub.getD j 0)) := by
  simp [bcells, List.getD, h]

/-- 'copy(b.buf, b.buf[r:w])'. -/
theorem slide_run (U eff r wv : Nat) (ub : List Int) (W : World) (hU : W.heap[U]? = some (.cells (bcells ub) 5 (0, 0))) (hl : ub.length = eff) (hr : r ≤ wv) (hw : wv ≤ eff) (ty : TypeId) :
    (Builtin.copy_ #[22, 22] ty #[.slice (some ⟨U, 0, none⟩) eff eff, .slice (some ⟨U, r, none⟩) (wv - r) (eff - r)]).run Tryd.prog W = .ok (goInt (wv - r : Nat)) (W.setRow U (bcells (splL ub 0 ((ub.drop r).take (wv - r))))) := by
  have hcl : (((ub.drop r).take (wv - r)).map (Value.int .u8)).length = wv - r := by simp; omega
  have h := run_copy_row (P := Tryd.prog) W 22 22 ty 5 U 0 eff eff ⟨U, r, none⟩ (wv - r) (eff - r) (bcells ub) 5 (((ub.drop r).take (wv - r)).map (Value.int .u8)) Tryd.underlying22 info5s hU (by rw [hcl]; exact (Nat.min_eq_left (by omega)).symm) (fun j v hj => by
    have hjk : j < wv - r := by rw [← hcl]; exact (List.getElem?_eq_some_iff.1 hj).1
    have ha : (⟨U, r, none⟩ : Addr).add j = ⟨U, r + j, none⟩ := by unfold Addr.add; split <;> simp_all
    rw [ha, heap_of_cell hU, bcells_at ub (r + j) (by omega)]
    rw [List.getElem?_map, List.getElem?_take_of_lt hjk, List.getElem?_drop, List.getElem?_eq_getElem (by omega)] at hj
    simp only [Option.map_some, Option.some.injEq] at hj
    rw [← hj]
    simp [List.getD, List.getElem?_eq_getElem (show r + j < ub.length by omega)]) (by rw [hcl, bcells_size]; omega) (by intro v hv; obtain ⟨x, _, rfl⟩ := List.mem_map.1 hv; rfl)
  rw [h, ← laidOver_bcells]
  unfold laidOver
  rw [hcl]

set_option maxRecDepth 100000 in
set_option maxHeartbeats 4000000 in
theorem fill_eofA (R S U eff r wv v n c : Nat) (i : Nat) (pr x y : Int) (er : Value) (ub ub1 : List Int) (w : World)
    (hR : w.heap[R]? = some (.cells (Rcells eff U S r wv er x y) 74 (0, 0))) (hU : w.heap[U]? = some (.cells (bcells ub) 5 (0, 0))) (hl : ub.length = eff) (heff : eff ≤ 2000000) (hRU : R ≠ U) (hRS : R ≠ S) (hSU : S ≠ U)
    (hr : r = 0) (hw : wv < eff) (hvv : v = wv) (hub1 : ub1 = ub) (ao : Option Addr) (aE : Addr) (hS : w.heap[S]? = some (.cells (Scells (.slice ao n c) i pr) 62 (0, 0))) (hE : w.cell? ⟨1, 0, none⟩ = some (.iface 91 (.pointer (some aE)))) (hi : n ≤ i) (hi2 : i ≤ 2000000) (h1 : 1 ≠ R ∧ 1 ≠ U ∧ 1 ≠ S) :
    Calls Tryd.prog 52 #[.pointer (some ⟨R, 0, none⟩)] w fun e w' => e = .returned (.tuple #[]) ∧ w'.heap[R]? = some (.cells (Rcells eff U S 0 v (.iface 91 (.pointer (some aE))) x y) 74 (0, 0)) ∧
      w'.heap[U]? = some (.cells (bcells ub1) 5 (0, 0)) ∧ w'.heap[S]? = some (.cells (Scells (.slice ao n c) i pr) 62 (0, 0)) ∧ Chg (fun b => b = R ∨ b = U ∨ b = S) w w' := by
  subst hr
  subst hvv
  subst hub1
  have hv : v < eff := hw
  have hl1 : ub1.length = eff := hl
  have hC : Chg (fun b => b = R ∨ b = U ∨ b = S) w w := Chg.refl _ _
  obtain ⟨W, hW⟩ : ∃ W, W = w := ⟨_, rfl⟩
  have c2 : w.cell? ⟨R, 2, none⟩ = some (.int .i64 (0 : Nat)) := heap_of_cell hR 2
  have q0 : decide ((0 : Int) < ((0 : Nat) : Int)) = false := rfl
  go_enter Tryd.func52, Tryd.ntmps52
  go_wp2_with fail
  rw [← hW]
  rw [← hW] at hR hU hS hE
  have hC : Chg (fun b => b = R ∨ b = U ∨ b = S) w W := hW ▸ hC
  clear hW
  have c0 : W.cell? ⟨R, 0, none⟩ = some (.slice (some ⟨U, 0, none⟩) eff eff) := heap_of_cell hR 0
  have c1 : W.cell? ⟨R, 1, none⟩ = some (.iface 47 (.pointer (some ⟨S, 0, none⟩))) := heap_of_cell hR 1
  have c3 : W.cell? ⟨R, 3, none⟩ = some (.int .i64 v) := heap_of_cell hR 3
  have q1 : decide ((eff : Int) ≤ (v : Int)) = false := by simp; omega
  go_region
  go_wp2_with fail
  have gv : (v : Int) < (eff : Int) := by omega
  have gv0 : (0 : Int) ≤ (v : Int) := Int.natCast_nonneg _
  have gv1 : (v : Int) ≤ (eff : Int) := by omega
  have hne : ¬ eff = v := by omega
  have hm : ∀ w', (Go.method 229 47 (.pointer (some ⟨S, 0, none⟩)) "Read").run Tryd.prog w' = .ok (72, .pointer (some ⟨S, 0, none⟩)) w' := fun w' => by kernel_rfl
  have hR' : W.drew.heap[R]? = some (.cells (Rcells eff U S 0 v er x y) 74 (0, 0)) := hR
  have hU' : W.drew.heap[U]? = some (.cells (bcells ub1) 5 (0, 0)) := hU
  have hC' := hC.drew
  have hE' : W.drew.cell? ⟨1, 0, none⟩ = some (.iface 91 (.pointer (some aE))) := hE
  have hS' : W.drew.heap[S]? = some (.cells (Scells (.slice ao n c) i pr) 62 (0, 0)) := hS
  clear hR hU hS hE hC c0 c1 c3
  generalize W.drew = W1 at *
  go_loopw [2] (fun i wr => i = .int .i64 100 ∧ wr = W1) (fun _ _ => 0)
  case atStart => exact ⟨rfl, rfl⟩
  case round =>
    obtain ⟨rfl, rfl⟩ := hrel
    go_wp2_with fail
    have c0 : wr.cell? ⟨R, 0, none⟩ = some (.slice (some ⟨U, 0, none⟩) eff eff) := heap_of_cell hR' 0
    have c1 : wr.cell? ⟨R, 1, none⟩ = some (.iface 47 (.pointer (some ⟨S, 0, none⟩))) := heap_of_cell hR' 1
    have c3 : wr.cell? ⟨R, 3, none⟩ = some (.int .i64 v) := heap_of_cell hR' 3
    go_region_held3 (fun w' => w'.cell? ⟨R, 0, none⟩ = some (.slice (some ⟨U, 0, none⟩) eff eff) ∧ w'.cell? ⟨R, 1, none⟩ = some (.iface 47 (.pointer (some ⟨S, 0, none⟩))) ∧ w'.cell? ⟨R, 3, none⟩ = some (.int .i64 v))
      (first | exact ⟨k0, k1, k3⟩ | exact ⟨c0, c1, c3⟩)
      ((go_at_call 72; go_must (refine (read_eof S i n c ao pr _ aE wr.drew hS' hE' hi hi2).mono ?_; rintro e w' ⟨rfl, hCh⟩; have hRR := (hCh.block R (heap_lt hR') (fun h => h.elim)).trans hR'; have k0 := heap_of_cell hRR 0; have k1 := heap_of_cell hRR 1; have k3 := heap_of_cell hRR 3)))
    have hR2 : w'.heap[R]? = some (.cells (Rcells eff U S 0 v er x y) 74 (0, 0)) := (hCh.block R (heap_lt hR') (fun h => h.elim)).trans hR'
    have hU2 : w'.heap[U]? = some (.cells (bcells ub1) 5 (0, 0)) := (hCh.block U (heap_lt hU') (fun h => h.elim)).trans hU'
    have hS2 : w'.heap[S]? = some (.cells (Scells (.slice ao n c) i pr) 62 (0, 0)) := (hCh.block S (heap_lt hS') (fun h => h.elim)).trans hS'
    have hC2 : Chg (fun b => b = R ∨ b = U ∨ b = S) w w' := hC'.trans (Chg.mono (a := wr) ⟨hCh.os, hCh.tape, hCh.output, hCh.size, hCh.block⟩ (fun _ _ h => h.elim)) (fun _ _ h => h)
    have hwr : IntKind.i64.wrap ((v : Int) + 0) = (v : Int) := by rw [IntKind.wrap_i64]; omega
    have d3 : w'.cell? ⟨R, 3, none⟩ = some (.int .i64 v) := heap_of_cell hR2 3
    have d4 : w'.cell? ⟨R, 4, none⟩ = some er := heap_of_cell hR2 4
    have f3 : w'.frozen? ⟨R, 3, none⟩ = false := heap_frozen hR2 3
    have f4 : w'.frozen? ⟨R, 4, none⟩ = false := heap_frozen hR2 4
    clear hCh hC' hR' hU' hS' c0 c1 c3 k0 k1 k3 hRR
    go_wp2_with fail
    (try simp only [Exit.inBlock, Exit.then])
    refine bodyPost_ret (results_none rfl _ _ _) rfl ?_
    exact ⟨rfl, (heap_setCell_same (w'.setCell ⟨R, 3, none⟩ (.int .i64 v)) R 4 _ 74 _ (heap_setCell_same w' R 3 _ 74 _ hR2)).trans (by simp [Rcells]), (Below.heap_setCell _ _ _ U hRU.symm).trans ((Below.heap_setCell w' _ _ U hRU.symm).trans hU2), (Below.heap_setCell _ _ _ S hRS.symm).trans ((Below.heap_setCell w' _ _ S hRS.symm).trans hS2), (hC2.setCell (.inl (.inl rfl)) _).setCell (.inl (.inl rfl)) _⟩

set_option maxRecDepth 100000 in
set_option maxHeartbeats 4000000 in
theorem fill_someA (R S U eff r wv v n c : Nat) (i : Nat) (pr x y : Int) (er : Value) (ub ub1 : List Int) (w : World)
    (hR : w.heap[R]? = some (.cells (Rcells eff U S r wv er x y) 74 (0, 0))) (hU : w.heap[U]? = some (.cells (bcells ub) 5 (0, 0))) (hl : ub.length = eff) (heff : eff ≤ 2000000) (hRU : R ≠ U) (hRS : R ≠ S) (hSU : S ≠ U)
    (hr : r = 0) (hw : wv < eff) (hvv : v = wv) (hub1 : ub1 = ub) (D : Nat) (l : List Int) (hS : w.heap[S]? = some (.cells (Scells (.slice (some ⟨D, 0, none⟩) n c) i pr) 62 (0, 0))) (hD : ∀ j, j < n → w.cell? ⟨D, j, none⟩ = some (.int .u8 (l.getD j 0))) (hll : l.length = n) (hnc : n ≤ c) (hn : n ≤ 2000000) (hcb : c ≤ 140737488355328) (hi : i < n)
    (hDS : D ≠ S) (hDU : D ≠ U) (hDR : D ≠ R) (k : Nat) (hk : k = min (eff - v) (n - i)) :
    Calls Tryd.prog 52 #[.pointer (some ⟨R, 0, none⟩)] w fun e w' => e = .returned (.tuple #[]) ∧ w'.heap[R]? = some (.cells (Rcells eff U S 0 (v + k) er x y) 74 (0, 0)) ∧
      w'.heap[U]? = some (.cells (bcells (splL ub1 v ((l.drop i).take k))) 5 (0, 0)) ∧ w'.heap[S]? = some (.cells (Scells (.slice (some ⟨D, 0, none⟩) n c) (i + k) (-1)) 62 (0, 0)) ∧ Chg (fun b => b = R ∨ b = U ∨ b = S) w w' := by
  subst hr
  subst hvv
  subst hub1
  have hv : v < eff := hw
  have hl1 : ub1.length = eff := hl
  have hC : Chg (fun b => b = R ∨ b = U ∨ b = S) w w := Chg.refl _ _
  obtain ⟨W, hW⟩ : ∃ W, W = w := ⟨_, rfl⟩
  have c2 : w.cell? ⟨R, 2, none⟩ = some (.int .i64 (0 : Nat)) := heap_of_cell hR 2
  have q0 : decide ((0 : Int) < ((0 : Nat) : Int)) = false := rfl
  go_enter Tryd.func52, Tryd.ntmps52
  go_wp2_with fail
  rw [← hW]
  rw [← hW] at hR hU hS hD
  have hC : Chg (fun b => b = R ∨ b = U ∨ b = S) w W := hW ▸ hC
  clear hW
  have c0 : W.cell? ⟨R, 0, none⟩ = some (.slice (some ⟨U, 0, none⟩) eff eff) := heap_of_cell hR 0
  have c1 : W.cell? ⟨R, 1, none⟩ = some (.iface 47 (.pointer (some ⟨S, 0, none⟩))) := heap_of_cell hR 1
  have c3 : W.cell? ⟨R, 3, none⟩ = some (.int .i64 v) := heap_of_cell hR 3
  have q1 : decide ((eff : Int) ≤ (v : Int)) = false := by simp; omega
  go_region
  go_wp2_with fail
  have gv : (v : Int) < (eff : Int) := by omega
  have gv0 : (0 : Int) ≤ (v : Int) := Int.natCast_nonneg _
  have gv1 : (v : Int) ≤ (eff : Int) := by omega
  have hne : ¬ eff = v := by omega
  have hm : ∀ w', (Go.method 229 47 (.pointer (some ⟨S, 0, none⟩)) "Read").run Tryd.prog w' = .ok (72, .pointer (some ⟨S, 0, none⟩)) w' := fun w' => by kernel_rfl
  have hR' : W.drew.heap[R]? = some (.cells (Rcells eff U S 0 v er x y) 74 (0, 0)) := hR
  have hU' : W.drew.heap[U]? = some (.cells (bcells ub1) 5 (0, 0)) := hU
  have hC' := hC.drew
  have hD' : ∀ j, j < n → W.drew.cell? ⟨D, j, none⟩ = some (.int .u8 (l.getD j 0)) := hD
  have hS' : W.drew.heap[S]? = some (.cells (Scells (.slice (some ⟨D, 0, none⟩) n c) i pr) 62 (0, 0)) := hS
  clear hR hU hS hD hC c0 c1 c3
  generalize W.drew = W1 at *
  go_loopw [2] (fun i wr => i = .int .i64 100 ∧ wr = W1) (fun _ _ => 0)
  case atStart => exact ⟨rfl, rfl⟩
  case round =>
    obtain ⟨rfl, rfl⟩ := hrel
    go_wp2_with fail
    have c0 : wr.cell? ⟨R, 0, none⟩ = some (.slice (some ⟨U, 0, none⟩) eff eff) := heap_of_cell hR' 0
    have c1 : wr.cell? ⟨R, 1, none⟩ = some (.iface 47 (.pointer (some ⟨S, 0, none⟩))) := heap_of_cell hR' 1
    have c3 : wr.cell? ⟨R, 3, none⟩ = some (.int .i64 v) := heap_of_cell hR' 3
    have hS3 : wr.drew.heap[S]? = some (.cells (Scells (.slice (some ⟨D, 0, none⟩) n c) i pr) 62 (0, 0)) := hS'
    have hU3 : wr.drew.heap[U]? = some (.cells (bcells ub1) 5 (0, 0)) := hU'
    have hD3 : ∀ j, j < n → wr.drew.cell? ⟨D, j, none⟩ = some (.int .u8 (l.getD j 0)) := hD'
    have hsz : v + (eff - v) ≤ (bcells ub1).size := by rw [bcells_size]; omega
    have hsz2 : eff - v ≤ 2000000 := by omega
    have hrd := read_some S U D v (eff - v) (eff - v) i n c l (bcells ub1) pr wr.drew hS3 hU3 hD3 hll hnc hn hcb hi hsz hsz2 hSU hDS hDU k hk
    rw [laidOver_bcells] at hrd
    have hk0 : 0 < k := by omega
    have hk9 : v + k ≤ eff := by omega
    clear hS3 hU3 hD3 hsz hsz2 hk
    go_region_held3 (fun w' => w'.cell? ⟨R, 0, none⟩ = some (.slice (some ⟨U, 0, none⟩) eff eff) ∧ w'.cell? ⟨R, 1, none⟩ = some (.iface 47 (.pointer (some ⟨S, 0, none⟩))) ∧ w'.cell? ⟨R, 3, none⟩ = some (.int .i64 v))
      (first | exact ⟨k0, k1, k3⟩ | exact ⟨c0, c1, c3⟩)
      ((go_at_call 72; go_must ((try rw [if_neg hne]); refine hrd.mono ?_; rintro e w' ⟨rfl, hS2, hU2, hCh⟩; have hRR := (hCh.block R (heap_lt hR') (fun h => h.elim hRS hRU)).trans hR'; have k0 := heap_of_cell hRR 0; have k1 := heap_of_cell hRR 1; have k3 := heap_of_cell hRR 3)))
    have hR2 : w'.heap[R]? = some (.cells (Rcells eff U S 0 v er x y) 74 (0, 0)) := (hCh.block R (heap_lt hR') (fun h => h.elim hRS hRU)).trans hR'
    have hC2 : Chg (fun b => b = R ∨ b = U ∨ b = S) w w' := hC'.trans (Chg.mono (G := (fun b => b = R ∨ b = U ∨ b = S)) (a := wr) ⟨hCh.os, hCh.tape, hCh.output, hCh.size, hCh.block⟩ (fun _ _ h => h.elim (fun h => .inr (.inr h)) (fun h => .inr (.inl h)))) (fun _ _ h => h)
    have hwr : IntKind.i64.wrap ((v : Int) + (k : Int)) = ((v + k : Nat) : Int) := by rw [IntKind.wrap_i64]; omega
    have q2 : decide ((k : Int) < 0) = false := decide_eq_false (by omega)
    have q3 : decide ((0 : Int) < (k : Int)) = true := decide_eq_true (by omega)
    have d3 : w'.cell? ⟨R, 3, none⟩ = some (.int .i64 v) := heap_of_cell hR2 3
    have d4 : w'.cell? ⟨R, 4, none⟩ = some er := heap_of_cell hR2 4
    have f3 : w'.frozen? ⟨R, 3, none⟩ = false := heap_frozen hR2 3
    have f4 : w'.frozen? ⟨R, 4, none⟩ = false := heap_frozen hR2 4
    clear hCh hC' hR' hU' hS' c0 c1 c3 k0 k1 k3 hRR
    go_wp2_with fail
    (try simp only [Exit.inBlock, Exit.then])
    refine bodyPost_ret (results_none rfl _ _ _) rfl ?_
    exact ⟨rfl, (heap_setCell_same w' R 3 _ 74 _ hR2).trans (by simp [Rcells]), (Below.heap_setCell w' _ _ U hRU.symm).trans hU2, (Below.heap_setCell w' _ _ S hRS.symm).trans hS2, hC2.setCell (.inl (.inl rfl)) _⟩

set_option maxRecDepth 100000 in
set_option maxHeartbeats 4000000 in
theorem fill_eofB (R S U eff r wv v n c : Nat) (i : Nat) (pr x y : Int) (er : Value) (ub ub1 : List Int) (w : World)
    (hR : w.heap[R]? = some (.cells (Rcells eff U S r wv er x y) 74 (0, 0))) (hU : w.heap[U]? = some (.cells (bcells ub) 5 (0, 0))) (hl : ub.length = eff) (heff : eff ≤ 2000000) (hRU : R ≠ U) (hRS : R ≠ S) (hSU : S ≠ U)
    (hr0 : 0 < r) (hre : r < eff) (hr : r ≤ wv) (hw : wv ≤ eff) (hvv : v = wv - r) (hub1 : ub1 = splL ub 0 ((ub.drop r).take (wv - r))) (ao : Option Addr) (aE : Addr) (hS : w.heap[S]? = some (.cells (Scells (.slice ao n c) i pr) 62 (0, 0))) (hE : w.cell? ⟨1, 0, none⟩ = some (.iface 91 (.pointer (some aE)))) (hi : n ≤ i) (hi2 : i ≤ 2000000) (h1 : 1 ≠ R ∧ 1 ≠ U ∧ 1 ≠ S) :
    Calls Tryd.prog 52 #[.pointer (some ⟨R, 0, none⟩)] w fun e w' => e = .returned (.tuple #[]) ∧ w'.heap[R]? = some (.cells (Rcells eff U S 0 v (.iface 91 (.pointer (some aE))) x y) 74 (0, 0)) ∧
      w'.heap[U]? = some (.cells (bcells ub1) 5 (0, 0)) ∧ w'.heap[S]? = some (.cells (Scells (.slice ao n c) i pr) 62 (0, 0)) ∧ Chg (fun b => b = R ∨ b = U ∨ b = S) w w' := by
  have hv : v < eff := by omega
  have hl1 : ub1.length = eff := by rw [hub1, splL_length _ _ _ (by simp; omega), hl]
  have hcp := fun ty => slide_run U eff r wv ub w.drew hU hl hr hw ty
  simp only [← hub1] at hcp
  have g3 : (r : Int) < (eff : Int) := by omega
  have hR1 : (w.drew.setRow U (bcells ub1)).heap[R]? = some (.cells (Rcells eff U S r wv er x y) 74 (0, 0)) := (setRow_other w.drew U R _ hRU).trans hR
  have hU1 : (w.drew.setRow U (bcells ub1)).heap[U]? = some (.cells (bcells ub1) 5 (0, 0)) := setRow_heap w.drew U _ _ 5 _ hU
  have hS1 : (w.drew.setRow U (bcells ub1)).heap[S]? = some (.cells (Scells (.slice ao n c) i pr) 62 (0, 0)) := (setRow_other w.drew U S _ hSU).trans hS
  have hhE1 : (w.drew.setRow U (bcells ub1)).cell? ⟨1, 0, none⟩ = some (.iface 91 (.pointer (some aE))) := (World.cell?_of_block (a := ⟨1, 0, none⟩) (setRow_other w.drew U 1 _ h1.2.1)).trans hE
  have hC1 : Chg (fun b => b = R ∨ b = U ∨ b = S) w (w.drew.setRow U (bcells ub1)) := (Chg.refl _ _).drew.setRow (.inl (.inr (.inl rfl))) _
  have c0 : w.cell? ⟨R, 0, none⟩ = some (.slice (some ⟨U, 0, none⟩) eff eff) := heap_of_cell hR 0
  have c2 : w.cell? ⟨R, 2, none⟩ = some (.int .i64 r) := heap_of_cell hR 2
  have c3 : w.cell? ⟨R, 3, none⟩ = some (.int .i64 wv) := heap_of_cell hR 3
  have g0 : (0 : Int) ≤ (r : Int) := Int.natCast_nonneg _
  have g1 : (r : Int) ≤ (wv : Int) := by omega
  have g2 : (wv : Int) ≤ (eff : Int) := by omega
  have hd : decide ((0 : Int) < (r : Int)) = true := by simp; omega
  have hwr : IntKind.i64.wrap ((wv : Int) - (r : Int)) = (v : Int) := by rw [IntKind.wrap_i64]; omega
  clear hvv hub1
  clear hU hS hR hE
  generalize (w.drew.setRow U (bcells ub1)) = V at *
  go_enter Tryd.func52, Tryd.ntmps52
  go_wp2_with fail
  have e0 : V.cell? ⟨R, 0, none⟩ = some (.slice (some ⟨U, 0, none⟩) eff eff) := heap_of_cell hR1 0
  have e2 : V.cell? ⟨R, 2, none⟩ = some (.int .i64 r) := heap_of_cell hR1 2
  have e3 : V.cell? ⟨R, 3, none⟩ = some (.int .i64 wv) := heap_of_cell hR1 3
  go_region_held3 (fun w' => w'.cell? ⟨R, 0, none⟩ = some (.slice (some ⟨U, 0, none⟩) eff eff) ∧ w'.cell? ⟨R, 2, none⟩ = some (.int .i64 r) ∧ w'.cell? ⟨R, 3, none⟩ = some (.int .i64 wv)) (first | exact ⟨e0, e2, e3⟩ | exact ⟨c0, c2, c3⟩) (fail)
  go_wp2_with fail
  have f3 : V.frozen? ⟨R, 3, none⟩ = false := heap_frozen hR1 3
  have f2 : V.frozen? ⟨R, 2, none⟩ = false := heap_frozen hR1 2
  clear c0 c2 c3 hcp
  go_region
  go_wp2_with fail
  have hR : ((V.setCell ⟨R, 3, none⟩ (.int .i64 v)).setCell ⟨R, 2, none⟩ (.int .i64 0)).drew.heap[R]? = some (.cells (Rcells eff U S 0 v er x y) 74 (0, 0)) := (heap_setCell_same (V.setCell ⟨R, 3, none⟩ (.int .i64 v)) R 2 _ 74 _ (heap_setCell_same V R 3 _ 74 _ hR1)).trans (by simp [Rcells])
  have hU : ((V.setCell ⟨R, 3, none⟩ (.int .i64 v)).setCell ⟨R, 2, none⟩ (.int .i64 0)).drew.heap[U]? = some (.cells (bcells ub1) 5 (0, 0)) := (Below.heap_setCell _ _ _ U hRU.symm).trans ((Below.heap_setCell V _ _ U hRU.symm).trans hU1)
  have hS : ((V.setCell ⟨R, 3, none⟩ (.int .i64 v)).setCell ⟨R, 2, none⟩ (.int .i64 0)).drew.heap[S]? = some (.cells (Scells (.slice ao n c) i pr) 62 (0, 0)) := (Below.heap_setCell _ _ _ S hRS.symm).trans ((Below.heap_setCell V _ _ S hRS.symm).trans hS1)
  have hE : ((V.setCell ⟨R, 3, none⟩ (.int .i64 v)).setCell ⟨R, 2, none⟩ (.int .i64 0)).drew.cell? ⟨1, 0, none⟩ = some (.iface 91 (.pointer (some aE))) := (World.cell?_of_block (a := ⟨1, 0, none⟩) ((Below.heap_setCell _ _ _ 1 h1.1).trans (Below.heap_setCell V _ _ 1 h1.1))).trans hhE1
  have hC : Chg (fun b => b = R ∨ b = U ∨ b = S) w ((V.setCell ⟨R, 3, none⟩ (.int .i64 v)).setCell ⟨R, 2, none⟩ (.int .i64 0)).drew := ((hC1.setCell (.inl (.inl rfl)) _).setCell (.inl (.inl rfl)) _).drew
  clear hR1 hU1 hS1 hhE1 hC1 f3 f2 hwr e0 e2 e3
  generalize ((V.setCell ⟨R, 3, none⟩ (.int .i64 v)).setCell ⟨R, 2, none⟩ (.int .i64 0)).drew = W at *
  have c0 : W.cell? ⟨R, 0, none⟩ = some (.slice (some ⟨U, 0, none⟩) eff eff) := heap_of_cell hR 0
  have c1 : W.cell? ⟨R, 1, none⟩ = some (.iface 47 (.pointer (some ⟨S, 0, none⟩))) := heap_of_cell hR 1
  have c3 : W.cell? ⟨R, 3, none⟩ = some (.int .i64 v) := heap_of_cell hR 3
  have q1 : decide ((eff : Int) ≤ (v : Int)) = false := by simp; omega
  go_region
  go_wp2_with fail
  have gv : (v : Int) < (eff : Int) := by omega
  have gv0 : (0 : Int) ≤ (v : Int) := Int.natCast_nonneg _
  have gv1 : (v : Int) ≤ (eff : Int) := by omega
  have hne : ¬ eff = v := by omega
  have hm : ∀ w', (Go.method 229 47 (.pointer (some ⟨S, 0, none⟩)) "Read").run Tryd.prog w' = .ok (72, .pointer (some ⟨S, 0, none⟩)) w' := fun w' => by kernel_rfl
  have hR' : W.drew.heap[R]? = some (.cells (Rcells eff U S 0 v er x y) 74 (0, 0)) := hR
  have hU' : W.drew.heap[U]? = some (.cells (bcells ub1) 5 (0, 0)) := hU
  have hC' := hC.drew
  have hE' : W.drew.cell? ⟨1, 0, none⟩ = some (.iface 91 (.pointer (some aE))) := hE
  have hS' : W.drew.heap[S]? = some (.cells (Scells (.slice ao n c) i pr) 62 (0, 0)) := hS
  clear hR hU hS hE hC c0 c1 c3
  generalize W.drew = W1 at *
  go_loopw [2] (fun i wr => i = .int .i64 100 ∧ wr = W1) (fun _ _ => 0)
  case atStart => exact ⟨rfl, rfl⟩
  case round =>
    obtain ⟨rfl, rfl⟩ := hrel
    go_wp2_with fail
    have c0 : wr.cell? ⟨R, 0, none⟩ = some (.slice (some ⟨U, 0, none⟩) eff eff) := heap_of_cell hR' 0
    have c1 : wr.cell? ⟨R, 1, none⟩ = some (.iface 47 (.pointer (some ⟨S, 0, none⟩))) := heap_of_cell hR' 1
    have c3 : wr.cell? ⟨R, 3, none⟩ = some (.int .i64 v) := heap_of_cell hR' 3
    go_region_held3 (fun w' => w'.cell? ⟨R, 0, none⟩ = some (.slice (some ⟨U, 0, none⟩) eff eff) ∧ w'.cell? ⟨R, 1, none⟩ = some (.iface 47 (.pointer (some ⟨S, 0, none⟩))) ∧ w'.cell? ⟨R, 3, none⟩ = some (.int .i64 v))
      (first | exact ⟨k0, k1, k3⟩ | exact ⟨c0, c1, c3⟩)
      ((go_at_call 72; go_must (refine (read_eof S i n c ao pr _ aE wr.drew hS' hE' hi hi2).mono ?_; rintro e w' ⟨rfl, hCh⟩; have hRR := (hCh.block R (heap_lt hR') (fun h => h.elim)).trans hR'; have k0 := heap_of_cell hRR 0; have k1 := heap_of_cell hRR 1; have k3 := heap_of_cell hRR 3)))
    have hR2 : w'.heap[R]? = some (.cells (Rcells eff U S 0 v er x y) 74 (0, 0)) := (hCh.block R (heap_lt hR') (fun h => h.elim)).trans hR'
    have hU2 : w'.heap[U]? = some (.cells (bcells ub1) 5 (0, 0)) := (hCh.block U (heap_lt hU') (fun h => h.elim)).trans hU'
    have hS2 : w'.heap[S]? = some (.cells (Scells (.slice ao n c) i pr) 62 (0, 0)) := (hCh.block S (heap_lt hS') (fun h => h.elim)).trans hS'
    have hC2 : Chg (fun b => b = R ∨ b = U ∨ b = S) w w' := hC'.trans (Chg.mono (a := wr) ⟨hCh.os, hCh.tape, hCh.output, hCh.size, hCh.block⟩ (fun _ _ h => h.elim)) (fun _ _ h => h)
    have hwr : IntKind.i64.wrap ((v : Int) + 0) = (v : Int) := by rw [IntKind.wrap_i64]; omega
    have d3 : w'.cell? ⟨R, 3, none⟩ = some (.int .i64 v) := heap_of_cell hR2 3
    have d4 : w'.cell? ⟨R, 4, none⟩ = some er := heap_of_cell hR2 4
    have f3 : w'.frozen? ⟨R, 3, none⟩ = false := heap_frozen hR2 3
    have f4 : w'.frozen? ⟨R, 4, none⟩ = false := heap_frozen hR2 4
    clear hCh hC' hR' hU' hS' c0 c1 c3 k0 k1 k3 hRR
    go_wp2_with fail
    (try simp only [Exit.inBlock, Exit.then])
    refine bodyPost_ret (results_none rfl _ _ _) rfl ?_
    exact ⟨rfl, (heap_setCell_same (w'.setCell ⟨R, 3, none⟩ (.int .i64 v)) R 4 _ 74 _ (heap_setCell_same w' R 3 _ 74 _ hR2)).trans (by simp [Rcells]), (Below.heap_setCell _ _ _ U hRU.symm).trans ((Below.heap_setCell w' _ _ U hRU.symm).trans hU2), (Below.heap_setCell _ _ _ S hRS.symm).trans ((Below.heap_setCell w' _ _ S hRS.symm).trans hS2), (hC2.setCell (.inl (.inl rfl)) _).setCell (.inl (.inl rfl)) _⟩

set_option maxRecDepth 100000 in
set_option maxHeartbeats 4000000 in
theorem fill_someB (R S U eff r wv v n c : Nat) (i : Nat) (pr x y : Int) (er : Value) (ub ub1 : List Int) (w : World)
    (hR : w.heap[R]? = some (.cells (Rcells eff U S r wv er x y) 74 (0, 0))) (hU : w.heap[U]? = some (.cells (bcells ub) 5 (0, 0))) (hl : ub.length = eff) (heff : eff ≤ 2000000) (hRU : R ≠ U) (hRS : R ≠ S) (hSU : S ≠ U)
    (hr0 : 0 < r) (hre : r < eff) (hr : r ≤ wv) (hw : wv ≤ eff) (hvv : v = wv - r) (hub1 : ub1 = splL ub 0 ((ub.drop r).take (wv - r))) (D : Nat) (l : List Int) (hS : w.heap[S]? = some (.cells (Scells (.slice (some ⟨D, 0, none⟩) n c) i pr) 62 (0, 0))) (hD : ∀ j, j < n → w.cell? ⟨D, j, none⟩ = some (.int .u8 (l.getD j 0))) (hll : l.length = n) (hnc : n ≤ c) (hn : n ≤ 2000000) (hcb : c ≤ 140737488355328) (hi : i < n)
    (hDS : D ≠ S) (hDU : D ≠ U) (hDR : D ≠ R) (k : Nat) (hk : k = min (eff - v) (n - i)) :
    Calls Tryd.prog 52 #[.pointer (some ⟨R, 0, none⟩)] w fun e w' => e = .returned (.tuple #[]) ∧ w'.heap[R]? = some (.cells (Rcells eff U S 0 (v + k) er x y) 74 (0, 0)) ∧
      w'.heap[U]? = some (.cells (bcells (splL ub1 v ((l.drop i).take k))) 5 (0, 0)) ∧ w'.heap[S]? = some (.cells (Scells (.slice (some ⟨D, 0, none⟩) n c) (i + k) (-1)) 62 (0, 0)) ∧ Chg (fun b => b = R ∨ b = U ∨ b = S) w w' := by
  have hv : v < eff := by omega
  have hl1 : ub1.length = eff := by rw [hub1, splL_length _ _ _ (by simp; omega), hl]
  have hcp := fun ty => slide_run U eff r wv ub w.drew hU hl hr hw ty
  simp only [← hub1] at hcp
  have g3 : (r : Int) < (eff : Int) := by omega
  have hR1 : (w.drew.setRow U (bcells ub1)).heap[R]? = some (.cells (Rcells eff U S r wv er x y) 74 (0, 0)) := (setRow_other w.drew U R _ hRU).trans hR
  have hU1 : (w.drew.setRow U (bcells ub1)).heap[U]? = some (.cells (bcells ub1) 5 (0, 0)) := setRow_heap w.drew U _ _ 5 _ hU
  have hS1 : (w.drew.setRow U (bcells ub1)).heap[S]? = some (.cells (Scells (.slice (some ⟨D, 0, none⟩) n c) i pr) 62 (0, 0)) := (setRow_other w.drew U S _ hSU).trans hS
  have hhD1 : ∀ j, j < n → (w.drew.setRow U (bcells ub1)).cell? ⟨D, j, none⟩ = some (.int .u8 (l.getD j 0)) := fun j hj => (World.cell?_of_block (a := ⟨D, j, none⟩) (setRow_other w.drew U D _ hDU)).trans (hD j hj)
  have hC1 : Chg (fun b => b = R ∨ b = U ∨ b = S) w (w.drew.setRow U (bcells ub1)) := (Chg.refl _ _).drew.setRow (.inl (.inr (.inl rfl))) _
  have c0 : w.cell? ⟨R, 0, none⟩ = some (.slice (some ⟨U, 0, none⟩) eff eff) := heap_of_cell hR 0
  have c2 : w.cell? ⟨R, 2, none⟩ = some (.int .i64 r) := heap_of_cell hR 2
  have c3 : w.cell? ⟨R, 3, none⟩ = some (.int .i64 wv) := heap_of_cell hR 3
  have g0 : (0 : Int) ≤ (r : Int) := Int.natCast_nonneg _
  have g1 : (r : Int) ≤ (wv : Int) := by omega
  have g2 : (wv : Int) ≤ (eff : Int) := by omega
  have hd : decide ((0 : Int) < (r : Int)) = true := by simp; omega
  have hwr : IntKind.i64.wrap ((wv : Int) - (r : Int)) = (v : Int) := by rw [IntKind.wrap_i64]; omega
  clear hvv hub1
  clear hU hS hR hD
  generalize (w.drew.setRow U (bcells ub1)) = V at *
  go_enter Tryd.func52, Tryd.ntmps52
  go_wp2_with fail
  have e0 : V.cell? ⟨R, 0, none⟩ = some (.slice (some ⟨U, 0, none⟩) eff eff) := heap_of_cell hR1 0
  have e2 : V.cell? ⟨R, 2, none⟩ = some (.int .i64 r) := heap_of_cell hR1 2
  have e3 : V.cell? ⟨R, 3, none⟩ = some (.int .i64 wv) := heap_of_cell hR1 3
  go_region_held3 (fun w' => w'.cell? ⟨R, 0, none⟩ = some (.slice (some ⟨U, 0, none⟩) eff eff) ∧ w'.cell? ⟨R, 2, none⟩ = some (.int .i64 r) ∧ w'.cell? ⟨R, 3, none⟩ = some (.int .i64 wv)) (first | exact ⟨e0, e2, e3⟩ | exact ⟨c0, c2, c3⟩) (fail)
  go_wp2_with fail
  have f3 : V.frozen? ⟨R, 3, none⟩ = false := heap_frozen hR1 3
  have f2 : V.frozen? ⟨R, 2, none⟩ = false := heap_frozen hR1 2
  clear c0 c2 c3 hcp
  go_region
  go_wp2_with fail
  have hR : ((V.setCell ⟨R, 3, none⟩ (.int .i64 v)).setCell ⟨R, 2, none⟩ (.int .i64 0)).drew.heap[R]? = some (.cells (Rcells eff U S 0 v er x y) 74 (0, 0)) := (heap_setCell_same (V.setCell ⟨R, 3, none⟩ (.int .i64 v)) R 2 _ 74 _ (heap_setCell_same V R 3 _ 74 _ hR1)).trans (by simp [Rcells])
  have hU : ((V.setCell ⟨R, 3, none⟩ (.int .i64 v)).setCell ⟨R, 2, none⟩ (.int .i64 0)).drew.heap[U]? = some (.cells (bcells ub1) 5 (0, 0)) := (Below.heap_setCell _ _ _ U hRU.symm).trans ((Below.heap_setCell V _ _ U hRU.symm).trans hU1)
  have hS : ((V.setCell ⟨R, 3, none⟩ (.int .i64 v)).setCell ⟨R, 2, none⟩ (.int .i64 0)).drew.heap[S]? = some (.cells (Scells (.slice (some ⟨D, 0, none⟩) n c) i pr) 62 (0, 0)) := (Below.heap_setCell _ _ _ S hRS.symm).trans ((Below.heap_setCell V _ _ S hRS.symm).trans hS1)
  have hD : ∀ j, j < n → ((V.setCell ⟨R, 3, none⟩ (.int .i64 v)).setCell ⟨R, 2, none⟩ (.int .i64 0)).drew.cell? ⟨D, j, none⟩ = some (.int .u8 (l.getD j 0)) := fun j hj => (World.cell?_of_block (a := ⟨D, j, none⟩) ((Below.heap_setCell _ _ _ D hDR).trans (Below.heap_setCell V _ _ D hDR))).trans (hhD1 j hj)
  have hC : Chg (fun b => b = R ∨ b = U ∨ b = S) w ((V.setCell ⟨R, 3, none⟩ (.int .i64 v)).setCell ⟨R, 2, none⟩ (.int .i64 0)).drew := ((hC1.setCell (.inl (.inl rfl)) _).setCell (.inl (.inl rfl)) _).drew
  clear hR1 hU1 hS1 hhD1 hC1 f3 f2 hwr e0 e2 e3
  generalize ((V.setCell ⟨R, 3, none⟩ (.int .i64 v)).setCell ⟨R, 2, none⟩ (.int .i64 0)).drew = W at *
  have c0 : W.cell? ⟨R, 0, none⟩ = some (.slice (some ⟨U, 0, none⟩) eff eff) := heap_of_cell hR 0
  have c1 : W.cell? ⟨R, 1, none⟩ = some (.iface 47 (.pointer (some ⟨S, 0, none⟩))) := heap_of_cell hR 1
  have c3 : W.cell? ⟨R, 3, none⟩ = some (.int .i64 v) := heap_of_cell hR 3
  have q1 : decide ((eff : Int) ≤ (v : Int)) = false := by simp; omega
  go_region
  go_wp2_with fail
  have gv : (v : Int) < (eff : Int) := by omega
  have gv0 : (0 : Int) ≤ (v : Int) := Int.natCast_nonneg _
  have gv1 : (v : Int) ≤ (eff : Int) := by omega
  have hne : ¬ eff = v := by omega
  have hm : ∀ w', (Go.method 229 47 (.pointer (some ⟨S, 0, none⟩)) "Read").run Tryd.prog w' = .ok (72, .pointer (some ⟨S, 0, none⟩)) w' := fun w' => by kernel_rfl
  have hR' : W.drew.heap[R]? = some (.cells (Rcells eff U S 0 v er x y) 74 (0, 0)) := hR
  have hU' : W.drew.heap[U]? = some (.cells (bcells ub1) 5 (0, 0)) := hU
  have hC' := hC.drew
  have hD' : ∀ j, j < n → W.drew.cell? ⟨D, j, none⟩ = some (.int .u8 (l.getD j 0)) := hD
  have hS' : W.drew.heap[S]? = some (.cells (Scells (.slice (some ⟨D, 0, none⟩) n c) i pr) 62 (0, 0)) := hS
  clear hR hU hS hD hC c0 c1 c3
  generalize W.drew = W1 at *
  go_loopw [2] (fun i wr => i = .int .i64 100 ∧ wr = W1) (fun _ _ => 0)
  case atStart => exact ⟨rfl, rfl⟩
  case round =>
    obtain ⟨rfl, rfl⟩ := hrel
    go_wp2_with fail
    have c0 : wr.cell? ⟨R, 0, none⟩ = some (.slice (some ⟨U, 0, none⟩) eff eff) := heap_of_cell hR' 0
    have c1 : wr.cell? ⟨R, 1, none⟩ = some (.iface 47 (.pointer (some ⟨S, 0, none⟩))) := heap_of_cell hR' 1
    have c3 : wr.cell? ⟨R, 3, none⟩ = some (.int .i64 v) := heap_of_cell hR' 3
    have hS3 : wr.drew.heap[S]? = some (.cells (Scells (.slice (some ⟨D, 0, none⟩) n c) i pr) 62 (0, 0)) := hS'
    have hU3 : wr.drew.heap[U]? = some (.cells (bcells ub1) 5 (0, 0)) := hU'
    have hD3 : ∀ j, j < n → wr.drew.cell? ⟨D, j, none⟩ = some (.int .u8 (l.getD j 0)) := hD'
    have hsz : v + (eff - v) ≤ (bcells ub1).size := by rw [bcells_size]; omega
    have hsz2 : eff - v ≤ 2000000 := by omega
    have hrd := read_some S U D v (eff - v) (eff - v) i n c l (bcells ub1) pr wr.drew hS3 hU3 hD3 hll hnc hn hcb hi hsz hsz2 hSU hDS hDU k hk
    rw [laidOver_bcells] at hrd
    have hk0 : 0 < k := by omega
    have hk9 : v + k ≤ eff := by omega
    clear hS3 hU3 hD3 hsz hsz2 hk
    go_region_held3 (fun w' => w'.cell? ⟨R, 0, none⟩ = some (.slice (some ⟨U, 0, none⟩) eff eff) ∧ w'.cell? ⟨R, 1, none⟩ = some (.iface 47 (.pointer (some ⟨S, 0, none⟩))) ∧ w'.cell? ⟨R, 3, none⟩ = some (.int .i64 v))
      (first | exact ⟨k0, k1, k3⟩ | exact ⟨c0, c1, c3⟩)
      ((go_at_call 72; go_must ((try rw [if_neg hne]); refine hrd.mono ?_; rintro e w' ⟨rfl, hS2, hU2, hCh⟩; have hRR := (hCh.block R (heap_lt hR') (fun h => h.elim hRS hRU)).trans hR'; have k0 := heap_of_cell hRR 0; have k1 := heap_of_cell hRR 1; have k3 := heap_of_cell hRR 3)))
    have hR2 : w'.heap[R]? = some (.cells (Rcells eff U S 0 v er x y) 74 (0, 0)) := (hCh.block R (heap_lt hR') (fun h => h.elim hRS hRU)).trans hR'
    have hC2 : Chg (fun b => b = R ∨ b = U ∨ b = S) w w' := hC'.trans (Chg.mono (G := (fun b => b = R ∨ b = U ∨ b = S)) (a := wr) ⟨hCh.os, hCh.tape, hCh.output, hCh.size, hCh.block⟩ (fun _ _ h => h.elim (fun h => .inr (.inr h)) (fun h => .inr (.inl h)))) (fun _ _ h => h)
    have hwr : IntKind.i64.wrap ((v : Int) + (k : Int)) = ((v + k : Nat) : Int) := by rw [IntKind.wrap_i64]; omega
    have q2 : decide ((k : Int) < 0) = false := decide_eq_false (by omega)
    have q3 : decide ((0 : Int) < (k : Int)) = true := decide_eq_true (by omega)
    have d3 : w'.cell? ⟨R, 3, none⟩ = some (.int .i64 v) := heap_of_cell hR2 3
    have d4 : w'.cell? ⟨R, 4, none⟩ = some er := heap_of_cell hR2 4
    have f3 : w'.frozen? ⟨R, 3, none⟩ = false := heap_frozen hR2 3
    have f4 : w'.frozen? ⟨R, 4, none⟩ = false := heap_frozen hR2 4
    clear hCh hC' hR' hU' hS' c0 c1 c3 k0 k1 k3 hRR
    go_wp2_with fail
    (try simp only [Exit.inBlock, Exit.then])
    refine bodyPost_ret (results_none rfl _ _ _) rfl ?_
    exact ⟨rfl, (heap_setCell_same w' R 3 _ 74 _ hR2).trans (by simp [Rcells]), (Below.heap_setCell w' _ _ U hRU.symm).trans hU2, (Below.heap_setCell w' _ _ S hRS.symm).trans hS2, hC2.setCell (.inl (.inl rfl)) _⟩

set_option maxRecDepth 100000 in
set_option maxHeartbeats 4000000 in
theorem fill_eofC (R S U eff r wv v n c : Nat) (i : Nat) (pr x y : Int) (er : Value) (ub ub1 : List Int) (w : World)
    (hR : w.heap[R]? = some (.cells (Rcells eff U S r wv er x y) 74 (0, 0))) (hU : w.heap[U]? = some (.cells (bcells ub) 5 (0, 0))) (hl : ub.length = eff) (heff : eff ≤ 2000000) (hRU : R ≠ U) (hRS : R ≠ S) (hSU : S ≠ U)
    (hr0 : 0 < r) (hre : r = eff) (hw : wv = eff) (hvv : v = 0) (hub1 : ub1 = ub) (ao : Option Addr) (aE : Addr) (hS : w.heap[S]? = some (.cells (Scells (.slice ao n c) i pr) 62 (0, 0))) (hE : w.cell? ⟨1, 0, none⟩ = some (.iface 91 (.pointer (some aE)))) (hi : n ≤ i) (hi2 : i ≤ 2000000) (h1 : 1 ≠ R ∧ 1 ≠ U ∧ 1 ≠ S) :
    Calls Tryd.prog 52 #[.pointer (some ⟨R, 0, none⟩)] w fun e w' => e = .returned (.tuple #[]) ∧ w'.heap[R]? = some (.cells (Rcells eff U S 0 v (.iface 91 (.pointer (some aE))) x y) 74 (0, 0)) ∧
      w'.heap[U]? = some (.cells (bcells ub1) 5 (0, 0)) ∧ w'.heap[S]? = some (.cells (Scells (.slice ao n c) i pr) 62 (0, 0)) ∧ Chg (fun b => b = R ∨ b = U ∨ b = S) w w' := by
  obtain rfl : ub1 = ub := hub1
  obtain rfl : eff = wv := hw.symm
  obtain rfl : eff = r := hre.symm
  have hv : v < eff := by omega
  have hl1 : ub1.length = eff := hl
  have hR1 : w.heap[R]? = some (.cells (Rcells eff U S eff eff er x y) 74 (0, 0)) := hR
  have c0 : w.cell? ⟨R, 0, none⟩ = some (.slice (some ⟨U, 0, none⟩) eff eff) := heap_of_cell hR 0
  have c2 : w.cell? ⟨R, 2, none⟩ = some (.int .i64 eff) := heap_of_cell hR 2
  have c3 : w.cell? ⟨R, 3, none⟩ = some (.int .i64 eff) := heap_of_cell hR 3
  have f3 : w.frozen? ⟨R, 3, none⟩ = false := heap_frozen hR 3
  have f2 : w.frozen? ⟨R, 2, none⟩ = false := heap_frozen hR 2
  have hcp := fun ty => run_copy_none (P := Tryd.prog) w.drew 22 22 ty 5 (some ⟨U, 0, none⟩) (some ⟨U, 0, none⟩) eff eff 0 0 Tryd.underlying22 info5s (by simp)
  have g0 : (0 : Int) ≤ (eff : Int) := Int.natCast_nonneg _
  have hd : decide ((0 : Int) < (eff : Int)) = true := by simp; omega
  have hr3 : ((w.setCell ⟨R, 3, none⟩ (.int .i64 0)).setCell ⟨R, 2, none⟩ (.int .i64 0)).drew.drew.heap[R]? = some (.cells (Rcells eff U S 0 v er x y) 74 (0, 0)) := (heap_setCell_same (w.setCell ⟨R, 3, none⟩ (.int .i64 0)) R 2 _ 74 _ (heap_setCell_same w R 3 _ 74 _ hR)).trans (by rw [hvv]; simp [Rcells])
  have hu3 : ((w.setCell ⟨R, 3, none⟩ (.int .i64 0)).setCell ⟨R, 2, none⟩ (.int .i64 0)).drew.drew.heap[U]? = some (.cells (bcells ub1) 5 (0, 0)) := (Below.heap_setCell _ _ _ U hRU.symm).trans ((Below.heap_setCell w _ _ U hRU.symm).trans hU)
  have hs3 : ((w.setCell ⟨R, 3, none⟩ (.int .i64 0)).setCell ⟨R, 2, none⟩ (.int .i64 0)).drew.drew.heap[S]? = some (.cells (Scells (.slice ao n c) i pr) 62 (0, 0)) := (Below.heap_setCell _ _ _ S hRS.symm).trans ((Below.heap_setCell w _ _ S hRS.symm).trans hS)
  have hx3 : ((w.setCell ⟨R, 3, none⟩ (.int .i64 0)).setCell ⟨R, 2, none⟩ (.int .i64 0)).drew.drew.cell? ⟨1, 0, none⟩ = some (.iface 91 (.pointer (some aE))) := (World.cell?_of_block (a := ⟨1, 0, none⟩) ((Below.heap_setCell _ _ _ 1 h1.1).trans (Below.heap_setCell w _ _ 1 h1.1))).trans hE
  have hC3 : Chg (fun b => b = R ∨ b = U ∨ b = S) w ((w.setCell ⟨R, 3, none⟩ (.int .i64 0)).setCell ⟨R, 2, none⟩ (.int .i64 0)).drew.drew := (((Chg.refl _ _).setCell (.inl (.inl rfl)) _).setCell (.inl (.inl rfl)) _).drew.drew
  clear hvv hU hS hR hE hR1
  go_enter Tryd.func52, Tryd.ntmps52
  go_wp2_with fail
  go_region_held3 (fun w' => w'.cell? ⟨R, 0, none⟩ = some (.slice (some ⟨U, 0, none⟩) eff eff) ∧ w'.cell? ⟨R, 2, none⟩ = some (.int .i64 eff) ∧ w'.cell? ⟨R, 3, none⟩ = some (.int .i64 eff)) (first | exact ⟨c0, c2, c3⟩) (fail)
  go_wp2_with fail
  clear hcp
  go_region
  go_wp2_with fail
  have hR := hr3
  have hU := hu3
  have hS := hs3
  have hE := hx3
  have hC := hC3
  clear hr3 hu3 hs3 hx3 hC3 c0 c2 c3 f2 f3
  generalize ((w.setCell ⟨R, 3, none⟩ (.int .i64 0)).setCell ⟨R, 2, none⟩ (.int .i64 0)).drew.drew = W at *
  have c0 : W.cell? ⟨R, 0, none⟩ = some (.slice (some ⟨U, 0, none⟩) eff eff) := heap_of_cell hR 0
  have c1 : W.cell? ⟨R, 1, none⟩ = some (.iface 47 (.pointer (some ⟨S, 0, none⟩))) := heap_of_cell hR 1
  have c3 : W.cell? ⟨R, 3, none⟩ = some (.int .i64 v) := heap_of_cell hR 3
  have q1 : decide ((eff : Int) ≤ (v : Int)) = false := by simp; omega
  go_region
  go_wp2_with fail
  have gv : (v : Int) < (eff : Int) := by omega
  have gv0 : (0 : Int) ≤ (v : Int) := Int.natCast_nonneg _
  have gv1 : (v : Int) ≤ (eff : Int) := by omega
  have hne : ¬ eff = v := by omega
  have hm : ∀ w', (Go.method 229 47 (.pointer (some ⟨S, 0, none⟩)) "Read").run Tryd.prog w' = .ok (72, .pointer (some ⟨S, 0, none⟩)) w' := fun w' => by kernel_rfl
  have hR' : W.drew.heap[R]? = some (.cells (Rcells eff U S 0 v er x y) 74 (0, 0)) := hR
  have hU' : W.drew.heap[U]? = some (.cells (bcells ub1) 5 (0, 0)) := hU
  have hC' := hC.drew
  have hE' : W.drew.cell? ⟨1, 0, none⟩ = some (.iface 91 (.pointer (some aE))) := hE
  have hS' : W.drew.heap[S]? = some (.cells (Scells (.slice ao n c) i pr) 62 (0, 0)) := hS
  clear hR hU hS hE hC c0 c1 c3
  generalize W.drew = W1 at *
  go_loopw [2] (fun i wr => i = .int .i64 100 ∧ wr = W1) (fun _ _ => 0)
  case atStart => exact ⟨rfl, rfl⟩
  case round =>
    obtain ⟨rfl, rfl⟩ := hrel
    go_wp2_with fail
    have c0 : wr.cell? ⟨R, 0, none⟩ = some (.slice (some ⟨U, 0, none⟩) eff eff) := heap_of_cell hR' 0
    have c1 : wr.cell? ⟨R, 1, none⟩ = some (.iface 47 (.pointer (some ⟨S, 0, none⟩))) := heap_of_cell hR' 1
    have c3 : wr.cell? ⟨R, 3, none⟩ = some (.int .i64 v) := heap_of_cell hR' 3
    go_region_held3 (fun w' => w'.cell? ⟨R, 0, none⟩ = some (.slice (some ⟨U, 0, none⟩) eff eff) ∧ w'.cell? ⟨R, 1, none⟩ = some (.iface 47 (.pointer (some ⟨S, 0, none⟩))) ∧ w'.cell? ⟨R, 3, none⟩ = some (.int .i64 v))
      (first | exact ⟨k0, k1, k3⟩ | exact ⟨c0, c1, c3⟩)
      ((go_at_call 72; go_must (refine (read_eof S i n c ao pr _ aE wr.drew hS' hE' hi hi2).mono ?_; rintro e w' ⟨rfl, hCh⟩; have hRR := (hCh.block R (heap_lt hR') (fun h => h.elim)).trans hR'; have k0 := heap_of_cell hRR 0; have k1 := heap_of_cell hRR 1; have k3 := heap_of_cell hRR 3)))
    have hR2 : w'.heap[R]? = some (.cells (Rcells eff U S 0 v er x y) 74 (0, 0)) := (hCh.block R (heap_lt hR') (fun h => h.elim)).trans hR'
    have hU2 : w'.heap[U]? = some (.cells (bcells ub1) 5 (0, 0)) := (hCh.block U (heap_lt hU') (fun h => h.elim)).trans hU'
    have hS2 : w'.heap[S]? = some (.cells (Scells (.slice ao n c) i pr) 62 (0, 0)) := (hCh.block S (heap_lt hS') (fun h => h.elim)).trans hS'
    have hC2 : Chg (fun b => b = R ∨ b = U ∨ b = S) w w' := hC'.trans (Chg.mono (a := wr) ⟨hCh.os, hCh.tape, hCh.output, hCh.size, hCh.block⟩ (fun _ _ h => h.elim)) (fun _ _ h => h)
    have hwr : IntKind.i64.wrap ((v : Int) + 0) = (v : Int) := by rw [IntKind.wrap_i64]; omega
    have d3 : w'.cell? ⟨R, 3, none⟩ = some (.int .i64 v) := heap_of_cell hR2 3
    have d4 : w'.cell? ⟨R, 4, none⟩ = some er := heap_of_cell hR2 4
    have f3 : w'.frozen? ⟨R, 3, none⟩ = false := heap_frozen hR2 3
    have f4 : w'.frozen? ⟨R, 4, none⟩ = false := heap_frozen hR2 4
    clear hCh hC' hR' hU' hS' c0 c1 c3 k0 k1 k3 hRR
    go_wp2_with fail
    (try simp only [Exit.inBlock, Exit.then])
    refine bodyPost_ret (results_none rfl _ _ _) rfl ?_
    exact ⟨rfl, (heap_setCell_same (w'.setCell ⟨R, 3, none⟩ (.int .i64 v)) R 4 _ 74 _ (heap_setCell_same w' R 3 _ 74 _ hR2)).trans (by simp [Rcells]), (Below.heap_setCell _ _ _ U hRU.symm).trans ((Below.heap_setCell w' _ _ U hRU.symm).trans hU2), (Below.heap_setCell _ _ _ S hRS.symm).trans ((Below.heap_setCell w' _ _ S hRS.symm).trans hS2), (hC2.setCell (.inl (.inl rfl)) _).setCell (.inl (.inl rfl)) _⟩

set_option maxRecDepth 100000 in
set_option maxHeartbeats 4000000 in
theorem fill_someC (R S U eff r wv v n c : Nat) (i : Nat) (pr x y : Int) (er : Value) (ub ub1 : List Int) (w : World)
    (hR : w.heap[R]? = some (.cells (Rcells eff U S r wv er x y) 74 (0, 0))) (hU : w.heap[U]? = some (.cells (bcells ub) 5 (0, 0))) (hl : ub.length = eff) (heff : eff ≤ 2000000) (hRU : R ≠ U) (hRS : R ≠ S) (hSU : S ≠ U)
    (hr0 : 0 < r) (hre : r = eff) (hw : wv = eff) (hvv : v = 0) (hub1 : ub1 = ub) (D : Nat) (l : List Int) (hS : w.heap[S]? = some (.cells (Scells (.slice (some ⟨D, 0, none⟩) n c) i pr) 62 (0, 0))) (hD : ∀ j, j < n → w.cell? ⟨D, j, none⟩ = some (.int .u8 (l.getD j 0))) (hll : l.length = n) (hnc : n ≤ c) (hn : n ≤ 2000000) (hcb : c ≤ 140737488355328) (hi : i < n)
    (hDS : D ≠ S) (hDU : D ≠ U) (hDR : D ≠ R) (k : Nat) (hk : k = min (eff - v) (n - i)) :
    Calls Tryd.prog 52 #[.pointer (some ⟨R, 0, none⟩)] w fun e w' => e = .returned (.tuple #[]) ∧ w'.heap[R]? = some (.cells (Rcells eff U S 0 (v + k) er x y) 74 (0, 0)) ∧
      w'.heap[U]? = some (.cells (bcells (splL ub1 v ((l.drop i).take k))) 5 (0, 0)) ∧ w'.heap[S]? = some (.cells (Scells (.slice (some ⟨D, 0, none⟩) n c) (i + k) (-1)) 62 (0, 0)) ∧ Chg (fun b => b = R ∨ b = U ∨ b = S) w w' := by
  obtain rfl : ub1 = ub := hub1
  obtain rfl : eff = wv := hw.symm
  obtain rfl : eff = r := hre.symm
  have hv : v < eff := by omega
  have hl1 : ub1.length = eff := hl
  have hR1 : w.heap[R]? = some (.cells (Rcells eff U S eff eff er x y) 74 (0, 0)) := hR
  have c0 : w.cell? ⟨R, 0, none⟩ = some (.slice (some ⟨U, 0, none⟩) eff eff) := heap_of_cell hR 0
  have c2 : w.cell? ⟨R, 2, none⟩ = some (.int .i64 eff) := heap_of_cell hR 2
  have c3 : w.cell? ⟨R, 3, none⟩ = some (.int .i64 eff) := heap_of_cell hR 3
  have f3 : w.frozen? ⟨R, 3, none⟩ = false := heap_frozen hR 3
  have f2 : w.frozen? ⟨R, 2, none⟩ = false := heap_frozen hR 2
  have hcp := fun ty => run_copy_none (P := Tryd.prog) w.drew 22 22 ty 5 (some ⟨U, 0, none⟩) (some ⟨U, 0, none⟩) eff eff 0 0 Tryd.underlying22 info5s (by simp)
  have g0 : (0 : Int) ≤ (eff : Int) := Int.natCast_nonneg _
  have hd : decide ((0 : Int) < (eff : Int)) = true := by simp; omega
  have hr3 : ((w.setCell ⟨R, 3, none⟩ (.int .i64 0)).setCell ⟨R, 2, none⟩ (.int .i64 0)).drew.drew.heap[R]? = some (.cells (Rcells eff U S 0 v er x y) 74 (0, 0)) := (heap_setCell_same (w.setCell ⟨R, 3, none⟩ (.int .i64 0)) R 2 _ 74 _ (heap_setCell_same w R 3 _ 74 _ hR)).trans (by rw [hvv]; simp [Rcells])
  have hu3 : ((w.setCell ⟨R, 3, none⟩ (.int .i64 0)).setCell ⟨R, 2, none⟩ (.int .i64 0)).drew.drew.heap[U]? = some (.cells (bcells ub1) 5 (0, 0)) := (Below.heap_setCell _ _ _ U hRU.symm).trans ((Below.heap_setCell w _ _ U hRU.symm).trans hU)
  have hs3 : ((w.setCell ⟨R, 3, none⟩ (.int .i64 0)).setCell ⟨R, 2, none⟩ (.int .i64 0)).drew.drew.heap[S]? = some (.cells (Scells (.slice (some ⟨D, 0, none⟩) n c) i pr) 62 (0, 0)) := (Below.heap_setCell _ _ _ S hRS.symm).trans ((Below.heap_setCell w _ _ S hRS.symm).trans hS)
  have hx3 : ∀ j, j < n → ((w.setCell ⟨R, 3, none⟩ (.int .i64 0)).setCell ⟨R, 2, none⟩ (.int .i64 0)).drew.drew.cell? ⟨D, j, none⟩ = some (.int .u8 (l.getD j 0)) := fun j hj => (World.cell?_of_block (a := ⟨D, j, none⟩) ((Below.heap_setCell _ _ _ D hDR).trans (Below.heap_setCell w _ _ D hDR))).trans (hD j hj)
  have hC3 : Chg (fun b => b = R ∨ b = U ∨ b = S) w ((w.setCell ⟨R, 3, none⟩ (.int .i64 0)).setCell ⟨R, 2, none⟩ (.int .i64 0)).drew.drew := (((Chg.refl _ _).setCell (.inl (.inl rfl)) _).setCell (.inl (.inl rfl)) _).drew.drew
  clear hvv hU hS hR hD hR1
  go_enter Tryd.func52, Tryd.ntmps52
  go_wp2_with fail
  go_region_held3 (fun w' => w'.cell? ⟨R, 0, none⟩ = some (.slice (some ⟨U, 0, none⟩) eff eff) ∧ w'.cell? ⟨R, 2, none⟩ = some (.int .i64 eff) ∧ w'.cell? ⟨R, 3, none⟩ = some (.int .i64 eff)) (first | exact ⟨c0, c2, c3⟩) (fail)
  go_wp2_with fail
  clear hcp
  go_region
  go_wp2_with fail
  have hR := hr3
  have hU := hu3
  have hS := hs3
  have hD := hx3
  have hC := hC3
  clear hr3 hu3 hs3 hx3 hC3 c0 c2 c3 f2 f3
  generalize ((w.setCell ⟨R, 3, none⟩ (.int .i64 0)).setCell ⟨R, 2, none⟩ (.int .i64 0)).drew.drew = W at *
  have c0 : W.cell? ⟨R, 0, none⟩ = some (.slice (some ⟨U, 0, none⟩) eff eff) := heap_of_cell hR 0
  have c1 : W.cell? ⟨R, 1, none⟩ = some (.iface 47 (.pointer (some ⟨S, 0, none⟩))) := heap_of_cell hR 1
  have c3 : W.cell? ⟨R, 3, none⟩ = some (.int .i64 v) := heap_of_cell hR 3
  have q1 : decide ((eff : Int) ≤ (v : Int)) = false := by simp; omega
  go_region
  go_wp2_with fail
  have gv : (v : Int) < (eff : Int) := by omega
  have gv0 : (0 : Int) ≤ (v : Int) := Int.natCast_nonneg _
  have gv1 : (v : Int) ≤ (eff : Int) := by omega
  have hne : ¬ eff = v := by omega
  have hm : ∀ w', (Go.method 229 47 (.pointer (some ⟨S, 0, none⟩)) "Read").run Tryd.prog w' = .ok (72, .pointer (some ⟨S, 0, none⟩)) w' := fun w' => by kernel_rfl
  have hR' : W.drew.heap[R]? = some (.cells (Rcells eff U S 0 v er x y) 74 (0, 0)) := hR
  have hU' : W.drew.heap[U]? = some (.cells (bcells ub1) 5 (0, 0)) := hU
  have hC' := hC.drew
  have hD' : ∀ j, j < n → W.drew.cell? ⟨D, j, none⟩ = some (.int .u8 (l.getD j 0)) := hD
  have hS' : W.drew.heap[S]? = some (.cells (Scells (.slice (some ⟨D, 0, none⟩) n c) i pr) 62 (0, 0)) := hS
  clear hR hU hS hD hC c0 c1 c3
  generalize W.drew = W1 at *
  go_loopw [2] (fun i wr => i = .int .i64 100 ∧ wr = W1) (fun _ _ => 0)
  case atStart => exact ⟨rfl, rfl⟩
  case round =>
    obtain ⟨rfl, rfl⟩ := hrel
    go_wp2_with fail
    have c0 : wr.cell? ⟨R, 0, none⟩ = some (.slice (some ⟨U, 0, none⟩) eff eff) := heap_of_cell hR' 0
    have c1 : wr.cell? ⟨R, 1, none⟩ = some (.iface 47 (.pointer (some ⟨S, 0, none⟩))) := heap_of_cell hR' 1
    have c3 : wr.cell? ⟨R, 3, none⟩ = some (.int .i64 v) := heap_of_cell hR' 3
    have hS3 : wr.drew.heap[S]? = some (.cells (Scells (.slice (some ⟨D, 0, none⟩) n c) i pr) 62 (0, 0)) := hS'
    have hU3 : wr.drew.heap[U]? = some (.cells (bcells ub1) 5 (0, 0)) := hU'
    have hD3 : ∀ j, j < n → wr.drew.cell? ⟨D, j, none⟩ = some (.int .u8 (l.getD j 0)) := hD'
    have hsz : v + (eff - v) ≤ (bcells ub1).size := by rw [bcells_size]; omega
    have hsz2 : eff - v ≤ 2000000 := by omega
    have hrd := read_some S U D v (eff - v) (eff - v) i n c l (bcells ub1) pr wr.drew hS3 hU3 hD3 hll hnc hn hcb hi hsz hsz2 hSU hDS hDU k hk
    rw [laidOver_bcells] at hrd
    have hk0 : 0 < k := by omega
    have hk9 : v + k ≤ eff := by omega
    clear hS3 hU3 hD3 hsz hsz2 hk
    go_region_held3 (fun w' => w'.cell? ⟨R, 0, none⟩ = some (.slice (some ⟨U, 0, none⟩) eff eff) ∧ w'.cell? ⟨R, 1, none⟩ = some (.iface 47 (.pointer (some ⟨S, 0, none⟩))) ∧ w'.cell? ⟨R, 3, none⟩ = some (.int .i64 v))
      (first | exact ⟨k0, k1, k3⟩ | exact ⟨c0, c1, c3⟩)
      ((go_at_call 72; go_must ((try rw [if_neg hne]); refine hrd.mono ?_; rintro e w' ⟨rfl, hS2, hU2, hCh⟩; have hRR := (hCh.block R (heap_lt hR') (fun h => h.elim hRS hRU)).trans hR'; have k0 := heap_of_cell hRR 0; have k1 := heap_of_cell hRR 1; have k3 := heap_of_cell hRR 3)))
    have hR2 : w'.heap[R]? = some (.cells (Rcells eff U S 0 v er x y) 74 (0, 0)) := (hCh.block R (heap_lt hR') (fun h => h.elim hRS hRU)).trans hR'
    have hC2 : Chg (fun b => b = R ∨ b = U ∨ b = S) w w' := hC'.trans (Chg.mono (G := (fun b => b = R ∨ b = U ∨ b = S)) (a := wr) ⟨hCh.os, hCh.tape, hCh.output, hCh.size, hCh.block⟩ (fun _ _ h => h.elim (fun h => .inr (.inr h)) (fun h => .inr (.inl h)))) (fun _ _ h => h)
    have hwr : IntKind.i64.wrap ((v : Int) + (k : Int)) = ((v + k : Nat) : Int) := by rw [IntKind.wrap_i64]; omega
    have q2 : decide ((k : Int) < 0) = false := decide_eq_false (by omega)
    have q3 : decide ((0 : Int) < (k : Int)) = true := decide_eq_true (by omega)
    have d3 : w'.cell? ⟨R, 3, none⟩ = some (.int .i64 v) := heap_of_cell hR2 3
    have d4 : w'.cell? ⟨R, 4, none⟩ = some er := heap_of_cell hR2 4
    have f3 : w'.frozen? ⟨R, 3, none⟩ = false := heap_frozen hR2 3
    have f4 : w'.frozen? ⟨R, 4, none⟩ = false := heap_frozen hR2 4
    clear hCh hC' hR' hU' hS' c0 c1 c3 k0 k1 k3 hRR
    go_wp2_with fail
    (try simp only [Exit.inBlock, Exit.then])
    refine bodyPost_ret (results_none rfl _ _ _) rfl ?_
    exact ⟨rfl, (heap_setCell_same w' R 3 _ 74 _ hR2).trans (by simp [Rcells]), (Below.heap_setCell w' _ _ U hRU.symm).trans hU2, (Below.heap_setCell w' _ _ S hRS.symm).trans hS2, hC2.setCell (.inl (.inl rfl)) _⟩

end Go.Proofs.Qxb6613793aDoor
