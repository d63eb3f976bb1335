/-
  THE WALK of (*bytes.Reader).Read (72).
-/
import Derived.Test.Qxb6613793aDoorBase
set_option linter.unusedVariables false
set_option linter.unusedSimpArgs false
namespace Go.Proofs.Qxb6613793aDoor
open Go.RowKit

theorem info5s : (Tryd.prog.info? 5).map (·.size) = some 1 := by kernel_rfl

/-- The cells of the bytes.Reader. -/
def Scells (dv : Value) (i : Nat) (pr : Int) : Array Value := #[dv, .int .i64 i, .int .i64 pr]

set_option maxRecDepth 100000 in
set_option maxHeartbeats 1000000 in
theorem read_eof (S i n c : Nat) (ao : Option Addr) (pr : Int) (b : Value) (aE : Addr) (w : World) (hS : w.heap[S]? = some (.cells (Scells (.slice ao n c) i pr) 62 (0, 0))) (hE : w.cell? ⟨1, 0, none⟩ = some (.iface 91 (.pointer (some aE)))) (hi : n ≤ i) (hi2 : i ≤ 2000000) :
    Calls Tryd.prog 72 #[.pointer (some ⟨S, 0, none⟩), b] w fun e w' => e = .returned (.tuple #[.int .i64 0, .iface 91 (.pointer (some aE))]) ∧ Chg NoB w w' := by
  have c0 : w.cell? ⟨S, 0, none⟩ = some (.slice ao n c) := heap_of_cell hS 0
  have c1 : w.cell? ⟨S, 1, none⟩ = some (.int .i64 i) := heap_of_cell hS 1
  have hd : decide ((n : Int) ≤ (i : Int)) = true := by simp; omega
  clear hS
  go_enter Tryd.func72, Tryd.ntmps72
  go_wp2_with fail
  go_quiet (fail)
  go_wp2_with fail
  go_quiet (fail)
  go_wp2_with fail
  go_ret2
  exact ⟨rfl, ((Chg.refl _ _).drewN _).drewN _⟩

/-- The row U behind a copy of cs to place o. -/
def laidOver (cu : Array Value) (o : Nat) (cs : List Value) : Array Value := (cu.toList.take o ++ cs ++ cu.toList.drop (o + cs.length)).toArray

theorem laidOver_size (cu : Array Value) (o : Nat) (cs : List Value) (h : o + cs.length ≤ cu.size) : (laidOver cu o cs).size = cu.size := by
  simp [laidOver]; omega

set_option maxRecDepth 100000 in
set_option maxHeartbeats 1000000 in
theorem read_some (S U D o m cb i n c : Nat) (l : List Int) (cu : Array Value) (pr : Int) (w : World) (hS : w.heap[S]? = some (.cells (Scells (.slice (some ⟨D, 0, none⟩) n c) i pr) 62 (0, 0)))
    (hU : w.heap[U]? = some (.cells cu 5 (0, 0))) (hD : ∀ j, j < n → w.cell? ⟨D, j, none⟩ = some (.int .u8 (l.getD j 0))) (hl : l.length = n) (hnc : n ≤ c) (hn : n ≤ 2000000) (hcb : c ≤ 140737488355328) (hi : i < n) (hom : o + m ≤ cu.size) (hm : m ≤ 2000000)
    (hSU : S ≠ U) (hDS : D ≠ S) (hDU : D ≠ U) (k : Nat) (hk : k = min m (n - i)) :
    Calls Tryd.prog 72 #[.pointer (some ⟨S, 0, none⟩), .slice (some ⟨U, o, none⟩) m cb] w fun e w' => e = .returned (.tuple #[.int .i64 k, .nilIface]) ∧
      w'.heap[S]? = some (.cells (Scells (.slice (some ⟨D, 0, none⟩) n c) (i + k) (-1)) 62 (0, 0)) ∧ w'.heap[U]? = some (.cells (laidOver cu o (((l.drop i).take k).map (Value.int .u8))) 5 (0, 0)) ∧
      Chg (fun b => b = S ∨ b = U) w w' := by
  obtain ⟨cs, hcs⟩ : ∃ cs, cs = ((l.drop i).take k).map (Value.int .u8) := ⟨_, rfl⟩
  have hcl : cs.length = k := by rw [hcs]; simp; omega
  rw [← hcs]
  have HK : Hid (k = min m (n - i)) := hk
  have HCS : Hid (cs = ((l.drop i).take k).map (Value.int .u8)) := hcs
  have HCL : Hid (cs.length = k) := hcl
  have hkm : k ≤ n - i := by omega
  clear hk hcs hcl
  have c0 : w.cell? ⟨S, 0, none⟩ = some (.slice (some ⟨D, 0, none⟩) n c) := heap_of_cell hS 0
  have c1 : w.cell? ⟨S, 1, none⟩ = some (.int .i64 i) := heap_of_cell hS 1
  have hd : decide ((n : Int) ≤ (i : Int)) = false := by simp; omega
  go_enter Tryd.func72, Tryd.ntmps72
  go_wp2_with fail
  go_quiet (fail)
  have hS1 : (w.drewN nq).heap[S]? = some (.cells (Scells (.slice (some ⟨D, 0, none⟩) n c) i pr) 62 (0, 0)) := hS
  have hU1 : (w.drewN nq).heap[U]? = some (.cells cu 5 (0, 0)) := hU
  have hD1 : ∀ j, j < n → (w.drewN nq).cell? ⟨D, j, none⟩ = some (.int .u8 (l.getD j 0)) := hD
  have hC1 : Chg (fun b => b = S ∨ b = U) w (w.drewN nq) := (Chg.refl _ _).drewN nq
  generalize w.drewN nq = W at *
  clear hS hU hD c0 c1
  have c0 : W.cell? ⟨S, 0, none⟩ = some (.slice (some ⟨D, 0, none⟩) n c) := heap_of_cell hS1 0
  have c1 : W.cell? ⟨S, 1, none⟩ = some (.int .i64 i) := heap_of_cell hS1 1
  have c2 : W.cell? ⟨S, 2, none⟩ = some (.int .i64 pr) := heap_of_cell hS1 2
  have f1 : W.frozen? ⟨S, 1, none⟩ = false := heap_frozen hS1 1
  have f2 : W.frozen? ⟨S, 2, none⟩ = false := heap_frozen hS1 2
  go_wp2_with fail
  have hS2 : (W.setCell ⟨S, 2, none⟩ (.int .i64 (-1))).heap[S]? = some (.cells (Scells (.slice (some ⟨D, 0, none⟩) n c) i (-1)) 62 (0, 0)) := (heap_setCell_same W S 2 _ 62 _ hS1).trans rfl
  have hU2 : (W.setCell ⟨S, 2, none⟩ (.int .i64 (-1))).heap[U]? = some (.cells cu 5 (0, 0)) := (Below.heap_setCell W _ _ U (fun e => hSU e.symm)).trans hU1
  have hD2 : ∀ j, j < n → (W.setCell ⟨S, 2, none⟩ (.int .i64 (-1))).cell? ⟨D, j, none⟩ = some (.int .u8 (l.getD j 0)) := fun j hj => (World.cell?_of_block (a := ⟨D, j, none⟩) (Below.heap_setCell W _ _ D hDS)).trans (hD1 j hj)
  have hC2 : Chg (fun b => b = S ∨ b = U) w (W.setCell ⟨S, 2, none⟩ (.int .i64 (-1))) := hC1.setCell (.inl (.inl rfl)) _
  clear hS1 hU1 hD1 hC1 c0 c1 c2 f1 f2
  generalize W.setCell ⟨S, 2, none⟩ (.int .i64 (-1)) = W1 at *
  have hk := HK.out
  have hcs := HCS.out
  have hcl := HCL.out
  have hrun := fun ty => run_copy_row (P := Tryd.prog) W1.drew 22 22 ty 5 U o m cb ⟨D, i, none⟩ (n - i) (c - i) cu 5 cs Tryd.underlying22 info5s hU2 (by rw [hcl, hk]; exact Nat.min_comm _ _) (fun j v hj => by
    have hjk : j < k := by rw [← hcl]; exact (List.getElem?_eq_some_iff.1 hj).1
    have ha : (⟨D, i, none⟩ : Addr).add j = ⟨D, i + j, none⟩ := by unfold Addr.add; split <;> simp_all
    rw [ha, show W1.drew.cell? ⟨D, i + j, none⟩ = W1.cell? ⟨D, i + j, none⟩ from rfl, hD2 (i + j) (by omega)]
    rw [hcs, List.getElem?_map, List.getElem?_take_of_lt hjk, List.getElem?_drop, List.getElem?_eq_getElem (by omega)] at hj
    simp only [Option.map_some, Option.some.injEq] at hj
    rw [← hj]
    simp [List.getD, List.getElem?_eq_getElem (show i + j < l.length by omega)]) (by omega) (by rw [hcs]; intro v hv; obtain ⟨x, _, rfl⟩ := List.mem_map.1 hv; rfl)
  rw [hcl] at hrun
  have hrow : ∀ ty, (Builtin.copy_ #[22, 22] ty #[.slice (some ⟨U, o, none⟩) m cb, .slice (some ⟨D, i, none⟩) (n - i) (c - i)]).run Tryd.prog W1.drew = .ok (goInt k) (W1.drew.setRow U (laidOver cu o cs)) := fun ty => by
    rw [hrun ty]; unfold laidOver; rw [hcl]
  clear hrun
  have hS3 : (W1.drew.setRow U (laidOver cu o cs)).heap[S]? = some (.cells (Scells (.slice (some ⟨D, 0, none⟩) n c) i (-1)) 62 (0, 0)) := (setRow_other W1.drew U S _ hSU).trans hS2
  have hU3 : (W1.drew.setRow U (laidOver cu o cs)).heap[U]? = some (.cells (laidOver cu o cs) 5 (0, 0)) := setRow_heap W1.drew U cu _ 5 _ hU2
  have hC3 : Chg (fun b => b = S ∨ b = U) w (W1.drew.setRow U (laidOver cu o cs)) := hC2.drew.setRow (.inl (.inr rfl)) _
  have c0 : W1.cell? ⟨S, 0, none⟩ = some (.slice (some ⟨D, 0, none⟩) n c) := heap_of_cell hS2 0
  have c1 : W1.cell? ⟨S, 1, none⟩ = some (.int .i64 i) := heap_of_cell hS2 1
  generalize W1.drew.setRow U (laidOver cu o cs) = W2 at *
  have d0 : W2.cell? ⟨S, 0, none⟩ = some (.slice (some ⟨D, 0, none⟩) n c) := heap_of_cell hS3 0
  have d1 : W2.cell? ⟨S, 1, none⟩ = some (.int .i64 i) := heap_of_cell hS3 1
  have f1 : W2.frozen? ⟨S, 1, none⟩ = false := heap_frozen hS3 1
  have hi0 : (0 : Int) ≤ (i : Int) := Int.natCast_nonneg _
  have hi1 : (i : Int) ≤ (n : Int) := by omega
  have hi2 : (n : Int) ≤ (c : Int) := by omega
  clear hk hcs hcl hD2 hS2 hU2
  go_region_held3 (fun w' => w'.cell? ⟨S, 0, none⟩ = some (.slice (some ⟨D, 0, none⟩) n c) ∧ w'.cell? ⟨S, 1, none⟩ = some (.int .i64 i)) (first | exact ⟨d0, d1⟩ | exact ⟨c0, c1⟩) (fail)
  go_wp2
  go_ret2
  exact ⟨rfl, (heap_setCell_same W2 S 1 _ 62 _ hS3).trans (by simp [Scells]), (Below.heap_setCell W2 _ _ U (fun e => hSU e.symm)).trans hU3, hC3.setCell (.inl (.inl rfl)) _⟩
end Go.Proofs.Qxb6613793aDoor
