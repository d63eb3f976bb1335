/-
  WHAT THE ROWS' CONDITION GIVES THE WALKS: the two errors' variables.
-/
import Derived.Test.Qxb6613793aDoorRows
import Derived.Test.Qxb6613793aDoorR10
import Derived.ProofKit
import Derived.LaidMore
import Derived.OpenShut
import Derived.Stop.Joined
import Derived.Stop.LaidTwo
set_option linter.unusedVariables false
namespace Go.Proofs.Qxb6613793aDoor
open Go.RowKit

/-- The list of every row. -/
def laid4 : List (String × DataW Unit) := [("io.EOF", Rows.laid_io_EOF), ("io.ErrNoProgress", Rows.laid_io_ErrNoProgress), ("bufio.ErrBufferFull", Rows.laid_bufio_ErrBufferFull), ("bufio.errNegativeRead", Rows.laid_bufio_errNegativeRead)]

theorem gE : Tryd.prog.globalNamed "io.EOF" = some 1 := by kernel_rfl
theorem gF : Tryd.prog.globalNamed "bufio.ErrBufferFull" = some 0 := by kernel_rfl
theorem gN : Tryd.prog.globalNamed "io.ErrNoProgress" = some 3 := by kernel_rfl
theorem gET : (Tryd.prog.globals[1]?).map (·.type) = some 50 := by kernel_rfl
theorem gFT : (Tryd.prog.globals[0]?).map (·.type) = some 50 := by kernel_rfl
theorem gNT : (Tryd.prog.globals[3]?).map (·.type) = some 50 := by kernel_rfl
theorem star : "*" ++ "errors.errorString" = "*errors.errorString" := by decide
theorem row91 (u : TypeId) (h : Tryd.prog.typeName? 3 u = some "*errors.errorString") : u = 91 :=
  typeName_ptr_named (nm := "errors.errorString") (by rw [star]; kernel_rfl) (by kernel_rfl) (by decide) u (by rw [star]; exact h)
theorem cells117 : Tryd.prog.cellsOf 117 = 1 := by kernel_rfl
theorem cells9 : Tryd.prog.cellsOf 9 = 1 := by kernel_rfl

set_option maxRecDepth 1000000 in
theorem env_of_laid {W : World} (h : laidMetH Tryd.prog laid4 W) : ∃ aE aF, Env aE aF W := by
  rw [MakeChecks.laidMetH_plain _ _ _ (by kernel_rfl)] at h
  obtain ⟨ps, ⟨g0', t0', cs0, f0, p0, q0, hg0', ht0', hv0, hd0, ⟨g1', t1', cs1, f1, p1, q1, hg1', ht1', hv1, hd1, ⟨g2', t2', cs2, f2, p2, q2, hg2', ht2', hv2, hd2, h3, e2⟩, e1⟩, e0⟩, hnd, hrows⟩ := h
  obtain rfl := Option.some.inj (gE.symm.trans hg0')
  obtain rfl := Option.some.inj (gN.symm.trans hg1')
  obtain rfl := Option.some.inj (gF.symm.trans hg2')
  obtain rfl := Option.some.inj (gET.symm.trans ht0')
  obtain rfl := Option.some.inj (gNT.symm.trans ht1')
  obtain rfl := Option.some.inj (gFT.symm.trans ht2')
  subst e2
  subst e1
  subst e0
  obtain ⟨l0⟩ := cs0
  obtain ⟨l2⟩ := cs2
  have ok0 : ∀ u v, l0 = [.iface u v] → Value.okWide Tryd.prog W .any 0 u v := fun u v e => by
    subst e
    exact (hrows 1 0 (by simp [MemPlace.row])).2 u v (by simpa using World.var?_cell hg0' hv0 0)
  have ok2 : ∀ u v, l2 = [.iface u v] → Value.okWide Tryd.prog W .any 0 u v := fun u v e => by
    subst e
    exact (hrows 0 0 (by simp [MemPlace.row])).2 u v (by simpa using World.var?_cell hg2' hv2 0)
  obtain ⟨a0, s0, rfl, hc0, hs0, hz0, rfl⟩ := errorString_of_trod Tryd.underlying50 row91 Tryd.underlying91 Tryd.underlying117 rfl rfl Tryd.underlying9 cells117 cells9 hd0 ok0
  obtain ⟨a2, s2, rfl, hc2, hs2, hz2, rfl⟩ := errorString_of_trod Tryd.underlying50 row91 Tryd.underlying91 Tryd.underlying117 rfl rfl Tryd.underlying9 cells117 cells9 hd2 ok2
  obtain ⟨c0, t0, hb0⟩ := (hrows a0.block a0.off (by simp [MemPlace.row])).1
  obtain ⟨c2, t2, hb2⟩ := (hrows a2.block a2.off (by simp [MemPlace.row])).1
  refine ⟨a0, a2, ?_, by simpa using World.var?_cell hg0' hv0 0, by simpa using World.var?_cell hg2' hv2 0, ⟨c0, t0, hb0⟩, ⟨c2, t2, hb2⟩⟩
  rintro rfl
  simp [MemPlace.row] at hnd
end Go.Proofs.Qxb6613793aDoor
