/-
  THE WALK of ZZNewReaderSizeOver (18): a fresh reader.
-/
import Derived.Test.Qxb6613793aDoorR9
set_option linter.unusedVariables false
set_option linter.unusedSimpArgs false
namespace Go.Proofs.Qxb6613793aDoor
open Go.RowKit

/-- The buffer that bufio.NewReaderSize makes. -/
def effOf (z : Int) : Nat := if z < 16 then 16 else z.toNat

theorem noBuf (v : Value) (w : World) : (Instr.typeAssert (.iface 47 v) 60 53 true).run Tryd.prog w = .ok (.tuple #[.pointer none, .bool false]) w := by kernel_rfl

set_option maxRecDepth 100000 in
set_option maxHeartbeats 2000000 in
theorem newReader_raw (ao : Option Addr) (n c : Nat) (z : Int) (w : World) (hz1 : -9223372036854775808 ≤ z) (hz2 : z ≤ 65536) :
    Calls Tryd.prog 18 #[.slice ao n c, .int .i64 z] w fun e w' => ∃ Q, w.heap.size + 2 < Q ∧ e = .returned (.pointer (some ⟨Q, 0, none⟩)) ∧
      w'.heap[w.heap.size]? = some (.cells (Scells (.slice ao n c) 0 (-1)) 62 (0, 0)) ∧ w'.heap[w.heap.size + 1]? = some (.cells (Rcells (effOf z) (w.heap.size + 2) w.heap.size 0 0 .nilIface (-1) (-1)) 74 (0, 0)) ∧
      w'.heap[w.heap.size + 2]? = some (.cells (bcells (List.replicate (effOf z) 0)) 5 (0, 0)) ∧ w'.heap[Q]? = some (.cells (Qcells (w.heap.size + 1) (.slice none 0 0) 0 0 false) 55 (0, 0)) ∧ Below w.heap.size w w' := by
  obtain ⟨eff, heff⟩ : ∃ e, e = effOf z := ⟨_, rfl⟩
  have hmax : max z 16 = (eff : Int) := by rw [heff]; unfold effOf; split <;> omega
  have he1 : eff ≤ 65536 := by rw [heff]; unfold effOf; split <;> omega
  rw [← heff]
  clear heff
  obtain ⟨i0, hi, he⟩ := Option.map_eq_some_iff.1 info5
  obtain ⟨hy1, hy2⟩ := Prod.mk.inj he
  have hy0 : i0.zero = some (.int .u8 0) := by have := info5z; rw [hi] at this; exact this
  obtain ⟨X, hX⟩ : ∃ X, X = Obj.cells #[.slice ao n c, .int .i64 0, .int .i64 (-1)] 62 := ⟨_, rfl⟩
  obtain ⟨Y, hY⟩ : ∃ Y, Y = Obj.cells #[.slice none 0 0, .nilIface, .int .i64 0, .int .i64 0, .nilIface, .int .i64 0, .int .i64 0] 74 := ⟨_, rfl⟩
  have hsz : ((w.alloc X).alloc Y).heap.size = w.heap.size + 2 := by simp
  obtain ⟨W3, hmk, hown3, hg3⟩ := run_make_full (P := Tryd.prog) ((w.alloc X).alloc Y) (w.heap.size + 2) 22 5 i0 _ 1 Tryd.underlying22 hi hy0 hy1 .i64 .i64 eff (by rw [hy2]; omega) (by unfold maxLen; omega) (by rw [hsz]; exact Nat.le_refl _)
  rw [hsz] at hmk hown3
  rw [show (Value.int .u8 0).cells = #[Value.int .u8 0] from rfl, toList_madeCells_one, Nat.mul_one] at hown3
  have b0 : W3.heap[w.heap.size]? = some X := (hg3.block _ (by rw [hsz]; omega) (by simp)).trans ((Below.heap_alloc _ _ _ (by simp)).trans (heap_alloc_new w X))
  have b1 : W3.heap[w.heap.size + 1]? = some Y := (hg3.block _ (by rw [hsz]; omega) (by simp)).trans (by have := heap_alloc_new (w.alloc X) Y; simpa using this)
  have b2 : W3.heap[w.heap.size + 2]? = some (.cells (bcells (List.replicate eff 0)) 5 (0, 0)) := by
    rcases hown3.2 with ⟨e, _⟩ | ⟨g, cap, cur, e, _, hg, _, _, hcs, hcur⟩
    · cases e
    · obtain ⟨rfl, -, rfl⟩ : w.heap.size + 2 = g ∧ True ∧ eff = cap := by simpa using e
      rw [hg]
      congr 2
      apply Array.ext'
      rw [List.take_of_length_le (by simp; omega)] at hcur
      rw [hcur]
      simp [bcells]
  have hbel : Below w.heap.size w W3 := (((Below.refl _ w).alloc (Nat.le_refl _) X).alloc (by simp) Y).grown hg3 (by simp; omega) (fun k hk => by cases hk)
  have hsz3 : w.heap.size + 2 < W3.heap.size := heap_lt b2
  subst hX
  subst hY
  clear hown3 hg3 hsz
  have d0 : W3.cell? ⟨w.heap.size + 1, 0, none⟩ = some (.slice none 0 0) := heap_of_cell b1 0
  have d1 : W3.cell? ⟨w.heap.size + 1, 1, none⟩ = some .nilIface := heap_of_cell b1 1
  have d2 : W3.cell? ⟨w.heap.size + 1, 2, none⟩ = some (.int .i64 0) := heap_of_cell b1 2
  have d3 : W3.cell? ⟨w.heap.size + 1, 3, none⟩ = some (.int .i64 0) := heap_of_cell b1 3
  have d4 : W3.cell? ⟨w.heap.size + 1, 4, none⟩ = some .nilIface := heap_of_cell b1 4
  have d5 : W3.cell? ⟨w.heap.size + 1, 5, none⟩ = some (.int .i64 0) := heap_of_cell b1 5
  have d6 : W3.cell? ⟨w.heap.size + 1, 6, none⟩ = some (.int .i64 0) := heap_of_cell b1 6
  have ff : ∀ j, W3.frozen? ⟨w.heap.size + 1, j, none⟩ = false := fun j => heap_frozen b1 j
  have f0 := ff 0
  have f1 := ff 1
  have f2 := ff 2
  have f3 := ff 3
  have f4 := ff 4
  have f5 := ff 5
  have f6 := ff 6
  clear ff
  have hta := noBuf
  go_enter Tryd.func18, Tryd.ntmps18
  go_wp2
  go_end0
  dsimp only
  go_at_K
  go_wp2
  go_ret
  obtain ⟨R, hRd⟩ : ∃ R, R = w.heap.size + 1 := ⟨_, rfl⟩
  rw [← hRd] at b1 ⊢
  have s0 := heap_setCell_same W3 R 0 _ 74 (.slice (some ⟨w.heap.size + 2, 0, none⟩) eff eff) b1
  have s1 := heap_setCell_same _ R 1 _ 74 (.iface 47 (.pointer (some ⟨w.heap.size, 0, none⟩))) s0
  have s2 := heap_setCell_same _ R 2 _ 74 (.int .i64 0) s1
  have s3 := heap_setCell_same _ R 3 _ 74 (.int .i64 0) s2
  have s4 := heap_setCell_same _ R 4 _ 74 .nilIface s3
  have s5 := heap_setCell_same _ R 5 _ 74 (.int .i64 (-1)) s4
  have s6 := heap_setCell_same _ R 6 _ 74 (.int .i64 (-1)) s5
  have hc : Chg (fun b => b = R) W3 _ := ((((((((Chg.refl (fun b => b = R) W3).setCell (p := ⟨R, 0, none⟩) (.inl rfl) (.slice (some ⟨w.heap.size + 2, 0, none⟩) eff eff)).setCell (p := ⟨R, 1, none⟩) (.inl rfl) (.iface 47 (.pointer (some ⟨w.heap.size, 0, none⟩)))).setCell (p := ⟨R, 2, none⟩) (.inl rfl) (.int .i64 0)).setCell (p := ⟨R, 3, none⟩) (.inl rfl) (.int .i64 0)).setCell (p := ⟨R, 4, none⟩) (.inl rfl) .nilIface).setCell (p := ⟨R, 5, none⟩) (.inl rfl) (.int .i64 (-1))).setCell (p := ⟨R, 6, none⟩) (.inl rfl) (.int .i64 (-1)))
  have hVs : (((((((W3.setCell ⟨R, 0, none⟩ (.slice (some ⟨w.heap.size + 2, 0, none⟩) eff eff)).setCell ⟨R, 1, none⟩ (.iface 47 (.pointer (some ⟨w.heap.size, 0, none⟩)))).setCell ⟨R, 2, none⟩ (.int .i64 0)).setCell ⟨R, 3, none⟩ (.int .i64 0)).setCell ⟨R, 4, none⟩ .nilIface).setCell ⟨R, 5, none⟩ (.int .i64 (-1))).setCell ⟨R, 6, none⟩ (.int .i64 (-1))).heap.size = W3.heap.size := by simp [World.setCell]
  generalize (((((((W3.setCell ⟨R, 0, none⟩ (.slice (some ⟨w.heap.size + 2, 0, none⟩) eff eff)).setCell ⟨R, 1, none⟩ (.iface 47 (.pointer (some ⟨w.heap.size, 0, none⟩)))).setCell ⟨R, 2, none⟩ (.int .i64 0)).setCell ⟨R, 3, none⟩ (.int .i64 0)).setCell ⟨R, 4, none⟩ .nilIface).setCell ⟨R, 5, none⟩ (.int .i64 (-1))).setCell ⟨R, 6, none⟩ (.int .i64 (-1))) = V at *
  have hlt : R < V.heap.size := heap_lt s6
  refine ⟨W3.heap.size, hsz3, rfl, ?_, ?_, ?_, ?_, ?_⟩
  · exact (Below.heap_alloc V _ _ (by omega)).trans ((hc.block _ (by omega) (by omega)).trans b0)
  · exact (Below.heap_alloc V _ _ hlt).trans (s6.trans (by simp [Rcells]))
  · exact (Below.heap_alloc V _ _ (by omega)).trans ((hc.block _ (by omega) (by omega)).trans b2)
  · have := heap_alloc_new V (.cells #[.pointer (some ⟨R, 0, none⟩), .slice none 0 0, .int .i64 0, .int .i64 0, .bool false] 55)
    rw [hVs] at this
    exact this
  · have h1 : Below w.heap.size W3 V := hc.below (by omega) (fun k hk e => by omega)
    exact (hbel.trans h1).alloc (by omega) _

/-- The reader that NewReaderSize lays over the data at the world w. -/
def fresh (w : World) (z : Int) (ao : Option Addr) (c : Nat) (l : List Int) (aE aF : Addr) : Pm := ⟨w.heap.size + 1, w.heap.size, w.heap.size + 2, effOf z, ao, c, l, aE, aF⟩

/-- What is known of the world ahead: the errors' variables, the data. -/
structure Env (aE aF : Addr) (w : World) : Prop where
  ne : aE ≠ aF
  eE : w.cell? ⟨1, 0, none⟩ = some (.iface 91 (.pointer (some aE)))
  eF : w.cell? ⟨0, 0, none⟩ = some (.iface 91 (.pointer (some aF)))
  hE : ∃ cs t, w.heap[aE.block]? = some (.cells cs t (0, 0))
  hF : ∃ cs t, w.heap[aF.block]? = some (.cells cs t (0, 0))
structure Dat (ao : Option Addr) (c : Nat) (l : List Int) (w : World) : Prop where
  byt : Byt l
  ln : l.length ≤ 1048576
  lc : l.length ≤ c
  cb : c ≤ 140737488355328
  od : l ≠ [] → ∃ D, ao = some ⟨D, 0, none⟩
  lt : ∀ a, ao = some a → a.block < w.heap.size
  dat : ∀ D, ao = some ⟨D, 0, none⟩ → ∀ j, j < l.length → w.cell? ⟨D, j, none⟩ = some (.int .u8 (l.getD j 0))

theorem Env.below {aE aF : Addr} {w w' : World} (h : Env aE aF w) (hb : Below w.heap.size w w') : Env aE aF w' := by
  refine ⟨h.ne, (hb.cell (cell_lt h.eE)).trans h.eE, (hb.cell (cell_lt h.eF)).trans h.eF, ?_, ?_⟩
  · obtain ⟨cs, t, h1⟩ := h.hE
    exact ⟨cs, t, (hb.block _ (heap_lt h1)).trans h1⟩
  · obtain ⟨cs, t, h1⟩ := h.hF
    exact ⟨cs, t, (hb.block _ (heap_lt h1)).trans h1⟩
theorem Dat.below {ao : Option Addr} {c : Nat} {l : List Int} {w w' : World} (h : Dat ao c l w) (hb : Below w.heap.size w w') : Dat ao c l w' :=
  ⟨h.byt, h.ln, h.lc, h.cb, h.od, fun a ha => Nat.lt_of_lt_of_le (h.lt a ha) hb.size, fun D hD j hj => (hb.cell (cell_lt (h.dat D hD j hj))).trans (h.dat D hD j hj)⟩

theorem eff_bounds (z : Int) (h : z ≤ 65536) : 16 ≤ effOf z ∧ effOf z ≤ 65536 := by unfold effOf; split <;> omega

theorem newReader_all (ao : Option Addr) (n c : Nat) (z : Int) (l : List Int) (aE aF : Addr) (w : World) (hn : n = l.length) (hz1 : -9223372036854775808 ≤ z) (hz2 : z ≤ 65536) (he : Env aE aF w) (hd : Dat ao c l w) :
    Calls Tryd.prog 18 #[.slice ao n c, .int .i64 z] w fun e w' => ∃ Q, w.heap.size + 2 < Q ∧ e = .returned (.pointer (some ⟨Q, 0, none⟩)) ∧ (fresh w z ao c l aE aF).Ok ∧ RS (fresh w z ao c l aE aF) Q w' (.slice none 0 0) false 0 ∧ Below w.heap.size w w' := by
  subst hn
  refine (newReader_raw ao l.length c z w hz1 hz2).mono ?_
  rintro e w' ⟨Q, hQ, rfl, h0, h1, h2, h3, hb⟩
  obtain ⟨e16, ebig⟩ := eff_bounds z hz2
  have he' := he.below hb
  have hd' := hd.below hb
  have hrely : ∀ b, (fresh w z ao c l aE aF).rely b → b < w.heap.size := by
    rintro b (rfl | rfl | rfl | rfl | hx)
    · exact cell_lt he.eF
    · exact cell_lt he.eE
    · obtain ⟨_, _, k⟩ := he.hE; exact heap_lt k
    · obtain ⟨_, _, k⟩ := he.hF; exact heap_lt k
    · cases ao with
      | none => cases hx
      | some a => obtain rfl : a.block = b := by simpa [fresh] using hx
                  exact hd.lt a rfl
  have hown : ∀ b, (fresh w z ao c l aE aF).own b → w.heap.size ≤ b ∧ b ≤ w.heap.size + 2 := by
    rintro b (rfl | rfl | rfl) <;> simp only [fresh] <;> omega
  refine ⟨Q, hQ, rfl, ⟨by simp [fresh], by simp [fresh], by simp [fresh], fun b h1 h2 => by have := hrely b h1; have := hown b h2; omega, e16, ebig, hd.byt, hd.ln, hd.lc, hd.cb, he.ne, hd.od⟩, ⟨⟨0, h3⟩, ⟨0, 0, List.replicate (effOf z) 0, -1, -1, -1, h1, h2, h0, by simp [fresh], Nat.le_refl _, Nat.zero_le _, Nat.zero_le _, by simp⟩, ⟨he'.eE, he'.eF, he'.hE, he'.hF, hd'.dat, fun b hb2 => Nat.lt_of_lt_of_le (hrely b hb2) hb.size⟩, ⟨0, [], World.ownsRow_nil _ _ _ _⟩, fun h => by have := hown Q h; omega, fun h => by have := hrely Q h; omega, fun g hg => by cases hg⟩, hb⟩
end Go.Proofs.Qxb6613793aDoor
