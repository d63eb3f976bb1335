/-
  WORDS FOR WORLDS: 'Chg F w w'': only blocks of which F holds have turned (new ones may have been laid); rows of bytes.
-/
import Derived.Test.Qxb6613793aDoorProg
import Derived.WalkKit
import Derived.WalkSpells
import Derived.Below
import Derived.Laws.OwnMore
import Derived.Laws.CopyOwn
import Derived.BigQuiet
import Derived.Deep.QuietTactic
import Derived.Deep.RegionHeld3
import Derived.Deep.DeepMust
import Derived.Deep.LoopGhost
set_option linter.unusedVariables false
set_option linter.unusedSimpArgs false
namespace Go.Proofs.Qxb6613793aDoor
open Go.RowKit

structure Chg (F : Nat → Prop) (w w' : World) : Prop where
  os : w'.os = w.os
  tape : w'.tape = w.tape
  output : w'.output = w.output
  size : w.heap.size ≤ w'.heap.size
  block : ∀ k, k < w.heap.size → ¬ F k → w'.heap[k]? = w.heap[k]?

def NoB : Nat → Prop := fun _ => False

theorem Chg.refl (F : Nat → Prop) (w : World) : Chg F w w := ⟨rfl, rfl, rfl, Nat.le_refl _, fun _ _ _ => rfl⟩
theorem Chg.trans {F G : Nat → Prop} {a b c : World} (h : Chg F a b) (k : Chg G b c) (hG : ∀ k, k < a.heap.size → G k → F k) : Chg F a c :=
  ⟨k.os.trans h.os, k.tape.trans h.tape, k.output.trans h.output, Nat.le_trans h.size k.size, fun i hi hF => (k.block i (Nat.lt_of_lt_of_le hi h.size) (fun g => hF (hG i hi g))).trans (h.block i hi hF)⟩
theorem Chg.mono {F G : Nat → Prop} {a b : World} (h : Chg F a b) (hG : ∀ k, k < a.heap.size → F k → G k) : Chg G a b :=
  ⟨h.os, h.tape, h.output, h.size, fun i hi hg => h.block i hi (fun f => hg (hG i hi f))⟩
theorem Chg.drewN {F : Nat → Prop} {a b : World} (h : Chg F a b) (n : Nat) : Chg F a (b.drewN n) := ⟨h.os, h.tape, h.output, h.size, h.block⟩
theorem Chg.drew {F : Nat → Prop} {a b : World} (h : Chg F a b) : Chg F a b.drew := ⟨h.os, h.tape, h.output, h.size, h.block⟩
theorem Chg.alloc {F : Nat → Prop} {a b : World} (h : Chg F a b) (o : Obj) : Chg F a (b.alloc o) :=
  ⟨h.os, h.tape, h.output, by have := h.size; simp; omega, fun i hi hF => (Below.heap_alloc b o i (Nat.lt_of_lt_of_le hi h.size)).trans (h.block i hi hF)⟩
theorem Chg.setCell {F : Nat → Prop} {a b : World} (h : Chg F a b) {p : Addr} (hp : F p.block ∨ a.heap.size ≤ p.block) (u : Value) : Chg F a (b.setCell p u) :=
  ⟨h.os, h.tape, h.output, by have := h.size; simpa [World.setCell] using this, fun i hi hF => (Below.heap_setCell b p u i (fun e => by rcases hp with hp | hp; exact hF (e ▸ hp); omega)).trans (h.block i hi hF)⟩
theorem Chg.grown {F : Nat → Prop} {a b c : World} {row : Option Nat} (h : Chg F a b) (hg : b.grownBy c row) (hr : ∀ k, row = some k → F k ∨ a.heap.size ≤ k) : Chg F a c :=
  ⟨hg.os.trans h.os, hg.tape.trans h.tape, hg.output.trans h.output, Nat.le_trans h.size hg.size, fun i hi hF => (hg.block i (Nat.lt_of_lt_of_le hi h.size) (fun e => by rcases hr i e.symm with h1 | h1; exact hF h1; omega)).trans (h.block i hi hF)⟩
theorem Chg.setRow {F : Nat → Prop} {a b : World} (h : Chg F a b) {g : Nat} (hp : F g ∨ a.heap.size ≤ g) (cs : Array Value) : Chg F a (b.setRow g cs) :=
  ⟨h.os, h.tape, h.output, by have := h.size; simpa [World.setRow] using this, fun i hi hF => (setRow_other b g i cs (fun e => by rcases hp with hp | hp; exact hF (e ▸ hp); omega)).trans (h.block i hi hF)⟩
theorem Chg.of_below {F : Nat → Prop} {a b : World} (h : Below a.heap.size a b) : Chg F a b := ⟨h.os, h.tape, h.output, h.size, fun i hi _ => h.block i hi⟩
theorem Chg.below {F : Nat → Prop} {a b : World} {B : Nat} (h : Chg F a b) (hB : B ≤ a.heap.size) (hF : ∀ k, k < B → ¬ F k) : Below B a b :=
  ⟨h.os, h.tape, h.output, h.size, fun i hi => h.block i (by omega) (hF i hi)⟩
theorem Chg.cell {F : Nat → Prop} {a b : World} (h : Chg F a b) {p : Addr} (hp : p.block < a.heap.size) (hF : ¬ F p.block) : b.cell? p = a.cell? p := World.cell?_of_block (h.block _ hp hF)
theorem Chg.own {F : Nat → Prop} {a b : World} (h : Chg F a b) {B e size n : Nat} {v : Value} {xs : List Value} (ho : a.ownsRow B e size v n xs) (hF : ∀ k, v.ownBlock = some k → ¬ F k) : b.ownsRow B e size v n xs := by
  refine ⟨ho.1, ?_⟩
  rcases ho.2 with hn | ⟨g, cap, cur, rfl, hb, hg, rest⟩
  · exact .inl hn
  · exact .inr ⟨g, cap, cur, rfl, hb, (h.block g (Array.getElem?_eq_some_iff.1 hg).1 (hF g rfl)).trans hg, rest⟩

/-- A slice value that is not nil, and its bytes. -/
def RowAt (w : World) (v : Value) (xs : List Int) : Prop :=
  ∃ g o c, v = .slice (some ⟨g, o, none⟩) xs.length c ∧ xs.length ≤ c ∧ c ≤ 140737488355328 ∧ g < w.heap.size ∧ ∀ i, i < xs.length → w.cell? ⟨g, o + i, none⟩ = some (.int .u8 (xs.getD i 0))

/-- .. and where it lies. -/
def RowIn (w : World) (g : Nat) (v : Value) (xs : List Int) : Prop :=
  ∃ o c, v = .slice (some ⟨g, o, none⟩) xs.length c ∧ xs.length ≤ c ∧ c ≤ 140737488355328 ∧ g < w.heap.size ∧ ∀ i, i < xs.length → w.cell? ⟨g, o + i, none⟩ = some (.int .u8 (xs.getD i 0))

theorem RowIn.at {w : World} {g : Nat} {v : Value} {xs : List Int} (h : RowIn w g v xs) : RowAt w v xs := let ⟨o, c, h1, h2, h3, h4, h5⟩ := h; ⟨g, o, c, h1, h2, h3, h4, h5⟩
theorem RowIn.kept {w w' : World} {g : Nat} {v : Value} {xs : List Int} {F : Nat → Prop} (h : RowIn w g v xs) (hc : Chg F w w') (hF : ¬ F g) : RowIn w' g v xs := by
  obtain ⟨o, c, h1, h2, h3, h4, h5⟩ := h
  exact ⟨o, c, h1, h2, h3, Nat.lt_of_lt_of_le h4 hc.size, fun i hi => (hc.cell (p := ⟨g, o + i, none⟩) h4 hF).trans (h5 i hi)⟩

theorem heap_of_cell {w : World} {b : Nat} {cs : Array Value} {t : TypeId} (h : w.heap[b]? = some (.cells cs t (0, 0))) (j : Nat) : w.cell? ⟨b, j, none⟩ = cs[j]? := cell_of_row w b j cs t (0, 0) h
theorem heap_frozen {w : World} {b : Nat} {cs : Array Value} {t : TypeId} (h : w.heap[b]? = some (.cells cs t (0, 0))) (j : Nat) : w.frozen? ⟨b, j, none⟩ = false := frozen_of_row w b j cs t h
theorem heap_lt {w : World} {b : Nat} {o : Obj} (h : w.heap[b]? = some o) : b < w.heap.size := (Array.getElem?_eq_some_iff.1 h).1
end Go.Proofs.Qxb6613793aDoor
