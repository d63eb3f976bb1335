/-
  THE WALKS of the shims ZZNext (24), ZZHead (14), ZZNextPiece (29), ZZRead (15), ZZRest (28).
-/
import Derived.Test.Qxb6613793aDoorR7
set_option linter.unusedVariables false
set_option linter.unusedSimpArgs false
namespace Go.Proofs.Qxb6613793aDoor
open Go.RowKit

theorem RS.drewN {p : Pm} {Q : Nat} {w : World} {long : Value} {rest : Bool} {pos : Nat} (h : RS p Q w long rest pos) (n : Nat) : RS p Q (w.drewN n) long rest pos :=
  h.kept ((Chg.refl NoB w).drewN n) (fun _ _ h => h) (fun _ _ h => h)
theorem Line.drewN {w : World} {v : Value} {xs : List Int} (h : Line w v xs) (n : Nat) : Line (w.drewN n) v xs := h
theorem Line.kept {w w' : World} {v : Value} {xs : List Int} {F : Nat → Prop} (h : Line w v xs) (hc : Chg F w w') (hF : ∀ g, v.ownBlock = some g → ¬ F g) : Line w' v xs := by
  obtain ⟨g, o, c, rfl, h2, h4, h5⟩ := h
  exact ⟨g, o, c, rfl, h2, Nat.lt_of_lt_of_le h4 hc.size, fun i hi => (hc.cell (p := ⟨g, o + i, none⟩) h4 (hF g rfl)).trans (h5 i hi)⟩

set_option maxRecDepth 100000 in
theorem zznext_none (p : Pm) (hp : p.Ok) (Q : Nat) (w : World) (long : Value) (pos : Nat) (h : RS p Q w long false pos) (hf : p.l.drop pos = []) :
    Calls Tryd.prog 24 #[.pointer (some ⟨Q, 0, none⟩)] w fun e w' => e = .returned (.tuple #[.slice none 0 0, .bool true]) ∧ RS p Q w' long false pos ∧ Chg (foot p Q long) w w' := by
  have H38 := hide (next_none p hp Q w long pos h hf)
  clear h hf
  go_enter Tryd.func24, Tryd.ntmps24
  go_wp2_with (go_at_call 38; go_must (refine H38.out.mono ?_; rintro e w' ⟨rfl, hrs, hC⟩; clear H38))
  go_quiet (fail)
  go_wp2_with fail
  go_ret2
  exact ⟨rfl, hrs.drewN _, hC.drewN _⟩

set_option maxRecDepth 100000 in
theorem zznext_some (p : Pm) (hp : p.Ok) (Q : Nat) (w : World) (long : Value) (pos : Nat) (h : RS p Q w long false pos) (hne : 0 < (p.l.drop pos).length) :
    Calls Tryd.prog 24 #[.pointer (some ⟨Q, 0, none⟩)] w fun e w' => ∃ v long', e = .returned (.tuple #[v, .bool false]) ∧ Line w' v ((p.l.drop pos).take ((p.l.drop pos).idxOf 10)) ∧ RS p Q w' long' false (pos + min ((p.l.drop pos).idxOf 10 + 1) (p.l.drop pos).length) ∧ Chg (foot p Q long) w w' ∧
      (∀ g, long'.ownBlock = some g → long.ownBlock = some g ∨ w.heap.size ≤ g) := by
  have H38 := hide (next_some p hp Q w long pos h hne)
  obtain ⟨LN, hLN⟩ : ∃ x, x = (p.l.drop pos).take ((p.l.drop pos).idxOf 10) := ⟨_, rfl⟩
  obtain ⟨PS, hPS⟩ : ∃ x, x = pos + min ((p.l.drop pos).idxOf 10 + 1) (p.l.drop pos).length := ⟨_, rfl⟩
  rw [← hLN, ← hPS] at H38 ⊢
  clear h hne hLN hPS
  go_enter Tryd.func24, Tryd.ntmps24
  go_wp2_with (go_at_call 38; go_must (refine H38.out.mono ?_; rintro e w' ⟨v, long', rfl, hl, hrs, hC, hg⟩; clear H38; have HG := hide hg; clear hg; obtain ⟨g1, o1, c1, rfl, hl2⟩ := hl; have HL := hide hl2; clear hl2))
  go_quiet (fail)
  go_wp2_with fail
  go_ret2
  have hl : Line w' (.slice (some ⟨g1, o1, none⟩) LN.length c1) LN := ⟨g1, o1, c1, rfl, HL.out⟩
  first | exact ⟨_, long', rfl, hl.drewN _, hrs.drewN _, hC.drewN _, HG.out⟩ | exact ⟨_, rfl, hl.drewN _, long', hrs.drewN _, hC.drewN _, HG.out⟩

set_option maxRecDepth 100000 in
theorem zzread (p : Pm) (Q : Nat) (w : World) (long : Value) (rest : Bool) (pos : Nat) (h : RS p Q w long rest pos) :
    Calls Tryd.prog 15 #[.pointer (some ⟨Q, 0, none⟩)] w fun e w' => e = .returned (.int .i64 pos) ∧ w = w' := by
  obtain ⟨st, hq⟩ := h.q
  have c3 : w.cell? ⟨Q, 3, none⟩ = some (.int .i64 pos) := heap_of_cell hq 3
  clear h hq
  go_enter Tryd.func15, Tryd.ntmps15
  go_wp2
  go_ret
  exact ⟨rfl, rfl⟩

set_option maxRecDepth 100000 in
theorem zzrest (p : Pm) (Q : Nat) (w : World) (long : Value) (rest : Bool) (pos : Nat) (h : RS p Q w long rest pos) :
    Calls Tryd.prog 28 #[.pointer (some ⟨Q, 0, none⟩)] w fun e w' => e = .returned (.bool rest) ∧ w = w' := by
  obtain ⟨st, hq⟩ := h.q
  have c4 : w.cell? ⟨Q, 4, none⟩ = some (.bool rest) := heap_of_cell hq 4
  clear h hq
  go_enter Tryd.func28, Tryd.ntmps28
  go_wp2
  go_ret
  exact ⟨rfl, rfl⟩

set_option maxRecDepth 100000 in
theorem zzhead_none (p : Pm) (hp : p.Ok) (Q : Nat) (w : World) (long : Value) (pos : Nat) (h : RS p Q w long false pos) (hf : p.l.drop pos = []) :
    Calls Tryd.prog 14 #[.pointer (some ⟨Q, 0, none⟩)] w fun e w' => e = .returned (.tuple #[.slice none 0 0, .bool false, .bool true]) ∧ RS p Q w' long false pos ∧ Chg (foot0 p Q) w w' := by
  have H36 := hide (head_none p hp Q w long pos h hf)
  clear h hf
  go_enter Tryd.func14, Tryd.ntmps14
  go_wp2_with (go_at_call 36; go_must (refine H36.out.mono ?_; rintro e w' ⟨rfl, hrs, hC⟩; clear H36))
  go_quiet (fail)
  go_wp2_with fail
  go_ret3
  exact ⟨rfl, hrs.drewN _, hC.drewN _⟩

set_option maxRecDepth 100000 in
theorem zzhead_full (p : Pm) (hp : p.Ok) (Q : Nat) (w : World) (long : Value) (pos : Nat) (h : RS p Q w long false pos) (hf : p.eff ≤ (p.l.drop pos).idxOf 10) :
    Calls Tryd.prog 14 #[.pointer (some ⟨Q, 0, none⟩)] w fun e w' => ∃ v, e = .returned (.tuple #[v, .bool false, .bool false]) ∧ RowIn w' p.U v ((p.l.drop pos).take p.eff) ∧ RS p Q w' long true (pos + p.eff) ∧ Chg (foot0 p Q) w w' := by
  have H36 := hide (head_full p hp Q w long pos h hf)
  obtain ⟨LN, hLN⟩ : ∃ x, x = (p.l.drop pos).take p.eff := ⟨_, rfl⟩
  rw [← hLN] at H36 ⊢
  clear h hf hLN
  go_enter Tryd.func14, Tryd.ntmps14
  go_wp2_with (go_at_call 36; go_must (refine H36.out.mono ?_; rintro e w' ⟨v, rfl, hl, hrs, hC⟩; clear H36; have HL := hide hl; obtain ⟨o1, c1, rfl, -⟩ := hl))
  go_quiet (fail)
  go_wp2_with fail
  go_ret3
  exact ⟨_, rfl, HL.out.kept ((Chg.refl NoB w').drewN _) (fun h => h), hrs.drewN _, hC.drewN _⟩

set_option maxRecDepth 100000 in
theorem zzhead_last (p : Pm) (hp : p.Ok) (Q : Nat) (w : World) (long : Value) (pos : Nat) (h : RS p Q w long false pos) (hf : (p.l.drop pos).idxOf 10 < p.eff) (hne : 0 < (p.l.drop pos).length) :
    Calls Tryd.prog 14 #[.pointer (some ⟨Q, 0, none⟩)] w fun e w' => ∃ v, e = .returned (.tuple #[v, .bool true, .bool false]) ∧ RowIn w' p.U v ((p.l.drop pos).take ((p.l.drop pos).idxOf 10)) ∧ RS p Q w' long false (pos + min ((p.l.drop pos).idxOf 10 + 1) (p.l.drop pos).length) ∧ Chg (foot0 p Q) w w' := by
  have H36 := hide (head_last p hp Q w long pos h hf hne)
  obtain ⟨LN, hLN⟩ : ∃ x, x = (p.l.drop pos).take ((p.l.drop pos).idxOf 10) := ⟨_, rfl⟩
  obtain ⟨PS, hPS⟩ : ∃ x, x = pos + min ((p.l.drop pos).idxOf 10 + 1) (p.l.drop pos).length := ⟨_, rfl⟩
  rw [← hLN, ← hPS] at H36 ⊢
  clear h hf hLN hPS hne
  go_enter Tryd.func14, Tryd.ntmps14
  go_wp2_with (go_at_call 36; go_must (refine H36.out.mono ?_; rintro e w' ⟨v, rfl, hl, hrs, hC⟩; clear H36; have HL := hide hl; obtain ⟨o1, c1, rfl, -⟩ := hl))
  go_quiet (fail)
  go_wp2_with fail
  go_ret3
  exact ⟨_, rfl, HL.out.kept ((Chg.refl NoB w').drewN _) (fun h => h), hrs.drewN _, hC.drewN _⟩

set_option maxRecDepth 100000 in
theorem zzpiece_full (p : Pm) (hp : p.Ok) (Q : Nat) (w : World) (long : Value) (rest : Bool) (pos : Nat) (h : RS p Q w long rest pos) (hf : p.eff ≤ (p.l.drop pos).idxOf 10) :
    Calls Tryd.prog 29 #[.pointer (some ⟨Q, 0, none⟩)] w fun e w' => ∃ v, e = .returned (.tuple #[v, .bool false]) ∧ RowIn w' p.U v ((p.l.drop pos).take p.eff) ∧ RS p Q w' long rest (pos + p.eff) ∧ Chg (foot0 p Q) w w' := by
  have H39 := hide (nextPiece_full p hp Q w long rest pos h hf)
  obtain ⟨LN, hLN⟩ : ∃ x, x = (p.l.drop pos).take p.eff := ⟨_, rfl⟩
  rw [← hLN] at H39 ⊢
  clear h hf hLN
  go_enter Tryd.func29, Tryd.ntmps29
  go_wp2_with (go_at_call 39; go_must (refine H39.out.mono ?_; rintro e w' ⟨v, rfl, hl, hrs, hC⟩; clear H39; have HL := hide hl; obtain ⟨o1, c1, rfl, -⟩ := hl))
  go_quiet (fail)
  go_wp2_with fail
  go_ret2
  exact ⟨_, rfl, HL.out.kept ((Chg.refl NoB w').drewN _) (fun h => h), hrs.drewN _, hC.drewN _⟩

set_option maxRecDepth 100000 in
theorem zzpiece_last (p : Pm) (hp : p.Ok) (Q : Nat) (w : World) (long : Value) (rest : Bool) (pos : Nat) (h : RS p Q w long rest pos) (hf : (p.l.drop pos).idxOf 10 < p.eff) :
    Calls Tryd.prog 29 #[.pointer (some ⟨Q, 0, none⟩)] w fun e w' => ∃ v, e = .returned (.tuple #[v, .bool false]) ∧ RowIn w' p.U v ((p.l.drop pos).take ((p.l.drop pos).idxOf 10)) ∧ RS p Q w' long false (pos + min ((p.l.drop pos).idxOf 10 + 1) (p.l.drop pos).length) ∧ Chg (foot0 p Q) w w' := by
  have H39 := hide (nextPiece_last p hp Q w long rest pos h hf)
  obtain ⟨LN, hLN⟩ : ∃ x, x = (p.l.drop pos).take ((p.l.drop pos).idxOf 10) := ⟨_, rfl⟩
  obtain ⟨PS, hPS⟩ : ∃ x, x = pos + min ((p.l.drop pos).idxOf 10 + 1) (p.l.drop pos).length := ⟨_, rfl⟩
  rw [← hLN, ← hPS] at H39 ⊢
  clear h hf hLN hPS
  go_enter Tryd.func29, Tryd.ntmps29
  go_wp2_with (go_at_call 39; go_must (refine H39.out.mono ?_; rintro e w' ⟨v, rfl, hl, hrs, hC⟩; clear H39; have HL := hide hl; obtain ⟨o1, c1, rfl, -⟩ := hl))
  go_quiet (fail)
  go_wp2_with fail
  go_ret2
  exact ⟨_, rfl, HL.out.kept ((Chg.refl NoB w').drewN _) (fun h => h), hrs.drewN _, hC.drewN _⟩
end Go.Proofs.Qxb6613793aDoor
