/-
  THE WALK of zzAll (19).
-/
import Derived.Test.Qxb6613793aDoorR16
set_option linter.unusedVariables false
set_option linter.unusedSimpArgs false
namespace Go.Proofs.Qxb6613793aDoor
open Go.RowKit

theorem RS.foot_lt {p : Pm} {Q : Nat} {w : World} {long : Value} {rest : Bool} {pos : Nat} (h : RS p Q w long rest pos) (b : Nat) (hb : foot0 p Q b) : b < w.heap.size := by
  obtain ⟨⟨st, hq⟩, ⟨r, wv, ub, x, y, pr, h1, h2, h3, _⟩, _⟩ := h
  rcases hb with (rfl | rfl | rfl) | rfl
  · exact heap_lt h1
  · exact heap_lt h2
  · exact heap_lt h3
  · exact heap_lt hq

theorem addr_add (g o i : Nat) : (⟨g, o, none⟩ : Addr).add i = ⟨g, o + i, none⟩ := by unfold Addr.add; split <;> simp_all
theorem Byt.sub {l : List Int} (h : Byt l) (a b : Nat) : Byt ((l.drop a).take b) := fun x hx => h x (List.mem_of_mem_drop (List.mem_of_mem_take hx))

set_option maxRecDepth 100000 in
set_option maxHeartbeats 4000000 in
theorem all_reads (p : Pm) (hp : p.Ok) (Q : Nat) (w : World) (h : RS p Q w (.slice none 0 0) false 0) (lim : Nat) (hlim : p.l.length < lim) (hlb : lim ≤ 2000000) :
    Calls Tryd.prog 19 #[.pointer (some ⟨Q, 0, none⟩), .int .i64 lim] w fun e w' => ∃ v vs, e = .returned (.tuple #[v, .bool true]) ∧ w'.ownsRow w.heap.size 22 1 v vs.length vs ∧ Lns w' vs (recsR p.l) ∧ (∀ x ∈ vs, ∀ g, x.ownBlock = some g → w.heap.size ≤ g) ∧ Chg (foot0 p Q) w w' := by
  have HR := hide h.s.lt
  have HF := hide (h.foot_lt)
  have hln := hp.ln
  have HI0 : Hid (AllInv p Q w w (.slice none 0 0) 0 0 (.slice none 0 0) [] []) := ⟨rfl, rfl, World.ownsRow_nil _ _ _ _, Lns.nil _, h, (fun v hv => by cases hv), (fun g hg => by cases hg), (fun g hg => by cases hg), Chg.refl _ _⟩
  clear h
  go_enter Tryd.func19, Tryd.ntmps19
  go_wp2
  go_loopw [6, 7] (fun out i wr => ∃ (k pos : Nat) (long : Value) (vs : List Value) (dn : List (Nat × Nat × Nat)), i = .int .i64 k ∧ AllInv p Q w wr out k pos long vs dn) (fun _ i _ => lim - (intOf i).toNat)
  case atStart => exact ⟨0, 0, _, [], [], rfl, HI0.out⟩
  case round =>
    obtain ⟨k, pos, long, vs, dn, rfl, hI⟩ := hrel
    have hkl : k ≤ p.l.length := by
      have h1 := cuts_len p.l p.l.length 0 (Nat.le_refl _)
      have h2 := congrArg List.length hI.cut
      rw [List.length_append, hI.len] at h2
      omega
    by_cases hpos : pos < p.l.length
    · have h24 := zznext_some p hp Q wr long pos hI.rs (by simp; omega)
      obtain ⟨LN, hLN⟩ : ∃ x, x = (p.l.drop pos).take ((p.l.drop pos).idxOf 10) := ⟨_, rfl⟩
      have hby : Byt LN := by rw [hLN]; exact hp.byt.sub _ _
      have hll : LN.length ≤ 2000000 := by rw [hLN]; simp; omega
      rw [← hLN] at h24
      have H24 := hide h24
      have HLN := hide hLN
      have HI := hide hI
      have HBY := hide hby
      clear h24 hLN hI hby
      go_wp2_with (first
        | (go_at_call 24; go_must (refine H24.out.mono ?_; rintro e w5 ⟨v5, long5, rfl, hl5, hrs5, hC5, hnew5⟩; clear H24; obtain ⟨g5, o5, c5, rfl, hc5, hg5, hcell5⟩ := hl5; have HC5 := hide hcell5; have HN5 := hide hnew5; clear hcell5 hnew5))
        | (go_at_call 12; go_must (refine (clone_some ⟨g5, o5, none⟩ LN.length c5 LN w5 rfl hll (fun i hi => by rw [addr_add]; exact HC5.out i hi) HBY.out).mono ?_; rintro e w6 ⟨rfl, hown6, hb6⟩; obtain ⟨a7, l7, c7, w7, hrun7, hI7⟩ := HI.out.step HR.out HF.out hpos (by omega) hrs5 hC5 HN5.out (n := LN.length) (by rw [← HLN.out]; exact hown6) hb6; have HR7 := hide hrun7; have HI7 := hide hI7; clear hrun7 hI7))
        | (at_builtin; refine wpList_run_append rfl _ _ 33 rfl _ _ _ rfl rfl HR7.out ?_))
      go_roundw
      case rel => exact ⟨k + 1, _, _, _, _, by go_num, HI7.out⟩
      case measure => simp [intOf]; omega
    · have H24 := hide (zznext_none p hp Q wr long pos hI.rs (List.drop_of_length_le (by omega)))
      have HI := hide hI
      clear hI
      go_wp2_with (go_at_call 24; go_must (refine H24.out.mono ?_; rintro e w5 ⟨rfl, hrs5, hC5⟩; clear H24))
      go_ret2
      obtain ⟨hcut, hlen, hown, hlns, hrs, hvo, hoo, hlo, hchg⟩ := HI.out
      rw [cuts_nil p.l pos (by omega), List.append_nil] at hcut
      subst hcut
      have hvl : vs.length = k := by have := hown.1; omega
      refine ⟨_, vs, rfl, ?_, ?_, fun x hx g hg => (hvo x hx g hg).1, hchg.trans hC5 (fun j hj h => ?_)⟩
      · rw [hvl]; exact hC5.own hown hoo
      · have h1 := recs_cuts p.l p.l.length 0 (Nat.le_refl _)
        rw [List.drop_zero] at h1
        rw [← h1]
        exact hlns.kept hC5 (fun v hv g hg => (hvo v hv g hg).2.1)
      · rcases foot_of0 h with h | h
        · exact h
        · have := hlo j h; omega
end Go.Proofs.Qxb6613793aDoor
