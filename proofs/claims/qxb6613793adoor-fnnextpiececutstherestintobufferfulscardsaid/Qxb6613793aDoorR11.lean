/-
  THE WALK of zzRecords (23).
-/
import Derived.Test.Qxb6613793aDoorR10
set_option linter.unusedVariables false
set_option linter.unusedSimpArgs false
namespace Go.Proofs.Qxb6613793aDoor
open Go.RowKit

/-- Where the record behind pos begins. -/
def nx (l : List Int) (pos : Nat) : Nat := pos + min ((l.drop pos).idxOf 10 + 1) (l.drop pos).length
theorem nx_gt (l : List Int) (pos : Nat) (h : pos < l.length) : pos < nx l pos ∧ nx l pos ≤ l.length := by
  unfold nx; simp; omega
def cutsF : Nat → List Int → Nat → List (Nat × Nat × Nat)
  | 0, _, _ => []
  | m + 1, l, pos => if pos < l.length then (pos, pos + (l.drop pos).idxOf 10, nx l pos) :: cutsF m l (nx l pos) else []
/-- The records from pos on: begin, end, begin of the next. -/
def cuts (l : List Int) (pos : Nat) : List (Nat × Nat × Nat) := cutsF (l.length - pos) l pos

theorem cutsF_more (l : List Int) : ∀ (m pos : Nat), l.length - pos ≤ m → cutsF m l pos = cutsF (l.length - pos) l pos
  | 0, pos, h => by rw [show l.length - pos = 0 by omega]
  | m + 1, pos, h => by
    rcases Nat.lt_or_ge pos l.length with h1 | h1
    · have h2 := nx_gt l pos h1
      obtain ⟨k, hk⟩ : ∃ k, l.length - pos = k + 1 := ⟨l.length - pos - 1, by omega⟩
      rw [hk]
      unfold cutsF
      rw [if_pos h1, cutsF_more l m (nx l pos) (by omega)]
      have h3 : l.length - nx l pos ≤ k := by omega
      have h4 : k ≤ m := by omega
      rw [if_pos h1, cutsF_more l k (nx l pos) h3]
    · rw [show l.length - pos = 0 by omega]
      unfold cutsF
      rw [if_neg (by omega)]
theorem cuts_cons (l : List Int) (pos : Nat) (h : pos < l.length) : cuts l pos = (pos, pos + (l.drop pos).idxOf 10, nx l pos) :: cuts l (nx l pos) := by
  have h2 := nx_gt l pos h
  unfold cuts
  obtain ⟨k, hk⟩ : ∃ k, l.length - pos = k + 1 := ⟨l.length - pos - 1, by omega⟩
  rw [hk]
  conv => lhs; unfold cutsF
  rw [if_pos h, cutsF_more l k (nx l pos) (by omega)]
theorem cuts_nil (l : List Int) (pos : Nat) (h : l.length ≤ pos) : cuts l pos = [] := by
  unfold cuts
  rw [show l.length - pos = 0 by omega]
  rfl

/-- The record as Go's slice of the data. -/
def rv (D n : Nat) (t : Nat × Nat × Nat) : Value := .slice (some ⟨D, t.1, none⟩) (t.2.1 - t.1) (n - t.1)
def ev (t : Nat × Nat × Nat) : Value := .int .i64 (t.2.2 : Nat)

theorem info22 : (Tryd.prog.info? 22).map (fun i => (i.size, i.bytes, i.zero)) = some (1, 24, some (.slice none 0 0)) := by kernel_rfl
theorem info3 : (Tryd.prog.info? 3).map (fun i => (i.size, i.bytes, i.zero)) = some (1, 8, some (.int .i64 0)) := by kernel_rfl

/-- 'append(v, x)'. -/
theorem app1 (t e bytes : Nat) (z : Value) (ht : Tryd.prog.underlying t = some (.slice e)) (hinfo : (Tryd.prog.info? e).map (fun i => (i.size, i.bytes, i.zero)) = some (1, bytes, some z)) (hzc : z.cells.size = 1) (hby : bytes ≤ 24)
    (B : Nat) (w : World) (hB : B ≤ w.heap.size) (v : Value) (n : Nat) (xs : List Value) (hown : w.ownsRow B e 1 v n xs) (x : Value) (hx : x.oneCell' = true) (hn : n ≤ 2000000) :
    ∃ a l c w', (Builtin.append_ #[t, t] t #[v, .slice (some ⟨w.heap.size, 0, none⟩) 1 1]).run Tryd.prog (w.alloc (.cells #[x] e)) = .ok (.slice a l c) w' ∧ w'.ownsRow B e 1 (.slice a l c) (n + 1) (xs ++ [x]) ∧ (w.alloc (.cells #[x] e)).grownBy w' v.ownBlock ∧
      ((.slice a l c : Value).ownBlock = v.ownBlock ∨ (.slice a l c : Value).ownBlock = some (w.heap.size + 1)) := by
  obtain ⟨i, hi, he⟩ := Option.map_eq_some_iff.1 hinfo
  simp only [Prod.mk.injEq] at he
  obtain ⟨hs, hb, hz⟩ := he
  obtain ⟨v', w', hr, h5, h6, _, h7⟩ := run_append_own_at (P := Tryd.prog) (w.alloc (.cells #[x] e)) B t t e i z 1 bytes ht hi hz hs hb hzc (by decide) v n xs (hown.alloc _) ⟨w.heap.size, 0, none⟩ 1 1 [x] rfl
    (fun j u hj => by
      have hj0 : j = 0 := by have := (List.getElem?_eq_some_iff.1 hj).1; simp at this; exact this
      subst hj0
      obtain rfl : x = u := by simpa using hj
      have ha : (⟨w.heap.size, 0, none⟩ : Addr).add 0 = ⟨w.heap.size, 0, none⟩ := by unfold Addr.add; split <;> simp_all
      rw [ha]
      exact cell_of_row _ w.heap.size 0 _ e (0, 0) (heap_alloc_new w (.cells #[x] e)))
    (fun u hu => by obtain rfl : u = x := by simpa using hu
                    exact hx) (by simp only [maxLen]; omega) (by have : (n + 1) * bytes ≤ 2000001 * 24 := Nat.mul_le_mul (by omega) hby; omega) (by simp; omega)
  obtain ⟨a, l, c, rfl⟩ := own_slice h5
  exact ⟨a, l, c, w', hr, h5, h6, by simpa using h7⟩

theorem idx_le_of {xs : List Int} {j : Nat} (h : xs[j]? = some 10) : xs.idxOf 10 ≤ j := by
  induction xs generalizing j with
  | nil => simp at h
  | cons x xs ih =>
    rw [List.idxOf_cons]
    by_cases hc : x = 10
    · subst hc; simp
    · have : (x == 10) = false := by simp [hc]
      simp only [this, cond_false]
      cases j with
      | zero => simp [hc] at h
      | succ j => have := ih (by simpa using h); omega

theorem getD_drop (l : List Int) (s k : Nat) (h : s ≤ k) (hk : k < l.length) : (l.drop s)[k - s]? = some (l.getD k 0) := by
  rw [List.getElem?_drop, show s + (k - s) = k by omega, List.getElem?_eq_getElem hk]
  simp [List.getD, List.getElem?_eq_getElem hk]

/-- An LF at k, none between s and k. -/
theorem cuts_at (l : List Int) (s k : Nat) (hs : s ≤ k) (hk : k < l.length) (h1 : k ≤ s + (l.drop s).idxOf 10) (h2 : l.getD k 0 = 10) : cuts l s = (s, k, k + 1) :: cuts l (k + 1) := by
  have h3 := idx_le_of (xs := l.drop s) (j := k - s) (by rw [getD_drop l s k hs hk, h2])
  have e1 : (l.drop s).idxOf 10 = k - s := by omega
  have e2 : nx l s = k + 1 := by unfold nx; rw [e1]; simp; omega
  rw [cuts_cons l s (by omega), e1, e2, show s + (k - s) = k by omega]
theorem idx_step (l : List Int) (s k : Nat) (hs : s ≤ k) (hk : k < l.length) (h1 : k ≤ s + (l.drop s).idxOf 10) (h2 : l.getD k 0 ≠ 10) : k + 1 ≤ s + (l.drop s).idxOf 10 := by
  rcases Nat.lt_or_ge k (s + (l.drop s).idxOf 10) with h | h
  · omega
  · have e1 : (l.drop s).idxOf 10 = k - s := by omega
    have hlt : (l.drop s).idxOf 10 < (l.drop s).length := by simp; omega
    have := List.getElem_idxOf hlt
    have h4 := getD_drop l s k hs hk
    rw [← e1, List.getElem?_eq_getElem hlt, this] at h4
    exact absurd (Option.some.inj h4).symm h2
theorem cuts_end (l : List Int) (s : Nat) (hs : s < l.length) (h1 : l.length ≤ s + (l.drop s).idxOf 10) : cuts l s = [(s, l.length, l.length)] := by
  have h2 := idx_le (l.drop s)
  have e1 : (l.drop s).idxOf 10 = l.length - s := by simp at h2; omega
  have e2 : nx l s = l.length := by unfold nx; rw [e1]; simp; omega
  rw [cuts_cons l s hs, e1, e2, cuts_nil l _ (Nat.le_refl _), show s + (l.length - s) = l.length by omega]

/-- Two rows grow by one each. -/
theorem app2 (B : Nat) (w0 w : World) (hbel : Below B w0 w) (hB : B ≤ w.heap.size) (v u : Value) (n : Nat) (xs ys : List Value) (hv : w.ownsRow B 22 1 v n xs) (hu : w.ownsRow B 3 1 u n ys) (hvu : ∀ g, v.ownBlock = some g → u.ownBlock ≠ some g)
    (x y : Value) (hx : x.oneCell' = true) (hy : y.oneCell' = true) (hn : n ≤ 2000000) :
    ∃ a1 l1 c1 w1 a2 l2 c2 w2, (Builtin.append_ #[33, 33] 33 #[v, .slice (some ⟨w.heap.size, 0, none⟩) 1 1]).run Tryd.prog (w.alloc (.cells #[x] 22)) = .ok (.slice a1 l1 c1) w1 ∧
      (Builtin.append_ #[38, 38] 38 #[u, .slice (some ⟨w1.heap.size, 0, none⟩) 1 1]).run Tryd.prog (w1.alloc (.cells #[y] 3)) = .ok (.slice a2 l2 c2) w2 ∧
      w2.ownsRow B 22 1 (.slice a1 l1 c1) (n + 1) (xs ++ [x]) ∧ w2.ownsRow B 3 1 (.slice a2 l2 c2) (n + 1) (ys ++ [y]) ∧ (∀ g, (.slice a1 l1 c1 : Value).ownBlock = some g → (.slice a2 l2 c2 : Value).ownBlock ≠ some g) ∧ Below B w0 w2 := by
  obtain ⟨a1, l1, c1, w1, hrun1, hown1, hgr1, hbk1⟩ := app1 33 22 24 _ Tryd.underlying33 info22 rfl (Nat.le_refl _) B w hB v n xs hv x hx hn
  have hk1 : u.ownBlock = none ∨ u.ownBlock ≠ v.ownBlock := by
    cases hq : u.ownBlock with
    | none => exact .inl rfl
    | some g => exact .inr (fun e => hvu g e.symm hq)
  have hu1 : w1.ownsRow B 3 1 u n ys := (hu.alloc _).kept hgr1 hk1
  have hb1 : Below B w0 w1 := (hbel.alloc hB _).grown hgr1 (by simp; omega) (fun j hj => by have := (hv.lt j hj).1; omega)
  have hs1 : w.heap.size + 1 ≤ w1.heap.size := by have := hgr1.size; simpa using this
  obtain ⟨a2, l2, c2, w2, hrun2, hown2, hgr2, hbk2⟩ := app1 38 3 8 _ Tryd.underlying38 info3 rfl (by decide) B w1 (by omega) u n ys hu1 y hy hn
  have hns : ∀ g, (.slice a1 l1 c1 : Value).ownBlock = some g → u.ownBlock ≠ some g := by
    intro g hg hug
    rcases hbk1 with e | e
    · exact hvu g (e ▸ hg) hug
    · have h1 := Option.some.inj (e.symm.trans hg)
      have := (hu.lt g hug).2
      omega
  have hk2 : (.slice a1 l1 c1 : Value).ownBlock = none ∨ (.slice a1 l1 c1 : Value).ownBlock ≠ u.ownBlock := by
    cases hq : (.slice a1 l1 c1 : Value).ownBlock with
    | none => exact .inl rfl
    | some g => exact .inr (fun e => hns g hq e.symm)
  refine ⟨a1, l1, c1, w1, a2, l2, c2, w2, hrun1, hrun2, (hown1.alloc _).kept hgr2 hk2, hown2, fun g hg hg2 => ?_, (hb1.alloc (by omega) _).grown hgr2 (by simp; omega) (fun j hj => by have := (hu1.lt j hj).1; omega)⟩
  rcases hbk2 with e | e
  · exact hns g hg (e ▸ hg2)
  · have h1 := Option.some.inj (e.symm.trans hg2)
    have := (hown1.lt g hg).2
    omega

set_option maxRecDepth 100000 in
theorem records_nil (w : World) : Calls Tryd.prog 23 #[.slice none 0 0] w fun e w' => e = .returned (.tuple #[.slice none 0 0, .slice none 0 0]) ∧ w = w' := by
  go_enter Tryd.func23, Tryd.ntmps23
  go_wp2
  refine wp_loop_rounds 1 ?_
  rw [rounds_succ]
  go_wp2
  go_ret2
  exact ⟨rfl, rfl⟩

set_option maxRecDepth 100000 in
set_option maxHeartbeats 4000000 in
theorem records_some (D n : Nat) (l : List Int) (w : World) (hn : n = l.length) (hb : n ≤ 1048576) (hD : D < w.heap.size) (hcell : ∀ i, i < n → w.cell? ⟨D, i, none⟩ = some (.int .u8 (l.getD i 0))) :
    Calls Tryd.prog 23 #[.slice (some ⟨D, 0, none⟩) n n] w fun e w' => ∃ v u, e = .returned (.tuple #[v, u]) ∧ w'.ownsRow w.heap.size 22 1 v (cuts l 0).length ((cuts l 0).map (rv D n)) ∧ w'.ownsRow w.heap.size 3 1 u (cuts l 0).length ((cuts l 0).map ev) ∧ Below w.heap.size w w' := by
  have HN := hide hn
  clear hn
  go_enter Tryd.func23, Tryd.ntmps23
  go_wp2
  go_loopw [4, 5, 6, 7] (fun v u s i wr => ∃ (k st : Nat) (dn : List (Nat × Nat × Nat)), i = .int .i64 k ∧ s = .int .i64 st ∧ st ≤ k ∧ k ≤ n ∧ k ≤ st + (l.drop st).idxOf 10 ∧ dn ++ cuts l st = cuts l 0 ∧ dn.length ≤ k ∧
      wr.ownsRow w.heap.size 22 1 v dn.length (dn.map (rv D n)) ∧ wr.ownsRow w.heap.size 3 1 u dn.length (dn.map ev) ∧ (∀ g, v.ownBlock = some g → u.ownBlock ≠ some g) ∧ Below w.heap.size w wr) (fun _ _ _ i _ => n - (intOf i).toNat)
  case atStart => exact ⟨0, 0, [], rfl, rfl, Nat.le_refl _, Nat.zero_le _, Nat.zero_le _, rfl, Nat.zero_le _, World.ownsRow_nil _ _ _ _, World.ownsRow_nil _ _ _ _, (fun g h => by cases h), Below.refl _ _⟩
  case round =>
    obtain ⟨k, st, dn, rfl, rfl, hsk, hkn, hidx, hdn, hdl, hv, hu, hvu, hbel⟩ := hrel
    have hsz := hbel.size
    by_cases hlt : k < n
    · have hc0 : wr.cell? ⟨D, k, none⟩ = some (.int .u8 (l.getD k 0)) := (hbel.cell (p := ⟨D, k, none⟩) hD).trans (hcell k hlt)
      by_cases hlf : l.getD k 0 = 10
      · have hct := cuts_at l st k hsk (by rw [← HN.out]; exact hlt) hidx hlf
        rw [hlf] at hc0
        have hne : ¬ n = st := by omega
        have g0 : (0 : Int) ≤ (st : Int) := Int.natCast_nonneg _
        have g1 : (st : Int) ≤ (k : Int) := by omega
        have g2 : (k : Int) ≤ (n : Int) := by omega
        obtain ⟨a1, l1, c1, w1, a2, l2, c2, w2, hrun1, hrun2, hv2, hu2, hvu2, hbel2⟩ := app2 w.heap.size w wr hbel hsz u4 u5 dn.length _ _ hv hu hvu (.slice (some ⟨D, st, none⟩) (k - st) (n - st)) (.int .i64 ((k : Int) + 1)) rfl rfl (by omega)
        have HR1 := hide hrun1
        have HR2 := hide hrun2
        have HV := hide hv2
        have HU := hide hu2
        have HVU := hide hvu2
        have HCT := hide hct
        clear hrun1 hrun2 hv2 hu2 hvu2 hct hv hu hvu hlf
        go_wp2_with (first | (at_builtin; refine wpList_run_append rfl _ _ 33 rfl _ _ _ rfl rfl HR1.out ?_) | (at_builtin; refine wpList_run_append rfl _ _ 38 rfl _ _ _ rfl rfl HR2.out ?_))
        go_roundw
        case rel =>
          refine ⟨k + 1, k + 1, dn ++ [(st, k, k + 1)], by go_num, by go_num, Nat.le_refl _, by omega, by omega, by rw [List.append_assoc, List.singleton_append, ← HCT.out, hdn], by simp; omega, ?_, ?_, HVU.out, hbel2⟩
          · rw [List.length_append, List.map_append]; exact HV.out
          · rw [List.length_append, List.map_append]; exact HU.out
        case measure => simp [intOf]; omega
      · have hst := idx_step l st k hsk (by rw [← HN.out]; exact hlt) hidx hlf
        obtain ⟨x, hx⟩ : ∃ x, x = l.getD k 0 := ⟨_, rfl⟩
        rw [← hx] at hc0 hlf
        have hq : (x == 10) = false := by simp [hlf]
        clear hx
        go_wp2
        go_roundw
        case rel => exact ⟨k + 1, st, dn, by go_num, rfl, by omega, by omega, hst, hdn, by omega, hv, hu, hvu, hbel⟩
        case measure => simp [intOf]; omega
    · obtain rfl : k = n := by omega
      by_cases hse : st < k
      · have hct := cuts_end l st (by rw [← HN.out]; exact hse) (by rw [← HN.out]; exact hidx)
        have hne : ¬ k = st := by omega
        have g0 : (0 : Int) ≤ (st : Int) := Int.natCast_nonneg _
        have g1 : (st : Int) ≤ (k : Int) := by omega
        obtain ⟨a1, l1, c1, w1, a2, l2, c2, w2, hrun1, hrun2, hv2, hu2, hvu2, hbel2⟩ := app2 w.heap.size w wr hbel hsz u4 u5 dn.length _ _ hv hu hvu (.slice (some ⟨D, st, none⟩) (k - st) (k - st)) (.int .i64 (k : Int)) rfl rfl (by omega)
        have HR1 := hide hrun1
        have HR2 := hide hrun2
        have HV := hide hv2
        have HU := hide hu2
        have HCT := hide hct
        clear hrun1 hrun2 hv2 hu2 hct hv hu hvu
        go_wp2_with (first | (at_builtin; refine wpList_run_append rfl _ _ 33 rfl _ _ _ rfl rfl HR1.out ?_) | (at_builtin; refine wpList_run_append rfl _ _ 38 rfl _ _ _ rfl rfl HR2.out ?_))
        go_ret2
        have hcc : cuts l 0 = dn ++ [(st, k, k)] := by rw [← hdn, HCT.out, ← HN.out]
        rw [hcc]
        refine ⟨_, _, rfl, ?_, ?_, hbel2⟩
        · rw [List.length_append, List.map_append]; exact HV.out
        · rw [List.length_append, List.map_append]; exact HU.out
      · have hcc : cuts l 0 = dn := by rw [← hdn, cuts_nil l st (by rw [← HN.out]; omega), List.append_nil]
        go_wp2
        go_ret2
        rw [hcc]
        exact ⟨_, _, rfl, hv, hu, hbel⟩
end Go.Proofs.Qxb6613793aDoor
