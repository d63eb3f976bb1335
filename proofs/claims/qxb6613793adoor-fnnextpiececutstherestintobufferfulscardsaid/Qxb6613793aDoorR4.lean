/-
  THE WALK of (*bufio.Reader).ReadSlice (44).
-/
import Derived.Test.Qxb6613793aDoorR3
import Derived.Test.Qxb6613793aDoorShelf
set_option linter.unusedVariables false
set_option linter.unusedSimpArgs false
namespace Go.Proofs.Qxb6613793aDoor
open Go.RowKit

/-- What ReadSlice gives of what is left, and how: 0: up to the LF; 1: a bufferful; 2: all, and the end. -/
def rs (eff : Nat) (rest : List Int) : List Int × Nat :=
  if rest.idxOf 10 < eff ∧ rest.idxOf 10 < rest.length then (rest.take (rest.idxOf 10 + 1), 0) else if eff ≤ rest.length then (rest.take eff, 1) else (rest, 2)

/-- .. as Go's error. -/
def Pm.err (p : Pm) : Nat → Value
  | 0 => .nilIface
  | 1 => .iface 91 (.pointer (some p.aF))
  | _ => .iface 91 (.pointer (some p.aE))

theorem byte_ten (x : Int) (h : 0 ≤ x ∧ x < 256) : (x.toNat.toUInt8 == (10 : Int).toNat.toUInt8) = (x == 10) := by
  obtain ⟨n, rfl⟩ : ∃ n : Nat, x = n := ⟨x.toNat, by omega⟩
  have hn : n < 256 := by omega
  rw [Bool.eq_iff_iff, beq_iff_eq, beq_iff_eq]
  constructor
  · intro e
    have := congrArg UInt8.toNat e
    simp at this
    omega
  · rintro e
    rw [e]

theorem indexByte_eq : ∀ (xs : List Int), Byt xs → Lib.indexByte (Lib.bytesOf xs) (10 : Int).toNat.toUInt8 = if xs.idxOf 10 < xs.length then ((xs.idxOf 10 : Nat) : Int) else -1
  | [], _ => rfl
  | x :: xs, h => by
    have ih := indexByte_eq xs (fun y hy => h y (List.mem_cons_of_mem _ hy))
    have hx := byte_ten x (h x List.mem_cons_self)
    have e : Lib.bytesOf (x :: xs) = x.toNat.toUInt8 :: Lib.bytesOf xs := by simp [Lib.bytesOf]
    rw [e]
    unfold Lib.indexByte
    rw [hx, ih, List.idxOf_cons]
    by_cases hc : x = 10
    · subst hc; simp
    · simp only [beq_iff_eq, hc, if_false, List.length_cons]
      have : (x == 10) = false := by simp [hc]
      simp only [this, cond_false, cond_eq_ite, Bool.false_eq_true, if_false]
      by_cases hi : xs.idxOf 10 < xs.length
      · rw [if_pos hi, if_neg (by omega), if_pos (by omega)]; simp
      · rw [if_neg hi, if_pos rfl, if_neg (by omega)]

theorem hide {p : Prop} (h : p) : Hid p := h

theorem idxOf_take : ∀ (xs : List Int) (n : Nat), (xs.take n).idxOf 10 = min (xs.idxOf 10) n
  | [], n => by simp
  | x :: xs, 0 => by simp
  | x :: xs, n + 1 => by
    rw [List.take_succ_cons, List.idxOf_cons, List.idxOf_cons, idxOf_take xs n]
    by_cases hc : x = 10
    · subst hc; simp
    · have : (x == 10) = false := by simp [hc]
      simp only [this, cond_false]
      omega
theorem idxOf_drop : ∀ (xs : List Int) (k : Nat), k ≤ xs.idxOf 10 → (xs.drop k).idxOf 10 = xs.idxOf 10 - k
  | xs, 0, _ => by simp
  | [], k + 1, h => by simp
  | x :: xs, k + 1, h => by
    rw [List.idxOf_cons] at h ⊢
    by_cases hc : x = 10
    · subst hc; simp at h
    · have : (x == 10) = false := by simp [hc]
      simp only [this, cond_false] at h ⊢
      rw [List.drop_succ_cons, idxOf_drop xs k (by omega)]
      omega

theorem Byt.drop {xs : List Int} (h : Byt xs) (k : Nat) : Byt (xs.drop k) := fun x hx => h x (List.mem_of_mem_drop hx)
theorem Byt.take {xs : List Int} (h : Byt xs) (k : Nat) : Byt (xs.take k) := fun x hx => h x (List.mem_of_mem_take hx)

theorem buf_cell {w : World} {U eff r wv pos : Nat} {ub l : List Int} (hU : w.heap[U]? = some (.cells (bcells ub) 5 (0, 0))) (hl : ub.length = eff) (hwe : wv ≤ eff) (hpl : pos + (wv - r) ≤ l.length)
    (hcont : (ub.drop r).take (wv - r) = (l.drop pos).take (wv - r)) (i : Nat) (hi : i < wv - r) : w.cell? ⟨U, r + i, none⟩ = some (.int .u8 ((l.drop pos).getD i 0)) := by
  rw [heap_of_cell hU, bcells_at ub (r + i) (by omega)]
  have h := congrArg (fun xs => xs[i]?) hcont
  simp only [List.getElem?_take_of_lt hi, List.getElem?_drop] at h
  simp [List.getD, h]

theorem cont_drop {ub l : List Int} {r pos m : Nat} (h : (ub.drop r).take m = (l.drop pos).take m) (j : Nat) : (ub.drop (r + j)).take (m - j) = (l.drop (pos + j)).take (m - j) := by
  have := congrArg (List.drop j) h
  rwa [List.drop_take, List.drop_take, List.drop_drop, List.drop_drop] at this

/-- bytes.IndexByte over what is buffered and not yet searched. -/
theorem index49 (p : Pm) (hp : p.Ok) (r wv k pos LF : Nat) (ub : List Int) (w : World) (hU : w.heap[p.U]? = some (.cells (bcells ub) 5 (0, 0))) (hl : ub.length = p.eff) (hrw : r ≤ wv) (hwe : wv ≤ p.eff) (hpl : pos + (wv - r) ≤ p.l.length)
    (hcont : (ub.drop r).take (wv - r) = (p.l.drop pos).take (wv - r)) (hLF : LF = (p.l.drop pos).idxOf 10) (hk1 : k ≤ wv - r) (hk2 : k ≤ LF) :
    Calls Tryd.prog 49 #[.slice (if p.eff = r + k then some ⟨p.U, 0, none⟩ else some ⟨p.U, r + k, none⟩) (wv - (r + k)) (p.eff - (r + k)), .int .u8 10] w fun e w' => e = .returned (.int .i64 (if LF < wv - r then ((LF - k : Nat) : Int) else -1)) ∧ w' = w := by
  obtain ⟨xs, hxs⟩ : ∃ xs, xs = ((p.l.drop pos).drop k).take (wv - r - k) := ⟨_, rfl⟩
  have hxl : xs.length = wv - (r + k) := by rw [hxs]; simp; omega
  have hb : Byt xs := by rw [hxs]; exact ((hp.byt.drop _).drop _).take _
  have hres : (if LF < wv - r then ((LF - k : Nat) : Int) else -1) = Lib.indexByte (Lib.bytesOf xs) (10 : Int).toNat.toUInt8 := by
    rw [indexByte_eq xs hb, hxl]
    have : xs.idxOf 10 = min (LF - k) (wv - r - k) := by rw [hxs, idxOf_take, idxOf_drop _ _ (by omega), hLF]
    rw [this]
    by_cases h : LF < wv - r
    · rw [if_pos h, if_pos (by omega), Nat.min_eq_left (by omega)]
    · rw [if_neg h, if_neg (by omega)]
  rw [hres]
  by_cases hc : p.eff = r + k
  · rw [if_pos hc]
    exact Tryd.bytes_IndexByte p.U 0 (wv - (r + k)) (p.eff - (r + k)) xs 10 w hxl (fun i hi => by omega)
  · rw [if_neg hc]
    refine Tryd.bytes_IndexByte p.U (r + k) (wv - (r + k)) (p.eff - (r + k)) xs 10 w hxl (fun i hi => ?_)
    rw [Nat.add_assoc, buf_cell hU hl hwe hpl hcont (k + i) (by omega), hxs]
    simp only [List.getD, List.getElem?_take_of_lt (show i < wv - r - k by omega), List.getElem?_drop, Nat.add_assoc]

theorem set2 {V : World} {R eff U S r wv : Nat} {er : Value} {x y : Int} (hR : V.heap[R]? = some (.cells (Rcells eff U S r wv er x y) 74 (0, 0))) (z : Int) (r' : Nat) (hz : z = (r' : Int)) :
    (V.setCell ⟨R, 2, none⟩ (.int .i64 z)).heap[R]? = some (.cells (Rcells eff U S r' wv er x y) 74 (0, 0)) := by
  subst hz; exact (heap_setCell_same V R 2 _ 74 _ hR).trans (by simp [Rcells])
theorem set56 {V : World} {R eff U S r wv : Nat} {er : Value} {x y : Int} (hR : V.heap[R]? = some (.cells (Rcells eff U S r wv er x y) 74 (0, 0))) (b c : Int) :
    ((V.setCell ⟨R, 5, none⟩ (.int .i64 b)).setCell ⟨R, 6, none⟩ (.int .i64 c)).heap[R]? = some (.cells (Rcells eff U S r wv er b c) 74 (0, 0)) :=
  (heap_setCell_same (V.setCell ⟨R, 5, none⟩ (.int .i64 b)) R 6 _ 74 _ (heap_setCell_same V R 5 _ 74 _ hR)).trans (by simp [Rcells])
theorem set56_other {V : World} {R k : Nat} (h : k ≠ R) (b c : Value) : ((V.setCell ⟨R, 5, none⟩ b).setCell ⟨R, 6, none⟩ c).heap[k]? = V.heap[k]? :=
  (Below.heap_setCell _ _ _ k h).trans (Below.heap_setCell V _ _ k h)
theorem Chg.set56 {p : Pm} {w V : World} (h : Chg p.own w V) (b c : Value) : Chg p.own w ((V.setCell ⟨p.R, 5, none⟩ b).setCell ⟨p.R, 6, none⟩ c) :=
  (h.setCell (.inl (.inl rfl)) _).setCell (.inl (.inl rfl)) _

/-- The line that ReadSlice hands out, at the place where it lies. -/
theorem row_buf {w : World} {p : Pm} {r wv pos : Nat} {ub : List Int} (hU : w.heap[p.U]? = some (.cells (bcells ub) 5 (0, 0))) (hl : ub.length = p.eff) (hbig : p.eff ≤ 65536) (hrw : r ≤ wv) (hwe : wv ≤ p.eff) (hpl : pos + (wv - r) ≤ p.l.length)
    (hcont : (ub.drop r).take (wv - r) = (p.l.drop pos).take (wv - r)) (n : Nat) (hn : n ≤ wv - r) (xs : List Int) (hxs : xs = (p.l.drop pos).take n) : RowIn w p.U (.slice (some ⟨p.U, r, none⟩) n (p.eff - r)) xs := by
  have hxl : xs.length = n := by rw [hxs]; simp; omega
  refine ⟨r, p.eff - r, by rw [hxl], by omega, by omega, heap_lt hU, fun i hi => ?_⟩
  rw [buf_cell hU hl hwe hpl hcont i (by omega), hxs]
  simp only [List.getD, List.getElem?_take_of_lt (show i < n by omega)]

theorem byte_at {l : List Int} (h : Byt l) (i : Nat) : (0 : Int) ≤ l.getD i 0 ∧ l.getD i 0 < 256 := by
  rcases Nat.lt_or_ge i l.length with h1 | h1
  · rw [List.getD, List.getElem?_eq_getElem h1]; exact h _ (List.getElem_mem h1)
  · rw [List.getD, List.getElem?_eq_none h1]; exact ⟨by decide, by decide⟩

set_option maxRecDepth 100000 in
set_option maxHeartbeats 8000000 in
theorem readSlice_buf (p : Pm) (hp : p.Ok) (r0 wv0 pos : Nat) (w : World) (hs : Still p w) (hb0 : BSt p w r0 wv0 .nilIface pos) :
    Calls Tryd.prog 44 #[.pointer (some ⟨p.R, 0, none⟩), .int .u8 10] w fun e w' => ∃ v r' wv', e = .returned (.tuple #[v, p.err (rs p.eff (p.l.drop pos)).2]) ∧ RowIn w' p.U v (rs p.eff (p.l.drop pos)).1 ∧ BSt p w' r' wv' .nilIface (pos + (rs p.eff (p.l.drop pos)).1.length) ∧ Chg p.own w w' := by
  obtain ⟨LF, hLF⟩ : ∃ n, n = (p.l.drop pos).idxOf 10 := ⟨_, rfl⟩
  obtain ⟨LINE, KIND, hrs⟩ : ∃ a b, rs p.eff (p.l.drop pos) = (a, b) := ⟨_, _, rfl⟩
  rw [hrs]
  dsimp only
  have HRS := hide hrs
  have HLF := hide hLF
  clear hrs hLF
  go_enter Tryd.func44, Tryd.ntmps44
  go_wp2_with fail
  go_loopg [5, 6] (p.l.length - (pos + (wv0 - r0)) + 1) (fun gk e5 s wr => ∃ (k r wv : Nat) (er : Value), e5 = .nilIface ∧ s = .int .i64 k ∧ BSt p wr r wv er pos ∧ k ≤ wv - r ∧ k ≤ LF ∧
    ((er = .nilIface ∧ p.l.length - (pos + (wv - r)) + 1 ≤ gk) ∨ (er = .iface 91 (.pointer (some p.aE)) ∧ pos + (wv - r) = p.l.length ∧ wv < p.eff ∧ r = 0 ∧ k = wv - r)) ∧ Chg p.own w wr)
  case atStart => exact ⟨0, r0, wv0, _, rfl, rfl, hb0, Nat.zero_le _, Nat.zero_le _, .inl ⟨rfl, Nat.le_refl _⟩, Chg.refl _ _⟩
  case round =>
    obtain ⟨k, r, wv, er, rfl, rfl, ⟨ub, x, y, pr, hR, hU, hS, hl, hrw, hwe, hpl, hcont⟩, hk1, hk2, her, hC⟩ := hrel
    have hbig : p.eff ≤ 65536 := hp.big
    have h16 : 16 ≤ p.eff := hp.e16
    have c0 : wr.cell? ⟨p.R, 0, none⟩ = some (.slice (some ⟨p.U, 0, none⟩) p.eff p.eff) := heap_of_cell hR 0
    have c2 : wr.cell? ⟨p.R, 2, none⟩ = some (.int .i64 r) := heap_of_cell hR 2
    have c3 : wr.cell? ⟨p.R, 3, none⟩ = some (.int .i64 wv) := heap_of_cell hR 3
    have hwr1 : IntKind.i64.wrap ((r : Int) + (k : Int)) = ((r + k : Nat) : Int) := by rw [IntKind.wrap_i64]; omega
    have g0 : (0 : Int) ≤ ((r + k : Nat) : Int) := Int.natCast_nonneg _
    have g1 : ((r + k : Nat) : Int) ≤ (wv : Int) := by omega
    have g2 : (wv : Int) ≤ (p.eff : Int) := by omega
    obtain ⟨RES, hRES⟩ : ∃ n : Int, n = if LF < wv - r then ((LF - k : Nat) : Int) else -1 := ⟨_, rfl⟩
    have h49 := fun n => index49 p hp r wv k pos LF ub (wr.drewN n) hU hl hrw hwe hpl hcont HLF.out hk1 hk2
    rw [← hRES] at h49
    have H49 := hide h49
    have HRES := hide hRES
    clear h49 hRES
    go_wp2_with fail
    go_quiet ((go_at_call 49; go_must (refine Calls.quiet_of_same (H49.out _))))
    generalize (if p.eff = r + k then (some ⟨p.U, 0, none⟩ : Option Addr) else some ⟨p.U, r + k, none⟩) = oa
    have hR' : (wr.drewN nq).heap[p.R]? = some (.cells (Rcells p.eff p.U p.S r wv er x y) 74 (0, 0)) := hR
    have hU' : (wr.drewN nq).heap[p.U]? = some (.cells (bcells ub) 5 (0, 0)) := hU
    have hS' : (wr.drewN nq).heap[p.S]? = some (.cells (Scells (.slice p.ao p.l.length p.c) (pos + (wv - r)) pr) 62 (0, 0)) := hS
    have hC' : Chg p.own w (wr.drewN nq) := hC.drewN nq
    clear H49 hR hU hS hC c0 c2 c3
    generalize wr.drewN nq = W at *
    have c0 : W.cell? ⟨p.R, 0, none⟩ = some (.slice (some ⟨p.U, 0, none⟩) p.eff p.eff) := heap_of_cell hR' 0
    have c2 : W.cell? ⟨p.R, 2, none⟩ = some (.int .i64 r) := heap_of_cell hR' 2
    have c3 : W.cell? ⟨p.R, 3, none⟩ = some (.int .i64 wv) := heap_of_cell hR' 3
    have c4 : W.cell? ⟨p.R, 4, none⟩ = some er := heap_of_cell hR' 4
    have f2 : W.frozen? ⟨p.R, 2, none⟩ = false := heap_frozen hR' 2
    have f5 : W.frozen? ⟨p.R, 5, none⟩ = false := heap_frozen hR' 5
    have f6 : W.frozen? ⟨p.R, 6, none⟩ = false := heap_frozen hR' 6
    have c5 : W.cell? ⟨p.R, 5, none⟩ = some (.int .i64 x) := heap_of_cell hR' 5
    have c6 : W.cell? ⟨p.R, 6, none⟩ = some (.int .i64 y) := heap_of_cell hR' 6
    by_cases hfound : LF < wv - r
    · -- an LF is among what is buffered
      have hRES : RES = ((LF - k : Nat) : Int) := by rw [HRES.out, if_pos hfound]
      obtain ⟨m, hm⟩ : ∃ m, m = LF - k := ⟨_, rfl⟩
      rw [← hm] at hRES
      subst hRES
      obtain rfl : er = .nilIface := by rcases her with h | h; exact h.1; omega
      clear her
      have q0 : decide ((0 : Int) ≤ ((m : Nat) : Int)) = true := decide_eq_true (Int.natCast_nonneg _)
      have hwr2 : IntKind.i64.wrap ((m : Int) + (k : Int)) = (LF : Int) := by rw [IntKind.wrap_i64]; omega
      have hwr3 : IntKind.i64.wrap ((r : Int) + (LF : Int)) = ((r + LF : Nat) : Int) := by rw [IntKind.wrap_i64]; omega
      have hwr4 : IntKind.i64.wrap (((r + LF : Nat) : Int) + 1) = ((r + LF + 1 : Nat) : Int) := by rw [IntKind.wrap_i64]; omega
      have hwr5 : IntKind.i64.wrap ((LF : Int) + 1) = ((LF + 1 : Nat) : Int) := by rw [IntKind.wrap_i64]; omega
      have hwr6 : IntKind.i64.wrap ((r : Int) + ((LF + 1 : Nat) : Int)) = ((r + LF + 1 : Nat) : Int) := by rw [IntKind.wrap_i64]; omega
      have g5 : (0 : Int) ≤ (r : Int) := Int.natCast_nonneg _
      have g6 : (r : Int) ≤ ((r + LF + 1 : Nat) : Int) := by omega
      have g7 : ((r + LF + 1 : Nat) : Int) ≤ (p.eff : Int) := by omega
      have hne : ¬ p.eff = r := by omega
      have e2 : ((m : Int) + (k : Int)) = (LF : Int) := by omega
      clear HRES hm
      go_wp2_with fail
      go_quiet (fail)
      have hR2 : (W.drewN nq).heap[p.R]? = some (.cells (Rcells p.eff p.U p.S r wv .nilIface x y) 74 (0, 0)) := hR'
      have hU2 : (W.drewN nq).heap[p.U]? = some (.cells (bcells ub) 5 (0, 0)) := hU'
      have hS2 : (W.drewN nq).heap[p.S]? = some (.cells (Scells (.slice p.ao p.l.length p.c) (pos + (wv - r)) pr) 62 (0, 0)) := hS'
      have hC2 : Chg p.own w (W.drewN nq) := hC'.drewN nq
      clear hR' hU' hS' hC' c0 c2 c3 c4 c5 c6 f2 f5 f6
      generalize W.drewN nq = V at *
      have c0 : V.cell? ⟨p.R, 0, none⟩ = some (.slice (some ⟨p.U, 0, none⟩) p.eff p.eff) := heap_of_cell hR2 0
      have c2 : V.cell? ⟨p.R, 2, none⟩ = some (.int .i64 r) := heap_of_cell hR2 2
      have c3 : V.cell? ⟨p.R, 3, none⟩ = some (.int .i64 wv) := heap_of_cell hR2 3
      have c4 : V.cell? ⟨p.R, 4, none⟩ = some .nilIface := heap_of_cell hR2 4
      have c5 : V.cell? ⟨p.R, 5, none⟩ = some (.int .i64 x) := heap_of_cell hR2 5
      have c6 : V.cell? ⟨p.R, 6, none⟩ = some (.int .i64 y) := heap_of_cell hR2 6
      have f2 : V.frozen? ⟨p.R, 2, none⟩ = false := heap_frozen hR2 2
      have f5 : V.frozen? ⟨p.R, 5, none⟩ = false := heap_frozen hR2 5
      have f6 : V.frozen? ⟨p.R, 6, none⟩ = false := heap_frozen hR2 6
      have hbl : V.cell? ⟨p.U, r + LF, none⟩ = some (.int .u8 ((p.l.drop pos).getD LF 0)) := buf_cell hU2 hl hwe hpl hcont LF hfound
      have hbo := byte_at (hp.byt.drop pos) LF
      obtain ⟨bv, hbv⟩ : ∃ b, b = (p.l.drop pos).getD LF 0 := ⟨_, rfl⟩
      rw [← hbv] at hbl hbo
      have hwr7 : IntKind.i64.wrap (((LF + 1 : Nat) : Int) - 1) = (LF : Int) := by rw [IntKind.wrap_i64]; omega
      have hwr8 : IntKind.i64.wrap bv = bv := by rw [IntKind.wrap_i64]; omega
      have q1 : decide ((0 : Int) ≤ (LF : Int)) = true := decide_eq_true (Int.natCast_nonneg _)
      have g8 : (0 : Int) ≤ (LF : Int) := Int.natCast_nonneg _
      have g9 : (LF : Int) < ((LF + 1 : Nat) : Int) := by omega
      have hnU : p.R ≠ p.U := hp.RU
      clear hbv
      have e3 : r + LF + 1 - r = LF + 1 := by omega
      simp only [e3]
      go_wp2_with fail
      go_ret2
      have hrl : (p.l.drop pos).length = p.l.length - pos := by simp
      have hrs := HRS.out
      unfold rs at hrs
      rw [← HLF.out, if_pos ⟨by omega, by omega⟩] at hrs
      obtain ⟨rfl, rfl⟩ := Prod.mk.inj hrs
      have hll : ((p.l.drop pos).take (LF + 1)).length = LF + 1 := by simp; omega
      have hR3 := set56 (set2 hR2 ((r : Int) + ((LF : Int) + 1)) (r + LF + 1) (by omega)) bv (-1)
      have hU3 := (set56_other (V := V.setCell ⟨p.R, 2, none⟩ (.int .i64 ((r : Int) + ((LF : Int) + 1)))) hnU.symm (.int .i64 bv) (.int .i64 (-1))).trans ((Below.heap_setCell V _ _ p.U hnU.symm).trans hU2)
      have hS3 := (set56_other (V := V.setCell ⟨p.R, 2, none⟩ (.int .i64 ((r : Int) + ((LF : Int) + 1)))) hp.RS.symm (.int .i64 bv) (.int .i64 (-1))).trans ((Below.heap_setCell V _ _ p.S hp.RS.symm).trans hS2)
      refine ⟨.slice (some ⟨p.U, r, none⟩) (LF + 1) (p.eff - r), r + LF + 1, wv, rfl, row_buf hU3 hl hbig hrw hwe hpl hcont (LF + 1) (by omega) _ rfl, ⟨ub, bv, -1, pr, hR3, hU3, ?_, hl, by omega, hwe, by rw [hll]; omega, ?_⟩, (hC2.setCell (.inl (.inl rfl)) _).set56 _ _⟩
      · rw [hS3, hll, show pos + (LF + 1) + (wv - (r + LF + 1)) = pos + (wv - r) by omega]
      · rw [hll]
        have := cont_drop hcont (LF + 1)
        rwa [show wv - r - (LF + 1) = wv - (r + LF + 1) by omega, ← Nat.add_assoc] at this
    · -- none
      have hRES : RES = -1 := by rw [HRES.out, if_neg hfound]
      subst hRES
      clear HRES
      have hrl : (p.l.drop pos).length = p.l.length - pos := by simp
      have hnU : p.R ≠ p.U := hp.RU
      obtain ⟨n, hn⟩ : ∃ n, n = wv - r := ⟨_, rfl⟩
      rcases her with ⟨rfl, hgk⟩ | ⟨rfl, hend, hlt, hr0, hkk⟩
      · have hsW : Still p W := hs.kept hC' hp.far
        by_cases hfull : p.eff ≤ wv - r
        · -- a bufferful
          have q5 : decide ((p.eff : Int) ≤ ((n : Nat) : Int)) = true := decide_eq_true (by omega)
          have q6 : p.eff ≤ n := by omega
          have hbuf := fun m => buffered_all p.R p.eff p.U p.S r wv .nilIface x y (W.drewN m) hR' hrw (by omega)
          rw [← hn] at hbuf
          have HBUF := hide hbuf
          have HN := hide hn
          clear hbuf hn
          go_wp2_with fail
          go_quiet ((go_at_call 51; go_must (refine Calls.quiet_of (HBUF.out _))))
          have hsV : Still p (W.drewN nq) := hs.kept (hC'.drewN nq) hp.far
          have hR2 : (W.drewN nq).heap[p.R]? = some (.cells (Rcells p.eff p.U p.S r wv .nilIface x y) 74 (0, 0)) := hR'
          have hU2 : (W.drewN nq).heap[p.U]? = some (.cells (bcells ub) 5 (0, 0)) := hU'
          have hS2 : (W.drewN nq).heap[p.S]? = some (.cells (Scells (.slice p.ao p.l.length p.c) (pos + (wv - r)) pr) 62 (0, 0)) := hS'
          have hC2 : Chg p.own w (W.drewN nq) := hC'.drewN nq
          clear hR' hU' hS' hC' c0 c2 c3 c4 c5 c6 f2 f5 f6
          generalize W.drewN nq = V at *
          have c0 : V.cell? ⟨p.R, 0, none⟩ = some (.slice (some ⟨p.U, 0, none⟩) p.eff p.eff) := heap_of_cell hR2 0
          have c2 : V.cell? ⟨p.R, 2, none⟩ = some (.int .i64 r) := heap_of_cell hR2 2
          have c3 : V.cell? ⟨p.R, 3, none⟩ = some (.int .i64 wv) := heap_of_cell hR2 3
          have c4 : V.cell? ⟨p.R, 4, none⟩ = some .nilIface := heap_of_cell hR2 4
          have c5 : V.cell? ⟨p.R, 5, none⟩ = some (.int .i64 x) := heap_of_cell hR2 5
          have c6 : V.cell? ⟨p.R, 6, none⟩ = some (.int .i64 y) := heap_of_cell hR2 6
          have f2 : V.frozen? ⟨p.R, 2, none⟩ = false := heap_frozen hR2 2
          have f5 : V.frozen? ⟨p.R, 5, none⟩ = false := heap_frozen hR2 5
          have f6 : V.frozen? ⟨p.R, 6, none⟩ = false := heap_frozen hR2 6
          have c00 : V.cell? ⟨0, 0, none⟩ = some (.iface 91 (.pointer (some p.aF))) := hsV.eF
          have hn := HN.out
          obtain ⟨e', he'⟩ : ∃ e', p.eff = e' + 1 := ⟨p.eff - 1, by omega⟩
          have hr0 : r = 0 := by omega
          have hbl : V.cell? ⟨p.U, e', none⟩ = some (.int .u8 ((p.l.drop pos).getD e' 0)) := by
            have := buf_cell hU2 hl hwe hpl hcont e' (by omega)
            rwa [hr0, Nat.zero_add] at this
          have hbo := byte_at (hp.byt.drop pos) e'
          obtain ⟨bv, hbv⟩ : ∃ b, b = (p.l.drop pos).getD e' 0 := ⟨_, rfl⟩
          rw [← hbv] at hbl hbo
          have hwr7 : IntKind.i64.wrap (((e' + 1 : Nat) : Int) - 1) = (e' : Int) := by rw [IntKind.wrap_i64]; omega
          have hwr8 : IntKind.i64.wrap bv = bv := by rw [IntKind.wrap_i64]; omega
          have q1 : decide ((0 : Int) ≤ (e' : Int)) = true := decide_eq_true (Int.natCast_nonneg _)
          have g8 : (0 : Int) ≤ (e' : Int) := Int.natCast_nonneg _
          have g9 : (e' : Int) < ((e' + 1 : Nat) : Int) := by omega
          have HE := hide he'
          have HR0 := hide hr0
          have n0 : (0 : Nat) ≠ p.R := fun e => hp.far 0 (.inl rfl) (.inl e)
          rw [he'] at c0
          have he9 : e' ≤ 65536 := by omega
          clear hbv hn he' hr0 HBUF
          go_wp2_with fail
          go_ret2
          have he' := HE.out
          have hr0 := HR0.out
          have hrs := HRS.out
          unfold rs at hrs
          rw [← HLF.out, if_neg (by omega), if_pos (by omega)] at hrs
          obtain ⟨rfl, rfl⟩ := Prod.mk.inj hrs
          have hll : ((p.l.drop pos).take p.eff).length = p.eff := by simp; omega
          have hR3 := set56 (set2 hR2 (wv : Int) wv rfl) bv (-1)
          have hU3 := (set56_other (V := V.setCell ⟨p.R, 2, none⟩ (.int .i64 (wv : Int))) hnU.symm (.int .i64 bv) (.int .i64 (-1))).trans ((Below.heap_setCell V _ _ p.U hnU.symm).trans hU2)
          have hS3 := (set56_other (V := V.setCell ⟨p.R, 2, none⟩ (.int .i64 (wv : Int))) hp.RS.symm (.int .i64 bv) (.int .i64 (-1))).trans ((Below.heap_setCell V _ _ p.S hp.RS.symm).trans hS2)
          have hrow := row_buf hU3 hl hbig hrw hwe hpl hcont p.eff (by omega) _ rfl
          rw [hr0] at hrow
          refine ⟨.slice (some ⟨p.U, 0, none⟩) (e' + 1) (e' + 1), wv, wv, rfl, by rw [he'] at hrow ⊢; exact hrow, ⟨ub, bv, -1, pr, hR3, hU3, ?_, hl, Nat.le_refl _, hwe, by rw [hll]; omega, by simp⟩, (hC2.setCell (.inl (.inl rfl)) _).set56 _ _⟩
          rw [hS3, hll, show pos + p.eff + (wv - wv) = pos + (wv - r) by omega]
        · -- fill
          have q5 : decide ((p.eff : Int) ≤ ((n : Nat) : Int)) = false := decide_eq_false (by omega)
          have q6 : ¬ p.eff ≤ n := by omega
          have hbuf := fun m => buffered_all p.R p.eff p.U p.S r wv .nilIface x y (W.drewN m) hR' hrw (by omega)
          rw [← hn] at hbuf
          have HBUF := hide hbuf
          have hwr9 : IntKind.i64.wrap ((wv : Int) - (r : Int)) = (n : Int) := by rw [IntKind.wrap_i64]; omega
          have HN := hide hn
          clear hbuf hn
          go_wp2_with fail
          go_quiet ((go_at_call 51; go_must (refine Calls.quiet_of (HBUF.out _))))
          have hR2 : (W.drewN nq).heap[p.R]? = some (.cells (Rcells p.eff p.U p.S r wv .nilIface x y) 74 (0, 0)) := hR'
          have hU2 : (W.drewN nq).heap[p.U]? = some (.cells (bcells ub) 5 (0, 0)) := hU'
          have hS2 : (W.drewN nq).heap[p.S]? = some (.cells (Scells (.slice p.ao p.l.length p.c) (pos + (wv - r)) pr) 62 (0, 0)) := hS'
          have hC2 : Chg p.own w (W.drewN nq) := hC'.drewN nq
          clear hR' hU' hS' hC' c0 c2 c3 c4 c5 c6 f2 f5 f6
          generalize W.drewN nq = V at *
          have c0 : V.cell? ⟨p.R, 0, none⟩ = some (.slice (some ⟨p.U, 0, none⟩) p.eff p.eff) := heap_of_cell hR2 0
          have c2 : V.cell? ⟨p.R, 2, none⟩ = some (.int .i64 r) := heap_of_cell hR2 2
          have c3 : V.cell? ⟨p.R, 3, none⟩ = some (.int .i64 wv) := heap_of_cell hR2 3
          have c4 : V.cell? ⟨p.R, 4, none⟩ = some .nilIface := heap_of_cell hR2 4
          have c5 : V.cell? ⟨p.R, 5, none⟩ = some (.int .i64 x) := heap_of_cell hR2 5
          have c6 : V.cell? ⟨p.R, 6, none⟩ = some (.int .i64 y) := heap_of_cell hR2 6
          have f2 : V.frozen? ⟨p.R, 2, none⟩ = false := heap_frozen hR2 2
          have f5 : V.frozen? ⟨p.R, 5, none⟩ = false := heap_frozen hR2 5
          have f6 : V.frozen? ⟨p.R, 6, none⟩ = false := heap_frozen hR2 6
          clear HBUF
          go_wp2_with fail
          go_quiet (fail)
          have hbF : BSt p (V.drewN nq) r wv .nilIface pos := ⟨ub, x, y, pr, hR2, hU2, hS2, hl, hrw, hwe, hpl, hcont⟩
          have hCF : Chg p.own w (V.drewN nq) := hC2.drewN nq
          have hsF : Still p (V.drewN nq) := hs.kept hCF hp.far
          clear hR2 hU2 hS2 hC2 c0 c2 c3 c4 c5 c6 f2 f5 f6
          generalize V.drewN nq = X at *
          go_wp2_with (go_at_call 52; go_must (refine (fill_all p hp r wv pos X hsF hbF (by omega)).mono ?_; rintro e w' ⟨rfl, ⟨v', hv'⟩, hC9⟩))
          have hn := HN.out
          rcases hv' with ⟨h1, h2⟩ | ⟨h1, h2, h3⟩
          · have hle : pos + v' ≤ p.l.length := by obtain ⟨_, _, _, _, _, _, _, _, _, _, h, _⟩ := h2; simpa using h
            go_roundg (p.l.length - (pos + v') + 1)
            case measure => omega
            case rel => exact ⟨n, 0, v', _, rfl, by simp, h2, by omega, by omega, .inl ⟨rfl, by simp⟩, hCF.trans hC9 (fun _ _ h => h)⟩
          · go_roundg 0
            case measure => omega
            case rel => exact ⟨n, 0, v', _, rfl, by simp, h3, by omega, by omega, .inr ⟨rfl, by simpa using h2, by omega, rfl, by omega⟩, hCF.trans hC9 (fun _ _ h => h)⟩
      · -- the end of the stream
        rcases Nat.eq_zero_or_pos n with h0 | h0
        · have hne : ¬ p.eff = r := by omega
          have g5 : (0 : Int) ≤ (r : Int) := Int.natCast_nonneg _
          have g6 : (r : Int) ≤ (wv : Int) := by omega
          have hn' : wv - r = 0 := by omega
          have hnn : 0 ≤ 65536 := by omega
          have HN := hide hn'
          have HR0 := hide hr0
          have HEND := hide hend
          clear hn' hr0 hend hkk
          go_wp2_with fail
          go_quiet (fail)
          have hR2 : (W.drewN nq).heap[p.R]? = some (.cells (Rcells p.eff p.U p.S r wv (.iface 91 (.pointer (some p.aE))) x y) 74 (0, 0)) := hR'
          have hU2 : (W.drewN nq).heap[p.U]? = some (.cells (bcells ub) 5 (0, 0)) := hU'
          have hS2 : (W.drewN nq).heap[p.S]? = some (.cells (Scells (.slice p.ao p.l.length p.c) (pos + (wv - r)) pr) 62 (0, 0)) := hS'
          have hC2 : Chg p.own w (W.drewN nq) := hC'.drewN nq
          clear hR' hU' hS' hC' c0 c2 c3 c4 c5 c6 f2 f5 f6
          generalize W.drewN nq = V at *
          have c0 : V.cell? ⟨p.R, 0, none⟩ = some (.slice (some ⟨p.U, 0, none⟩) p.eff p.eff) := heap_of_cell hR2 0
          have c2 : V.cell? ⟨p.R, 2, none⟩ = some (.int .i64 r) := heap_of_cell hR2 2
          have c3 : V.cell? ⟨p.R, 3, none⟩ = some (.int .i64 wv) := heap_of_cell hR2 3
          have c4 : V.cell? ⟨p.R, 4, none⟩ = some (.iface 91 (.pointer (some p.aE))) := heap_of_cell hR2 4
          have c5 : V.cell? ⟨p.R, 5, none⟩ = some (.int .i64 x) := heap_of_cell hR2 5
          have c6 : V.cell? ⟨p.R, 6, none⟩ = some (.int .i64 y) := heap_of_cell hR2 6
          have f2 : V.frozen? ⟨p.R, 2, none⟩ = false := heap_frozen hR2 2
          have f5 : V.frozen? ⟨p.R, 5, none⟩ = false := heap_frozen hR2 5
          have f6 : V.frozen? ⟨p.R, 6, none⟩ = false := heap_frozen hR2 6
          have hn' := HN.out
          simp only [hn']
          have hRr := set2 hR2 (wv : Int) wv rfl
          have hUr : (V.setCell ⟨p.R, 2, none⟩ (.int .i64 (wv : Int))).heap[p.U]? = some (.cells (bcells ub) 5 (0, 0)) := (Below.heap_setCell V _ _ p.U hnU.symm).trans hU2
          have hSr : (V.setCell ⟨p.R, 2, none⟩ (.int .i64 (wv : Int))).heap[p.S]? = some (.cells (Scells (.slice p.ao p.l.length p.c) (pos + (wv - r)) pr) 62 (0, 0)) := (Below.heap_setCell V _ _ p.S hp.RS.symm).trans hS2
          have hCr : Chg p.own w (V.setCell ⟨p.R, 2, none⟩ (.int .i64 (wv : Int))) := hC2.setCell (.inl (.inl rfl)) _
          clear hn' c4 c5 c6 f5 f6
          go_wp2_with (go_at_call 50; go_must (refine (readErr_all p.R p.eff p.U p.S wv wv _ x y _ hRr).mono ?_; rintro e w' ⟨rfl, hR4, hC4⟩; have hU4 := (hC4.block p.U (heap_lt hUr) (fun h => hnU h.symm)).trans hUr; have hS4 := (hC4.block p.S (heap_lt hSr) (fun h => hp.RS h.symm)).trans hSr; have hC5 : Chg p.own w w' := hCr.trans hC4 (fun _ _ h => .inl h); clear hC4))
          go_ret2
          have hn' := HN.out
          have hr0 := HR0.out
          have hend := HEND.out
          have hrs := HRS.out
          unfold rs at hrs
          rw [← HLF.out, if_neg (by omega), if_neg (by omega)] at hrs
          obtain ⟨rfl, rfl⟩ := Prod.mk.inj hrs
          refine ⟨.slice (some ⟨p.U, r, none⟩) 0 (p.eff - r), wv, wv, rfl, row_buf hU4 hl hbig hrw hwe hpl hcont 0 (by omega) _ (by rw [List.take_zero]; exact List.eq_nil_of_length_eq_zero (by omega)), ⟨ub, x, y, pr, hR4, hU4, ?_, hl, Nat.le_refl _, hwe, by omega, by simp⟩, hC5⟩
          rw [hS4, show pos + (p.l.drop pos).length + (wv - wv) = pos + (wv - r) by omega]
        · obtain ⟨n1, hn1⟩ : ∃ n1, n = n1 + 1 := ⟨n - 1, by omega⟩
          have hne : ¬ p.eff = r := by omega
          have g5 : (0 : Int) ≤ (r : Int) := Int.natCast_nonneg _
          have g6 : (r : Int) ≤ (wv : Int) := by omega
          have hn' : wv - r = (n1 + 1) := by omega
          have hnn : (n1 + 1) ≤ 65536 := by omega
          have HN := hide hn'
          have HR0 := hide hr0
          have HEND := hide hend
          clear hn' hr0 hend hkk
          go_wp2_with fail
          go_quiet (fail)
          have hR2 : (W.drewN nq).heap[p.R]? = some (.cells (Rcells p.eff p.U p.S r wv (.iface 91 (.pointer (some p.aE))) x y) 74 (0, 0)) := hR'
          have hU2 : (W.drewN nq).heap[p.U]? = some (.cells (bcells ub) 5 (0, 0)) := hU'
          have hS2 : (W.drewN nq).heap[p.S]? = some (.cells (Scells (.slice p.ao p.l.length p.c) (pos + (wv - r)) pr) 62 (0, 0)) := hS'
          have hC2 : Chg p.own w (W.drewN nq) := hC'.drewN nq
          clear hR' hU' hS' hC' c0 c2 c3 c4 c5 c6 f2 f5 f6
          generalize W.drewN nq = V at *
          have c0 : V.cell? ⟨p.R, 0, none⟩ = some (.slice (some ⟨p.U, 0, none⟩) p.eff p.eff) := heap_of_cell hR2 0
          have c2 : V.cell? ⟨p.R, 2, none⟩ = some (.int .i64 r) := heap_of_cell hR2 2
          have c3 : V.cell? ⟨p.R, 3, none⟩ = some (.int .i64 wv) := heap_of_cell hR2 3
          have c4 : V.cell? ⟨p.R, 4, none⟩ = some (.iface 91 (.pointer (some p.aE))) := heap_of_cell hR2 4
          have c5 : V.cell? ⟨p.R, 5, none⟩ = some (.int .i64 x) := heap_of_cell hR2 5
          have c6 : V.cell? ⟨p.R, 6, none⟩ = some (.int .i64 y) := heap_of_cell hR2 6
          have f2 : V.frozen? ⟨p.R, 2, none⟩ = false := heap_frozen hR2 2
          have f5 : V.frozen? ⟨p.R, 5, none⟩ = false := heap_frozen hR2 5
          have f6 : V.frozen? ⟨p.R, 6, none⟩ = false := heap_frozen hR2 6
          have hn' := HN.out
          simp only [hn']
          have hRr := set2 hR2 (wv : Int) wv rfl
          have hUr : (V.setCell ⟨p.R, 2, none⟩ (.int .i64 (wv : Int))).heap[p.U]? = some (.cells (bcells ub) 5 (0, 0)) := (Below.heap_setCell V _ _ p.U hnU.symm).trans hU2
          have hSr : (V.setCell ⟨p.R, 2, none⟩ (.int .i64 (wv : Int))).heap[p.S]? = some (.cells (Scells (.slice p.ao p.l.length p.c) (pos + (wv - r)) pr) 62 (0, 0)) := (Below.heap_setCell V _ _ p.S hp.RS.symm).trans hS2
          have hCr : Chg p.own w (V.setCell ⟨p.R, 2, none⟩ (.int .i64 (wv : Int))) := hC2.setCell (.inl (.inl rfl)) _
          have hbl : (V.setCell ⟨p.R, 2, none⟩ (.int .i64 (wv : Int))).cell? ⟨p.U, r + n1, none⟩ = some (.int .u8 ((p.l.drop pos).getD n1 0)) := buf_cell hUr hl hwe hpl hcont n1 (by omega)
          have hbo := byte_at (hp.byt.drop pos) n1
          obtain ⟨bv, hbv⟩ : ∃ b, b = (p.l.drop pos).getD n1 0 := ⟨_, rfl⟩
          rw [← hbv] at hbl hbo
          have hwr7 : IntKind.i64.wrap (((n1 + 1 : Nat) : Int) - 1) = (n1 : Int) := by rw [IntKind.wrap_i64]; omega
          have hwr8 : IntKind.i64.wrap bv = bv := by rw [IntKind.wrap_i64]; omega
          have q1 : decide ((0 : Int) ≤ (n1 : Int)) = true := decide_eq_true (Int.natCast_nonneg _)
          have g8 : (0 : Int) ≤ (n1 : Int) := Int.natCast_nonneg _
          have g9 : (n1 : Int) < ((n1 + 1 : Nat) : Int) := by omega
          clear hbv
          clear hn' c4 c5 c6 f5 f6
          go_wp2_with (go_at_call 50; go_must (refine (readErr_all p.R p.eff p.U p.S wv wv _ x y _ hRr).mono ?_; rintro e w' ⟨rfl, hR4, hC4⟩; have hU4 := (hC4.block p.U (heap_lt hUr) (fun h => hnU h.symm)).trans hUr; have hS4 := (hC4.block p.S (heap_lt hSr) (fun h => hp.RS h.symm)).trans hSr; have hC5 : Chg p.own w w' := hCr.trans hC4 (fun _ _ h => .inl h); have hb4 : w'.cell? ⟨p.U, r + n1, none⟩ = some (.int .u8 bv) := (hC4.cell (p := ⟨p.U, r + n1, none⟩) (heap_lt hUr) (fun h => hnU h.symm)).trans hbl; have d5 : w'.cell? ⟨p.R, 5, none⟩ = some (.int .i64 x) := heap_of_cell hR4 5; have d6 : w'.cell? ⟨p.R, 6, none⟩ = some (.int .i64 y) := heap_of_cell hR4 6; have k5 : w'.frozen? ⟨p.R, 5, none⟩ = false := heap_frozen hR4 5; have k6 : w'.frozen? ⟨p.R, 6, none⟩ = false := heap_frozen hR4 6; clear hC4))
          go_ret2
          have hn' := HN.out
          have hr0 := HR0.out
          have hend := HEND.out
          have hrs := HRS.out
          unfold rs at hrs
          rw [← HLF.out, if_neg (by omega), if_neg (by omega)] at hrs
          obtain ⟨rfl, rfl⟩ := Prod.mk.inj hrs
          have hR6 := set56 hR4 bv (-1)
          have hU6 := (set56_other (V := w') hnU.symm (.int .i64 bv) (.int .i64 (-1))).trans hU4
          have hS6 := (set56_other (V := w') hp.RS.symm (.int .i64 bv) (.int .i64 (-1))).trans hS4
          refine ⟨.slice (some ⟨p.U, r, none⟩) (n1 + 1) (p.eff - r), wv, wv, rfl, row_buf hU6 hl hbig hrw hwe hpl hcont (n1 + 1) (by omega) _ (List.take_of_length_le (by omega)).symm, ⟨ub, bv, -1, pr, hR6, hU6, ?_, hl, Nat.le_refl _, hwe, by omega, by simp⟩, hC5.set56 _ _⟩
          rw [hS6, show pos + (p.l.drop pos).length + (wv - wv) = pos + (wv - r) by omega]
end Go.Proofs.Qxb6613793aDoor
