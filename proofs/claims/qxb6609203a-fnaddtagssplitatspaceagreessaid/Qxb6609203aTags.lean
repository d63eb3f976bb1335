/-
  THE TAG TABLE IN MEMORY: block b is a map keyed by strings whose elements are slices of code ranges, each in a row of its own from block B on.
-/
import Derived.Test.Qxb6609203aProg
import Derived.Test.Qxb6609203aPlain2
import Derived.Maps.OwnSet
import Derived.Maps.AppendAt
import Derived.Below
import Derived.KernelRfl
set_option linter.unusedVariables false
set_option linter.unusedSimpArgs false
namespace Go.Proofs.Qxb6609203a
open Go.RowKit Go.ChangeMaps Go.MapKept Go.WideShapes Go.ChangeShapes Go.WideMaps
open Go.WideElems (Fit rd rg pl rd_val rd_key rg_of)
open Go.Maps (Keyed)

theorem law : Keyed Try.prog 9 := Maps.string_keyed Try.underlying9
theorem zero50 (w : World) : (zeroValue 50).run Try.prog w = .ok (.slice none 0 0) w := by kernel_rfl

/-- The elements are not read through the map: their rows are told beside it. -/
def R0 : Value → Option (DataW Unit × List MemPlace) := fun _ => some (.nil, [])
/-- The table's keys as a datum. -/
def DD (P : Program) (es : Array MapEntry) : DataW Unit := .map ((es.toList.map (rg P 9 R0)).foldr DataW.insert [])
/-- The cells of a list of code ranges. -/
def prs (zs : List (Int × Int)) : List Value := zs.flatMap fun p => [Value.int .i32 p.1, Value.int .i32 p.2]
/-- What is filed, turned at one tag. -/
def upd (M : ByteArray → List (Int × Int)) (t : ByteArray) (zs : List (Int × Int)) : ByteArray → List (Int × Int) := fun s => if s.data.toList = t.data.toList then zs else M s

theorem prs_length (zs : List (Int × Int)) : (prs zs).length = zs.length * 2 := by
  induction zs with
  | nil => rfl
  | cons x t ih => simp [prs, List.flatMap_cons] at ih ⊢; omega
theorem prs_snoc (zs : List (Int × Int)) (a b : Int) : prs (zs ++ [(a, b)]) = prs zs ++ [Value.int .i32 a, Value.int .i32 b] := by simp [prs]
theorem prs_at : ∀ (zs : List (Int × Int)) (i : Nat) (x : Int × Int), zs[i]? = some x → (prs zs)[i * 2]? = some (Value.int .i32 x.1) ∧ (prs zs)[i * 2 + 1]? = some (Value.int .i32 x.2)
  | [], i, x, h => by simp at h
  | y :: t, 0, x, h => by
    simp at h
    subst h
    simp [prs]
  | y :: t, i + 1, x, h => by
    have ih := prs_at t i x (by simpa using h)
    have e : prs (y :: t) = Value.int .i32 y.1 :: Value.int .i32 y.2 :: prs t := by simp [prs]
    rw [e, show (i + 1) * 2 = i * 2 + 1 + 1 by omega, show i * 2 + 1 + 1 + 1 = (i * 2 + 1) + 1 + 1 by omega]
    simpa using ih

theorem upd_same (M : ByteArray → List (Int × Int)) (t : ByteArray) (zs : List (Int × Int)) : upd M t zs t = zs := by simp [upd]
theorem upd_other (M : ByteArray → List (Int × Int)) {t s : ByteArray} (zs : List (Int × Int)) (h : s ≠ t) : upd M t zs s = M s := by
  unfold upd; rw [if_neg (fun e => h (ba_ext e))]

structure Tags (w : World) (b B n : Nat) (No : Nat → Prop) (ks : List ByteArray) (M : ByteArray → List (Int × Int)) (es : Array MapEntry) (clock : Nat) : Prop where
  heap : w.heap[b]? = some (.map es clock)
  fit : Fit Try.prog 9 R0 es clock
  rows : ∀ x ∈ es.toList, ∃ s : ByteArray, x.key = .string s ∧ w.ownsRow B 62 2 x.val (M s).length (prs (M s)) ∧ ∀ g, x.val.ownBlock = some g → ¬ No g
  apart : ∀ x ∈ es.toList, ∀ y ∈ es.toList, x.key ≠ y.key → x.val.ownBlock = none ∨ x.val.ownBlock ≠ y.val.ownBlock
  mem : ∀ s : ByteArray, s.size ≤ maxLen → (Maps.has (DD Try.prog es) (.string s.data.toList) = true ↔ s ∈ ks)
  small : ∀ s ∈ ks, s.size ≤ maxLen
  size : es.size = ks.length
  nodup : ks.Nodup
  out : ∀ s, s ∉ ks → M s = []
  len : ∀ s, (M s).length ≤ n
  cnt : es.size ≤ n
  lt : b < B

variable {w : World} {b B n : Nat} {No : Nat → Prop} {ks : List ByteArray} {M : ByteArray → List (Int × Int)} {es : Array MapEntry} {clock : Nat}

theorem key_of {t : ByteArray} (ht : t.size ≤ maxLen) : keyOf Try.prog 9 (.string t) = some (.string t.data.toList) := keyOf_string_mk Try.underlying9 ht

theorem tags_made (w : World) (B : Nat) (hB : w.heap.size < B) (No : Nat → Prop) : Tags (w.alloc (.map #[] 0)) w.heap.size B 0 No [] (fun _ => []) #[] 0 :=
  ⟨(MapKept.heap_alloc w _).1, ⟨by simp, stamped_empty 0, by simp⟩, by simp, by simp, fun s _ => by simp [DD, Maps.has], by simp, rfl, List.nodup_nil, fun _ _ => rfl, fun _ => Nat.le_refl _, Nat.le_refl _, hB⟩

theorem Tags.tidy (T : Tags w b B n No ks M es clock) : Maps.Tidy (DD Try.prog es) :=
  ⟨_, rfl, ((sorted_perm _).pairwise_iff (fun {_ _} hne => Ne.symm hne)).2 (Maps.fit_apart law T.fit)⟩

theorem size_DD (es : Array MapEntry) : Maps.size (DD Try.prog es) = es.size := by simp [Maps.size, DD, length_sorted]

/-- Another world in which the map's block and every row lies as it did. -/
theorem Tags.kept (T : Tags w b B n No ks M es clock) {w' : World} {row : Option Nat} (hg : w.grownBy w' row) (hb : some b ≠ row) (hrow : ∀ g, row = some g → g < B ∨ No g) : Tags w' b B n No ks M es clock := by
  refine ⟨(hg.block b (Array.getElem?_eq_some_iff.1 T.heap).1 hb).trans T.heap, T.fit, fun x hx => ?_, T.apart, T.mem, T.small, T.size, T.nodup, T.out, T.len, T.cnt, T.lt⟩
  obtain ⟨s, h1, h2, h3⟩ := T.rows x hx
  refine ⟨s, h1, h2.kept hg ?_, h3⟩
  cases hv : x.val.ownBlock with
  | none => exact .inl rfl
  | some g =>
    refine .inr (fun e => ?_)
    rcases hrow g e.symm with h | h
    · have := (h2.lt g hv).1; omega
    · exact h3 g hv h

theorem Tags.below (T : Tags w b B n No ks M es clock) {w' : World} (hb : Below w.heap.size w w') : Tags w' b B n No ks M es clock :=
  T.kept (row := none) ⟨hb.os, hb.tape, hb.output, hb.size, fun k hk _ => hb.block k hk⟩ (by simp) (fun g h => by cases h)

/-- Other blocks to be shunned, if whatever is new among them lies above all that is there. -/
theorem Tags.reno (T : Tags w b B n No ks M es clock) (No' : Nat → Prop) (h : ∀ g, No' g → No g ∨ w.heap.size ≤ g) : Tags w b B n No' ks M es clock := by
  refine ⟨T.heap, T.fit, fun x hx => ?_, T.apart, T.mem, T.small, T.size, T.nodup, T.out, T.len, T.cnt, T.lt⟩
  obtain ⟨s, h1, h2, h3⟩ := T.rows x hx
  refine ⟨s, h1, h2, fun g hg hn => ?_⟩
  rcases h g hn with h | h
  · exact h3 g hg h
  · have := (h2.lt g hg).2; omega

theorem Tags.more (T : Tags w b B n No ks M es clock) {n' : Nat} (h : n ≤ n') : Tags w b B n' No ks M es clock :=
  ⟨T.heap, T.fit, T.rows, T.apart, T.mem, T.small, T.size, T.nodup, T.out, fun s => Nat.le_trans (T.len s) h, Nat.le_trans T.cnt h, T.lt⟩

/-- 'm[t]': the value, what it owns; no other key's row is its row. -/
theorem Tags.look (T : Tags w b B n No ks M es clock) {t : ByteArray} (ht : t.size ≤ maxLen) :
    ∃ v, (∀ w' : World, w'.heap[b]? = some (.map es clock) → (Instr.lookup 42 (.map (some b)) (.string t) false).run Try.prog w' = .ok v w') ∧ w.ownsRow B 62 2 v (M t).length (prs (M t)) ∧
      (∀ x ∈ es.toList, x.key ≠ .string t → x.val.ownBlock = none ∨ x.val.ownBlock ≠ v.ownBlock) ∧ (∀ g, v.ownBlock = some g → ¬ No g) := by
  have K := law
  rcases K.find w (key_of ht) es.toList T.fit.keys with ⟨h1, h2⟩ | ⟨j, e0, h1, h2, h3⟩
  · have hM : M t = [] := by
      apply T.out
      intro hm
      have hh := (T.mem t ht).2 hm
      rcases Maps.fit_look false K Try.underlying42 (zero50 w) T.heap T.fit (key_of ht) with ⟨_, _, hat⟩ | ⟨e0, _, hm0, h3, _⟩
      · have := Maps.has_false_of_atKey hat
        unfold DD at hh
        rw [this] at hh
        cases hh
      · exact h2 e0 hm0 h3
    refine ⟨.slice none 0 0, fun w' hw' => ?_, ?_, fun x hx hne => ?_, fun g hg => by cases hg⟩
    · rcases Maps.fit_look false K Try.underlying42 (zero50 w') hw' T.fit (key_of ht) with ⟨hr, _, _⟩ | ⟨e0, _, hm0, h3, _⟩
      · exact hr
      · exact absurd h3 (h2 e0 hm0)
    · rw [hM]; exact World.ownsRow_nil _ _ _ _
    · cases x.val.ownBlock <;> simp [Value.ownBlock]
  · have hm0 : e0 ∈ es.toList := List.mem_of_getElem? h2
    obtain ⟨s, hs, ho, hno⟩ := T.rows e0 hm0
    have hst : s = t := by rw [h3] at hs; cases hs; rfl
    subst hst
    refine ⟨e0.val, fun w' hw' => ?_, ho, fun x hx hne => T.apart x hx e0 hm0 (by rw [h3]; exact hne), hno⟩
    rcases Maps.fit_look false K Try.underlying42 (zero50 w') hw' T.fit (key_of ht) with ⟨_, h4, _⟩ | ⟨e1, _, hm1, h4, hr, _⟩
    · exact absurd h3 (h4 e0 hm0)
    · have : e1 = e0 := by
        have hp : es.toList.Pairwise (fun x y => x.key ≠ y.key) := ((stamped_iff es clock).1 T.fit.stamped).2.2
        obtain ⟨i1, hi1, rfl⟩ := List.getElem_of_mem hm1
        obtain ⟨i0, hi0, rfl⟩ := List.getElem_of_mem hm0
        rcases Nat.lt_trichotomy i1 i0 with h | h | h
        · exact absurd (h4.trans h3.symm) (List.pairwise_iff_getElem.1 hp i1 i0 hi1 hi0 h)
        · subst h; rfl
        · exact absurd (h3.trans h4.symm) (List.pairwise_iff_getElem.1 hp i0 i1 hi0 hi1 h)
      rw [this] at hr
      exact hr

/-- 'm[t] = v'', behind whatever was done to v's own row and to new blocks. -/
theorem Tags.store (T : Tags w b B n No ks M es clock) {t : ByteArray} (ht : t.size ≤ maxLen) (hn : n < maxLen) {v : Value} (hv : ∀ x ∈ es.toList, x.key ≠ .string t → x.val.ownBlock = none ∨ x.val.ownBlock ≠ v.ownBlock) (hvb : v.ownBlock ≠ some b)
    {w1 : World} {v' : Value} {zs : List (Int × Int)} (hg : w.grownBy w1 v.ownBlock) (hown' : w1.ownsRow B 62 2 v' zs.length (prs zs)) (hl : zs.length ≤ n + 1) (hloc : v'.ownBlock = v.ownBlock ∨ ∃ g, v'.ownBlock = some g ∧ w.heap.size ≤ g)
    (hno : ∀ g, v'.ownBlock = some g → ¬ No g) :
    ∃ w2 es' clock' ks', (Instr.mapUpdate 42 (.map (some b)) (.string t) v').run Try.prog w1 = .ok () w2 ∧ (∀ s, s ∈ ks' ↔ s ∈ ks ∨ s = t) ∧ Tags w2 b B (n + 1) No ks' (upd M t zs) es' clock' ∧ w1.grownBy w2 (some b) := by
  have K := law
  have hblt : b < w.heap.size := (Array.getElem?_eq_some_iff.1 T.heap).1
  have hb1 : w1.heap[b]? = some (.map es clock) := (hg.block b hblt (fun e1 => hvb e1.symm)).trans T.heap
  obtain ⟨es', clock', hrun, F', hput, _, _, hwho⟩ := Maps.fit_store (R' := R0) K Try.underlying42 hb1 T.fit (Nat.lt_of_le_of_lt T.cnt hn) (fun _ _ _ _ hz => hz) (key_of ht) (val := v') (yv := (.nil, [])) rfl
  have hg2 : w1.grownBy (setBlock w1 b (.map es' clock')) (some b) := ⟨rfl, rfl, rfl, by simp [setBlock], fun i _ hi => heap_setBlock_other hb1 _ (fun e1 => hi (by rw [e1]))⟩
  have hD : DD Try.prog es' = (DD Try.prog es).put (.string t.data.toList) .nil := by
    unfold DD
    rw [hput, DataW.put_eq]
  have own_ne : ∀ {u : Value} {m : Nat} {xs : List Value}, w1.ownsRow B 62 2 u m xs → u.ownBlock = none ∨ u.ownBlock ≠ some b := fun {u m xs} ho => by
    cases hu : u.ownBlock with
    | none => exact .inl rfl
    | some g =>
      refine .inr (fun e1 => ?_)
      have := (ho.lt g hu).1
      have := T.lt
      cases e1
      omega
  have old_new : ∀ x ∈ es.toList, x.key ≠ .string t → x.val.ownBlock = none ∨ x.val.ownBlock ≠ v'.ownBlock := by
    intro x hx hne
    rcases hloc with h1 | ⟨g, h1, h2⟩
    · rw [h1]; exact hv x hx hne
    · cases hx' : x.val.ownBlock with
      | none => exact .inl rfl
      | some gx =>
        obtain ⟨s, _, ho, _⟩ := T.rows x hx
        have := (ho.lt gx hx').2
        refine .inr (fun e1 => ?_)
        rw [h1] at e1
        cases e1
        omega
  have hkl : WideAt.IsKeyLit (.string t.data.toList) := K.key (key_of ht)
  have hsz : es'.size = if Maps.has (DD Try.prog es) (.string t.data.toList) then es.size else es.size + 1 := by
    rw [← size_DD es', hD, Maps.size_put T.tidy, size_DD]
  have hmem : ∀ s : ByteArray, s.size ≤ maxLen → (Maps.has (DD Try.prog es') (.string s.data.toList) = true ↔ s ∈ ks ∨ s = t) := by
    intro s hs
    rw [hD]
    by_cases e : s = t
    · subst e
      rw [Maps.has_put_same T.tidy.isMap hkl]
      simp
    · rw [Maps.has_put_other (fun h => e (ba_ext (Lit.string.inj h))), T.mem s hs]
      simp [e]
  have hrows : ∀ x ∈ es'.toList, ∃ s : ByteArray, x.key = .string s ∧ (setBlock w1 b (.map es' clock')).ownsRow B 62 2 x.val (upd M t zs s).length (prs (upd M t zs s)) ∧ ∀ g, x.val.ownBlock = some g → ¬ No g := by
    intro x hx
    rcases hwho x hx with ⟨hx0, hne⟩ | ⟨hk, hval⟩
    · obtain ⟨s, h1, h2, h3⟩ := T.rows x hx0
      have hst : s ≠ t := fun e => hne (by rw [h1, e])
      have h4 := h2.kept hg (hv x hx0 hne)
      exact ⟨s, h1, by rw [upd_other M zs hst]; exact h4.kept hg2 (own_ne h4), h3⟩
    · exact ⟨t, hk, by rw [upd_same, hval]; exact hown'.kept hg2 (own_ne hown'), by rw [hval]; exact hno⟩
  have hap : ∀ x ∈ es'.toList, ∀ y ∈ es'.toList, x.key ≠ y.key → x.val.ownBlock = none ∨ x.val.ownBlock ≠ y.val.ownBlock := by
    intro x hx y hy hne
    rcases hwho x hx with ⟨hx0, hxk⟩ | ⟨hxk, hxv⟩ <;> rcases hwho y hy with ⟨hy0, hyk⟩ | ⟨hyk, hyv⟩
    · exact T.apart x hx0 y hy0 hne
    · rw [hyv]; exact old_new x hx0 hxk
    · rw [hxv]
      cases hv' : v'.ownBlock with
      | none => exact .inl rfl
      | some g =>
        refine .inr (fun e1 => ?_)
        rcases old_new y hy0 hyk with h | h
        · rw [h] at e1; cases e1
        · exact h (by rw [hv', e1])
    · exact absurd (hxk.trans hyk.symm) hne
  have hlen : ∀ s, (upd M t zs s).length ≤ n + 1 := by
    intro s
    unfold upd
    split
    · exact hl
    · have := T.len s; omega
  have hes : es'.size ≤ n + 1 := by
    have := T.cnt
    rw [hsz]; split <;> omega
  cases hh : Maps.has (DD Try.prog es) (.string t.data.toList) with
  | true =>
    have htk : t ∈ ks := (T.mem t ht).1 hh
    have hks : ∀ s, s ∈ ks ↔ s ∈ ks ∨ s = t := fun s => ⟨.inl, fun h => h.elim id (fun e => e ▸ htk)⟩
    refine ⟨_, es', clock', ks, hrun, hks, ⟨heap_setBlock_same hb1 _, F', hrows, hap, fun s hs => (hmem s hs).trans (hks s).symm, T.small, ?_, T.nodup, ?_, hlen, hes, T.lt⟩, hg2⟩
    · rw [hsz, hh]; exact T.size
    · intro s hs
      rw [upd_other (t := t) (s := s) M zs (fun e => hs (by rw [e]; exact htk))]
      exact T.out s hs
  | false =>
    have htk : t ∉ ks := fun h => by rw [(T.mem t ht).2 h] at hh; cases hh
    have hks : ∀ s, s ∈ ks ++ [t] ↔ s ∈ ks ∨ s = t := fun s => by simp
    refine ⟨_, es', clock', ks ++ [t], hrun, hks, ⟨heap_setBlock_same hb1 _, F', hrows, hap, fun s hs => (hmem s hs).trans (hks s).symm, ?_, ?_, ?_, ?_, hlen, hes, T.lt⟩, hg2⟩
    · intro s hs
      rcases (hks s).1 hs with h | h
      · exact T.small s h
      · rw [h]; exact ht
    · rw [hsz, hh]; simp [T.size]
    · rw [List.nodup_append]
      exact ⟨T.nodup, by simp, fun a ha c hc => by simp at hc; subst hc; exact fun e => htk (by rw [← e]; exact ha)⟩
    · intro s hs
      have h1 : s ∉ ks := fun h => hs ((hks s).2 (.inl h))
      rw [upd_other M zs (fun e => hs ((hks s).2 (.inr e)))]
      exact T.out s h1

/-- 'len(m)'. -/
theorem Tags.lenm (T : Tags w b B n No ks M es clock) (ty : TypeId) : (Builtin.len_ #[42] ty #[.map (some b)]).run Try.prog w = .ok (.int .i64 (ks.length : Int)) w := by
  rw [← T.size]
  simp [Builtin.len_, run_underlying Try.underlying42, MapKept.run_getObj_map T.heap, goInt, Result.andThen]

end Go.Proofs.Qxb6609203a
