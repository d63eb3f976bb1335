/-
  THE WALK of the law FnAddTagsSplitAtSpaceAgrees (5).
-/
import Derived.Test.Qxb6609203aW7
import Derived.Test.Qxb6609203aPlain3
set_option linter.unusedVariables false
set_option linter.unusedSimpArgs false
namespace Go.Proofs.Qxb6609203a
open Go.RowKit

set_option maxHeartbeats 400000 in
theorem zzBytes16_true (a0 a1 : ByteArray) (a2 a3 : Int) (w : World) (h0 : a0.size ≤ 4096) (h1 : a1.size ≤ 4096) :
    Calls Try.prog 16 #[.string a0, .string a1, .int .i32 a2, .int .i32 a3] w fun e w' => e = .returned (.bool true) ∧ w = w' := by
  go_enter Try.func16, Try.ntmps16
  go_wp2
  go_ret
  exact ⟨rfl, rfl⟩

set_option maxHeartbeats 400000 in
theorem law5_long (a0 a1 : ByteArray) (a2 a3 : Int) (w0 : a0.size ≤ maxLen) (w1 : a1.size ≤ maxLen) (w : World) (h : 4096 < a0.size ∨ a0.size ≤ 4096 ∧ 4096 < a1.size) :
    Calls Try.prog 5 #[.string a0, .string a1, .int .i32 a2, .int .i32 a3] w fun e w' => e = .returned (.bool true) ∧ Below w.heap.size w w' := by
  have hz := zzBytes16_any a0 a1 a2 a3 w w0 w1
  unfold maxLen at w0 w1
  rcases h with h | ⟨h1, h2⟩
  all_goals
    go_enter Try.func5, Try.ntmps5
    go_wp2_with (go_at_call 16; refine hz.mono ?_; rintro e w' ⟨rfl | rfl, rfl⟩)
    all_goals
      go_ret
      exact ⟨rfl, Below.refl _ _⟩

theorem filedx (F : List ByteArray) (p : Int × Int) (t : ByteArray) : filed (fun _ => []) F p t = List.replicate (cnt F t) p := by simp [filed]
theorem filedy (F1 F2 : List ByteArray) (p : Int × Int) (t : ByteArray) : filed (filed (fun _ => []) F1 p) F2 p t = List.replicate (cnt F1 t + cnt F2 t) p := by
  simp [filed, List.replicate_append_replicate]

theorem conv10 (W : World) : (convert 25 9 (.slice (some ⟨W.heap.size, 0, none⟩) 1 1)).run Try.prog (W.alloc (.cells #[.int .u8 10] 5)) = .ok (.string ⟨#[10]⟩) (W.alloc (.cells #[.int .u8 10] 5)) := by
  have h := run_convert_bytes_back (P := Try.prog) (W.alloc (.cells #[.int .u8 10] 5)) 25 9 5 ⟨W.heap.size, 0, none⟩ 1 [10] Try.underlying25 Try.underlying5 Try.underlying9 (fun j hj => by
    obtain rfl : j = 0 := by simpa using hj
    simp [Addr.add])
  exact h

set_option maxRecDepth 100000 in
set_option maxHeartbeats 4000000 in
theorem law5_short (a0 a1 : ByteArray) (a2 a3 : Int) (w : World) (h0 : a0.size ≤ 4096) (h1 : a1.size ≤ 4096) :
    Calls Try.prog 5 #[.string a0, .string a1, .int .i32 a2, .int .i32 a3] w fun e w' => e = .returned (.bool true) ∧ Below w.heap.size w w' := by
  have hz := zzBytes16_true a0 a1 a2 a3 w h0 h1
  have l0 := fieldsB_length a0
  have l1 := fieldsB_length a1
  have z0 := fieldsB_size a0
  have z1 := fieldsB_size a1
  have hF0 := fun W => zzFields_any a0 W (by omega)
  have hF1 := fun W => zzFields_any a1 W (by omega)
  have hA0 := fun rp b B n ks M W hT hn => zzAddTags_any rp b B n ks M a0 a2 a3 W hT (by omega) hn
  have hA1 := fun rp b B n ks M W hT hn => zzAddTags_any rp b B n ks M a1 a2 a3 W hT (by omega) hn
  have hAx := fun rp b B n ks M W hT hn => zzAddTags_any rp b B n ks M (a0 ++ ⟨#[10]⟩ ++ a1) a2 a3 W hT (by simp [ByteArray.size_append]; show a0.size + 1 + a1.size ≤ _; omega) hn
  simp only [fieldsB_split] at hAx
  obtain ⟨F0, e0⟩ : ∃ F0, F0 = fieldsB a0 := ⟨_, rfl⟩
  obtain ⟨F1, e1⟩ : ∃ F1, F1 = fieldsB a1 := ⟨_, rfl⟩
  rw [← e0] at l0 z0
  rw [← e1] at l1 z1
  simp only [← e0] at hF0 hA0
  simp only [← e1] at hF1 hA1
  simp only [← e0, ← e1] at hAx
  clear e0 e1
  have d0 : decide ((4096 : Int) < (a0.size : Int)) = false := by simp; omega
  have d1 : decide ((4096 : Int) < (a1.size : Int)) = false := by simp; omega
  have hcv := conv10
  go_enter Try.func5, Try.ntmps5
  go_wp2_with (go_at_call 16; refine hz.mono ?_; rintro e w' ⟨rfl, rfl⟩)
  refine (newTagReader_any w).mono ?_
  rintro e w1 ⟨rfl, T1, b1⟩
  go_wp2_with fail
  have T1' := T1.below ((Below.refl _ w1).alloc (Nat.le_refl _) (.cells #[.int .u8 10] 5))
  refine (hAx _ _ _ _ _ _ _ T1' (by omega)).mono ?_
  rintro e w2 ⟨rfl, ksx, Tx, kx, b2⟩
  have b2' : Below w.heap.size w w2 := (b1.trans ((Below.refl _ w1).alloc (by have := b1.size; omega) _)).trans b2
  clear T1 T1' hAx
  go_wp2_with fail
  refine (newTagReader_any w2).mono ?_
  rintro e w3 ⟨rfl, T3, b3⟩
  have Tx3 := Tx.below b3
  go_wp2_with fail
  refine (hA0 _ _ _ _ _ _ _ T3 (by omega)).mono ?_
  rintro e w4 ⟨rfl, ks4, T4, k4, b4⟩
  go_wp2_with fail
  refine (hA1 _ _ _ _ _ _ _ T4 (by omega)).mono ?_
  rintro e w5 ⟨rfl, ksy, Ty, ky, b5⟩
  have hxy : Below w2.heap.size w2 w5 := (b3.trans b4).trans b5
  have Tx5 := Tx.below hxy
  have hB5 : Below w.heap.size w w5 := b2'.trans (hxy.mono b2'.size)
  clear Tx Tx3 T3 T4 b1 b2 b2' b3 b4 b5 hxy
  go_wp2_with fail
  refine (hF0 _).mono ?_
  rintro e w6 ⟨v0, rfl, o0, b6⟩
  go_wp2_with fail
  refine (hF1 _).mono ?_
  rintro e w7 ⟨v1, rfl, o1, b7⟩
  have o0' := own_below o0 b7
  go_wp2_with fail
  refine (zzDistinct_any v0 v1 _ _ F0 F1 _ o0' o1 (by omega) (by omega)).mono ?_
  rintro e w8 ⟨vt, rfl, ot, b8⟩
  have q0 := own_below o0' b8
  have q1 := own_below o1 b8
  have Tx8 := ((Tx5.below b6).below b7).below b8
  have Ty8 := ((Ty.below b6).below b7).below b8
  have hB : Below w.heap.size w w8 := by
    have s5 := hB5.size
    have s6 := b6.size
    have s7 := b7.size
    exact ((hB5.trans (b6.mono (by omega))).trans (b7.mono (by omega))).trans (b8.mono (by omega))
  have hkx : ksx.length = (dist [] (F0 ++ F1)).length := by
    obtain ⟨es, cl, T, _⟩ := Tx8
    refine nodup_same T.nodup (dist_nodup _ _ List.nodup_nil) (fun x => ?_)
    rw [kx x, dist_mem]
  have hky : ksy.length = (dist [] (F0 ++ F1)).length := by
    obtain ⟨es, cl, T, _⟩ := Ty8
    refine nodup_same T.nodup (dist_nodup _ _ List.nodup_nil) (fun x => ?_)
    rw [ky x, k4 x, dist_mem]
    simp
  have hmem : ∀ x ∈ dist [] (F0 ++ F1), x.size ≤ maxLen := fun x hx => by
    unfold maxLen
    rcases (dist_mem _ _ _).1 hx with h | h
    · cases h
    · rcases List.mem_append.1 h with h | h
      · have := z0 x h; omega
      · have := z1 x h; omega
  have hdl := dist_length (F0 ++ F1) []
  simp only [List.length_nil, List.length_append] at hdl
  obtain ⟨D, hD⟩ : ∃ D, D = dist [] (F0 ++ F1) := ⟨_, rfl⟩
  rw [← hD] at ot hkx hky hmem hdl
  have hCx := tagCount_any _ _ _ _ _ _ w8 Tx8
  have hCy := tagCount_any _ _ _ _ _ _ w8 Ty8
  rw [hkx] at hCx
  rw [hky] at hCy
  obtain ⟨td, tc, rfl, htd⟩ := own_shape ot
  clear hA0 hA1 hF0 hF1 Tx5 Ty o0 o1 o0' kx ky k4 b6 b7 b8 hz hD hkx hky hB5 hcv
  go_wp2_with fail
  refine hCx.mono ?_
  rintro e w' ⟨rfl, rfl⟩
  go_wp2_with fail
  refine hCy.mono ?_
  rintro e w' ⟨rfl, rfl⟩
  clear hCx hCy
  go_wp2_with fail
  go_loopw [77] (fun i wr => ∃ k : Nat, i = .int .i64 k ∧ k ≤ D.length ∧ Below w8.heap.size w8 wr) (fun i _ => D.length - (intOf i).toNat)
  case atStart => exact ⟨0, rfl, Nat.zero_le _, Below.refl _ _⟩
  case round =>
    obtain ⟨k, rfl, hk, hnx⟩ := hrel
    have hBr : Below w.heap.size w wr := hB.trans (hnx.mono hB.size)
    by_cases hlt : k < D.length
    · obtain ⟨g, rfl, hg⟩ := htd (by omega)
      have hc : wr.cell? ⟨g, k, none⟩ = some (.string D[k]) := (hnx.cell (p := ⟨g, k, none⟩) hg).trans ((ot.cellAt k (by omega)).trans (by simp [hlt]))
      have hts := hmem D[k] (List.getElem_mem hlt)
      obtain ⟨t, ht⟩ : ∃ t, t = D[k] := ⟨_, rfl⟩
      rw [← ht] at hc hts
      have hRx := tagRanges_any _ _ _ _ _ _ t wr (Tx8.below hnx) hts (by simp; omega)
      have hRy := fun W (o : Below wr.heap.size wr W) => tagRanges_any _ _ _ _ _ _ t W ((Ty8.below hnx).below o) hts (by omega)
      rw [filedx, cnt_append] at hRx
      simp only [filedy] at hRy
      have c0 := cnt_le F0 t
      have c1 := cnt_le F1 t
      have r0 := own_below q0 hnx
      have r1 := own_below q1 hnx
      have C0 := fun W (o : Below wr.heap.size wr W) => zzCount_any v0 _ F0 t W (own_below r0 o) (by omega)
      have C1 := fun W (o : Below wr.heap.size wr W) => zzCount_any v1 _ F1 t W (own_below r1 o) (by omega)
      obtain ⟨n0, hn0⟩ : ∃ n0, n0 = cnt F0 t := ⟨_, rfl⟩
      obtain ⟨n1, hn1⟩ : ∃ n1, n1 = cnt F1 t := ⟨_, rfl⟩
      simp only [← hn0, ← hn1] at hRx hRy
      rw [← hn0] at c0 C0
      rw [← hn1] at c1 C1
      have hZat : ∀ i, i < n0 + n1 → (List.replicate (n0 + n1) (a2, a3))[i]? = some (a2, a3) := fun i hi => by simp [hi]
      have hZl : (List.replicate (n0 + n1) (a2, a3)).length = n0 + n1 := by simp
      obtain ⟨ZS, hZS⟩ : ∃ ZS, ZS = List.replicate (n0 + n1) (a2, a3) := ⟨_, rfl⟩
      simp only [← hZS] at hRx hRy hZat hZl
      rw [hZl] at hRx
      simp only [hZl] at hRy
      clear hZS ht Tx8 Ty8 q0 q1 ot hmem hn0 hn1 r0 r1 htd hZl
      go_wp2_with fail
      refine hRx.mono ?_
      rintro e w9 ⟨A, rfl, oA, b9⟩
      have hRy' := hRy w9 b9
      clear hRx hRy
      go_wp2_with fail
      refine hRy'.mono ?_
      rintro e w10 ⟨A', rfl, oA', b10⟩
      have b910 : Below wr.heap.size wr w10 := b9.trans (b10.mono b9.size)
      have oA2 := own_below oA b10
      have C0' := C0 w10 b910
      have C1' := C1 w10 b910
      clear C0 C1 hRy' oA
      go_wp2_with fail
      refine C0'.mono ?_
      rintro e w' ⟨rfl, rfl⟩
      go_wp2_with fail
      refine C1'.mono ?_
      rintro e w' ⟨rfl, rfl⟩
      clear C0' C1'
      go_wp2_with fail
      go_loop [19] (fun i => ∃ j : Nat, i = .int .i64 j ∧ j ≤ n0 + n1) (fun i => n0 + n1 - (intOf i).toNat)
      case atStart => exact ⟨0, rfl, Nat.zero_le _⟩
      case round =>
        obtain ⟨j, rfl, hj⟩ := hrel
        by_cases hjl : j < n0 + n1
        · have hz := hZat j hjl
          have p1 := (oA2.cellAt (j * 2) (by omega)).trans (prs_at ZS j _ hz).1
          have p2 := (oA2.cellAt (j * 2 + 1) (by omega)).trans (prs_at ZS j _ hz).2
          have p3 := (oA'.cellAt (j * 2) (by omega)).trans (prs_at ZS j _ hz).1
          have p4 := (oA'.cellAt (j * 2 + 1) (by omega)).trans (prs_at ZS j _ hz).2
          clear hZat oA2 oA' hz
          go_wp2
          go_round
          case rel => exact ⟨j + 1, by go_num, by omega⟩
          case measure => simp [intOf]; omega
        · clear hZat oA2 oA'
          go_wp2
          go_roundw
          case rel => exact ⟨k + 1, by go_num, by omega, hnx.trans (b910.mono hnx.size)⟩
          case measure => simp [intOf]; omega
    · go_wp2
      go_ret
      exact ⟨rfl, hBr⟩
end Go.Proofs.Qxb6609203a
