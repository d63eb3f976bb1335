/-
  THE WALK of the law FnAddTagsFilesEachRangeOncePerField (4).
-/
import Derived.Test.Qxb6609203aW7
set_option linter.unusedVariables false
set_option linter.unusedSimpArgs false
namespace Go.Proofs.Qxb6609203a
open Go.RowKit

set_option maxHeartbeats 400000 in
theorem zzBytes8_true (a0 : ByteArray) (a1 : Int) (a2 : Int) (a3 : ByteArray) (a4 : Int) (a5 : Int) (w : World) (h0 : a0.size ≤ 4096) (h3 : a3.size ≤ 4096) :
    Calls Try.prog 8 #[.string a0, .int .i32 a1, .int .i32 a2, .string a3, .int .i32 a4, .int .i32 a5] w fun e w' => e = .returned (.bool true) ∧ w = w' := by
  go_enter Try.func8, Try.ntmps8
  go_wp2
  go_ret
  exact ⟨rfl, rfl⟩

set_option maxHeartbeats 400000 in
theorem law4_long (a0 : ByteArray) (a1 : Int) (a2 : Int) (a3 : ByteArray) (a4 : Int) (a5 : Int) (w0 : a0.size ≤ maxLen) (w3 : a3.size ≤ maxLen) (w : World) (h : 4096 < a0.size ∨ a0.size ≤ 4096 ∧ 4096 < a3.size) :
    Calls Try.prog 4 #[.string a0, .int .i32 a1, .int .i32 a2, .string a3, .int .i32 a4, .int .i32 a5] w fun e w' => e = .returned (.bool true) ∧ Below w.heap.size w w' := by
  have hz := zzBytes8_any a0 a1 a2 a3 a4 a5 w w0 w3
  unfold maxLen at w0 w3
  rcases h with h | ⟨h1, h2⟩
  all_goals
    go_enter Try.func4, Try.ntmps4
    go_wp2_with (go_at_call 8; refine hz.mono ?_; rintro e w' ⟨rfl | rfl, rfl⟩)
    all_goals
      go_ret
      exact ⟨rfl, Below.refl _ _⟩

theorem rep_at (n1 n2 : Nat) (p q : Int × Int) (i : Nat) (h : i < n1 + n2) : (List.replicate n1 p ++ List.replicate n2 q)[i]? = some (if i < n1 then p else q) := by
  by_cases hi : i < n1
  · rw [List.getElem?_append_left (by simpa using hi)]; simp [hi]
  · rw [List.getElem?_append_right (by simpa using hi), List.getElem?_replicate, if_pos (by simp; omega), if_neg hi]

theorem filed2 (F1 F2 : List ByteArray) (p q : Int × Int) (t : ByteArray) : filed (filed (fun _ => []) F1 p) F2 q t = List.replicate (cnt F1 t) p ++ List.replicate (cnt F2 t) q := by simp [filed]

set_option maxRecDepth 100000 in
set_option maxHeartbeats 4000000 in
theorem law4_short (a0 : ByteArray) (a1 : Int) (a2 : Int) (a3 : ByteArray) (a4 : Int) (a5 : Int) (w : World) (h0 : a0.size ≤ 4096) (h3 : a3.size ≤ 4096) :
    Calls Try.prog 4 #[.string a0, .int .i32 a1, .int .i32 a2, .string a3, .int .i32 a4, .int .i32 a5] w fun e w' => e = .returned (.bool true) ∧ Below w.heap.size w w' := by
  have hz := zzBytes8_true a0 a1 a2 a3 a4 a5 w h0 h3
  have l0 := fieldsB_length a0
  have l3 := fieldsB_length a3
  have z0 := fieldsB_size a0
  have z3 := fieldsB_size a3
  have hF0 := fun W => zzFields_any a0 W (by omega)
  have hF3 := fun W => zzFields_any a3 W (by omega)
  have hA0 := fun rp b B n ks M W hT hn => zzAddTags_any rp b B n ks M a0 a1 a2 W hT (by omega) hn
  have hA3 := fun rp b B n ks M W hT hn => zzAddTags_any rp b B n ks M a3 a4 a5 W hT (by omega) hn
  obtain ⟨F0, e0⟩ : ∃ F0, F0 = fieldsB a0 := ⟨_, rfl⟩
  obtain ⟨F3, e3⟩ : ∃ F3, F3 = fieldsB a3 := ⟨_, rfl⟩
  rw [← e0] at l0 z0
  rw [← e3] at l3 z3
  simp only [← e0] at hF0 hA0
  simp only [← e3] at hF3 hA3
  clear e0 e3
  have d0 : decide ((4096 : Int) < (a0.size : Int)) = false := by simp; omega
  have d3 : decide ((4096 : Int) < (a3.size : Int)) = false := by simp; omega
  go_enter Try.func4, Try.ntmps4
  go_wp2_with (go_at_call 8; refine hz.mono ?_; rintro e w' ⟨rfl, rfl⟩)
  refine (newTagReader_any w).mono ?_
  rintro e w1 ⟨rfl, T1, b1⟩
  go_wp2_with fail
  refine (hA0 _ _ _ _ _ _ _ T1 (by omega)).mono ?_
  rintro e w2 ⟨rfl, ks2, T2, k2, b2⟩
  go_wp2_with fail
  refine (hA3 _ _ _ _ _ _ _ T2 (by omega)).mono ?_
  rintro e w3 ⟨rfl, ks3, T3, k3, b3⟩
  go_wp2_with fail
  refine (hF0 _).mono ?_
  rintro e w4 ⟨v0, rfl, o0, b4⟩
  go_wp2_with fail
  refine (hF3 _).mono ?_
  rintro e w5 ⟨v3, rfl, o3, b5⟩
  have o0' := own_below o0 b5
  go_wp2_with fail
  refine (zzDistinct_any v0 v3 _ _ F0 F3 _ o0' o3 (by omega) (by omega)).mono ?_
  rintro e w6 ⟨vt, rfl, ot, b6⟩
  have q0 := own_below o0' b6
  have q3 := own_below o3 b6
  have T6 := ((T3.below b4).below b5).below b6
  have hB : Below w.heap.size w w6 := by
    have s1 := b1.size
    have s2 := b2.size
    have s3 := b3.size
    have s4 := b4.size
    have s5 := b5.size
    exact ((((b1.trans b2).trans b3).trans (b4.mono (by omega))).trans (b5.mono (by omega))).trans (b6.mono (by omega))
  have hk : ks3.length = (dist [] (F0 ++ F3)).length := by
    obtain ⟨es, cl, T, _⟩ := T6
    refine nodup_same T.nodup (dist_nodup _ _ List.nodup_nil) (fun x => ?_)
    rw [k3 x, k2 x, dist_mem]
    simp
  have hmem : ∀ x ∈ dist [] (F0 ++ F3), x.size ≤ maxLen := fun x hx => by
    unfold maxLen
    rcases (dist_mem _ _ _).1 hx with h | h
    · cases h
    · rcases List.mem_append.1 h with h | h
      · have := z0 x h; omega
      · have := z3 x h; omega
  have hdl := dist_length (F0 ++ F3) []
  simp only [List.length_nil, List.length_append] at hdl
  obtain ⟨D, hD⟩ : ∃ D, D = dist [] (F0 ++ F3) := ⟨_, rfl⟩
  rw [← hD] at ot hk hmem hdl
  have hC := tagCount_any _ _ _ _ _ _ w6 T6
  rw [hk] at hC
  obtain ⟨td, tc, rfl, htd⟩ := own_shape ot
  clear hA0 hA3 hF0 hF3 T1 T2 T3 o0 o3 o0' k2 k3 b1 b2 b3 b4 b5 b6 hz hD hk
  go_wp2_with fail
  refine hC.mono ?_
  rintro e w' ⟨rfl, rfl⟩
  clear hC
  go_wp2_with fail
  go_loopw [66] (fun i wr => ∃ k : Nat, i = .int .i64 k ∧ k ≤ D.length ∧ Below w6.heap.size w6 wr) (fun i _ => D.length - (intOf i).toNat)
  case atStart => exact ⟨0, rfl, Nat.zero_le _, Below.refl _ _⟩
  case round =>
    obtain ⟨k, rfl, hk, hnx⟩ := hrel
    have hBr : Below w.heap.size w wr := hB.trans (hnx.mono hB.size)
    by_cases hlt : k < D.length
    · obtain ⟨g, rfl, hg⟩ := htd (by omega)
      have hc : wr.cell? ⟨g, k, none⟩ = some (.string D[k]) := (hnx.cell (p := ⟨g, k, none⟩) hg).trans ((ot.cellAt k (by omega)).trans (by simp [hlt]))
      have hts := hmem D[k] (List.getElem_mem hlt)
      obtain ⟨t, ht⟩ : ∃ t, t = D[k] := ⟨_, rfl⟩
      rw [← ht] at hc hts
      have hR := tagRanges_any _ _ _ _ _ _ t wr (T6.below hnx) hts (by omega)
      have c0 := cnt_le F0 t
      have c3 := cnt_le F3 t
      have r0 := own_below q0 hnx
      have r3 := own_below q3 hnx
      obtain ⟨ZS, hZS⟩ : ∃ ZS, ZS = filed (filed (fun _ => []) F0 (a1, a2)) F3 (a4, a5) t := ⟨_, rfl⟩
      rw [← hZS] at hR
      have hZl : ZS.length = cnt F0 t + cnt F3 t := by rw [hZS, filed2]; simp
      have hZat : ∀ i, i < cnt F0 t + cnt F3 t → ZS[i]? = some (if i < cnt F0 t then (a1, a2) else (a4, a5)) := fun i hi => by rw [hZS, filed2]; exact rep_at _ _ _ _ i hi
      have C0 := fun W (o : Below wr.heap.size wr W) => zzCount_any v0 _ F0 t W (own_below r0 o) (by omega)
      have C3 := fun W (o : Below wr.heap.size wr W) => zzCount_any v3 _ F3 t W (own_below r3 o) (by omega)
      rw [hZl] at hR
      obtain ⟨n0, hn0⟩ : ∃ n0, n0 = cnt F0 t := ⟨_, rfl⟩
      obtain ⟨n3, hn3⟩ : ∃ n3, n3 = cnt F3 t := ⟨_, rfl⟩
      rw [← hn0, ← hn3] at hR hZat hZl
      rw [← hn0] at c0 C0
      rw [← hn3] at c3 C3
      have HZl : Hid (ZS.length = n0 + n3) := hZl
      clear hZS ht T6 q0 q3 ot hmem hn0 hn3 r0 r3 htd hZl
      go_wp2_with fail
      refine hR.mono ?_
      rintro e w7 ⟨A, rfl, oA, b7⟩
      clear hR
      have C0' := C0 w7 b7
      have C3' := C3 w7 b7
      clear C0 C3
      go_wp2_with fail
      refine C0'.mono ?_
      rintro e w' ⟨rfl, rfl⟩
      go_wp2_with fail
      refine C3'.mono ?_
      rintro e w' ⟨rfl, rfl⟩
      clear C0' C3'
      go_wp2_with fail
      go_loop [22] (fun i => ∃ j : Nat, i = .int .i64 j ∧ j ≤ n0 + n3) (fun i => n0 + n3 - (intOf i).toNat)
      case atStart => exact ⟨0, rfl, Nat.zero_le _⟩
      case round =>
        obtain ⟨j, rfl, hj⟩ := hrel
        by_cases hjl : j < n0 + n3
        · have hz := hZat j hjl
          have p1 := (oA.cellAt (j * 2) (by omega)).trans (prs_at ZS j _ hz).1
          have p2 := (oA.cellAt (j * 2 + 1) (by omega)).trans (prs_at ZS j _ hz).2
          clear hZat oA hz HZl
          by_cases hj0 : j < n0
          · rw [if_pos hj0] at p1 p2
            go_wp2
            go_round
            case rel => exact ⟨j + 1, by go_num, by omega⟩
            case measure => simp [intOf]; omega
          · rw [if_neg hj0] at p1 p2
            go_wp2
            go_round
            case rel => exact ⟨j + 1, by go_num, by omega⟩
            case measure => simp [intOf]; omega
        · clear hZat oA HZl
          go_wp2
          go_roundw
          case rel => exact ⟨k + 1, by go_num, by omega, hnx.trans (b7.mono hnx.size)⟩
          case measure => simp [intOf]; omega
    · go_wp2
      go_ret
      exact ⟨rfl, hBr⟩
end Go.Proofs.Qxb6609203a
