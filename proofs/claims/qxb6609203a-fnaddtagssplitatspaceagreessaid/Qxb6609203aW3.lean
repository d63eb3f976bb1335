/-
  THE WALK of zzDistinct (12).
-/
import Derived.Test.Qxb6609203aW2
set_option linter.unusedVariables false
set_option linter.unusedSimpArgs false
namespace Go.Proofs.Qxb6609203a
open Go.RowKit

theorem own_shape {w : World} {B e n : Nat} {v : Value} {xs : List Value} {size : Nat} (h : w.ownsRow B e size v n xs) : ∃ ao cap, v = .slice ao n cap ∧ (0 < n → ∃ g, ao = some ⟨g, 0, none⟩ ∧ g < w.heap.size) := by
  rcases h.2 with ⟨rfl, rfl⟩ | ⟨g, cap, cur, rfl, _, hg, _⟩
  · exact ⟨none, 0, rfl, fun h => by omega⟩
  · exact ⟨_, cap, rfl, fun _ => ⟨g, rfl, (Array.getElem?_eq_some_iff.1 hg).1⟩⟩

theorem dist_take (xs : List ByteArray) (k : Nat) (h : k < xs.length) : dist [] (xs.take (k + 1)) = if cnt (dist [] (xs.take k)) xs[k] = 0 then dist [] (xs.take k) ++ [xs[k]] else dist [] (xs.take k) := by
  rw [List.take_succ_eq_append_getElem h, dist_snoc]

set_option maxRecDepth 100000 in
set_option maxHeartbeats 1000000 in
theorem zzDistinct_any (va vb : Value) (Ba Bb : Nat) (fa fb : List ByteArray) (w : World) (ha : w.ownsRow Ba 9 1 va fa.length (fa.map Value.string)) (hb : w.ownsRow Bb 9 1 vb fb.length (fb.map Value.string))
    (la : fa.length ≤ 10000) (lb : fb.length ≤ 10000) :
    Calls Try.prog 12 #[va, vb] w fun e w' => ∃ v, e = .returned v ∧ w'.ownsRow w.heap.size 9 1 v (dist [] (fa ++ fb)).length ((dist [] (fa ++ fb)).map Value.string) ∧ Below w.heap.size w w' := by
  obtain ⟨i0, hi, hz0, hz1, hz2⟩ := info_parts info9
  obtain ⟨ao, ca, rfl, hao⟩ := own_shape ha
  obtain ⟨bo, cb, rfl, hbo⟩ := own_shape hb
  go_enter Try.func12, Try.ntmps12
  go_wp2
  go_loopw [5, 6] (fun o i wr => ∃ (k : Nat), i = .int .i64 k ∧ k ≤ fa.length + fb.length ∧
      wr.ownsRow w.heap.size 9 1 o (dist [] ((fa ++ fb).take k)).length ((dist [] ((fa ++ fb).take k)).map Value.string) ∧ Below w.heap.size w wr) (fun _ i _ => fa.length + fb.length - (intOf i).toNat)
  case atStart => exact ⟨0, rfl, Nat.zero_le _, World.ownsRow_nil _ _ _ _, Below.refl _ _⟩
  case round =>
    obtain ⟨k, rfl, hk, hown, hnx⟩ := hrel
    have hsz := hnx.size
    by_cases hlt : k < fa.length + fb.length
    · have hD := dist_take (fa ++ fb) k (by simpa using hlt)
      obtain ⟨D, hDD⟩ : ∃ D, D = dist [] ((fa ++ fb).take k) := ⟨_, rfl⟩
      have hDl : D.length ≤ k := by
        rw [hDD]
        have := dist_length ((fa ++ fb).take k) []
        have h2 := List.length_take_le k (fa ++ fb)
        simp only [List.length_nil] at this
        omega
      rw [← hDD] at hown hD
      obtain ⟨x, hx⟩ : ∃ x, x = (fa ++ fb)[k]'(by simpa using hlt) := ⟨_, rfl⟩
      rw [← hx] at hD
      have HD : Hid (dist [] ((fa ++ fb).take (k + 1)) = if cnt D x = 0 then D ++ [x] else D) := hD
      clear hD hDD
      by_cases hka : k < fa.length
      · obtain ⟨g, rfl, hg⟩ := hao (by omega)
        have hc : wr.cell? ⟨g, k, none⟩ = some (.string x) := (hnx.cell (p := ⟨g, k, none⟩) hg).trans ((ha.cellAt k (by omega)).trans (by rw [hx]; simp [hka, List.getElem_append_left]))
        clear hx ha hb hbo hao
        cases hcn : ((cnt D x : Int) == 0)
        · have hc0 : ¬ cnt D x = 0 := by simpa using hcn
          go_wp2_with (go_at_call 15; refine (zzCount_any _ _ D x _ (by exact hown) (by omega)).mono ?_; rintro e w' ⟨rfl, rfl⟩)
          go_roundw
          case rel => exact ⟨k + 1, by go_num, by omega, by rw [HD.out, if_neg hc0]; exact hown, hnx⟩
          case measure => simp [intOf]; omega
        · have hc0 : cnt D x = 0 := by simpa using hcn
          go_wp2_with (first
            | (go_at_call 15; refine (zzCount_any _ _ D x _ (by exact hown) (by omega)).mono ?_; rintro e w' ⟨rfl, rfl⟩)
            | (at_builtin; refine wpList_append_own _ rfl _ _ 30 rfl w.heap.size 9 i0 (.string ⟨#[]⟩) 1 16 Try.underlying30 hi hz0 hz1 hz2 rfl (by decide) _ _ _ rfl (hown.alloc _) ⟨wr.heap.size, 0, none⟩ 1 1 [.string x] rfl rfl (cell_one_new _ _ _) (by simp [Value.oneCell']) (by unfold maxLen; omega) (by omega) (by simp; omega) ?_; intro v3 w3 hown3 hgrow3 hnil3))
          go_roundw
          case rel =>
            have hX := hown.alloc (.cells #[.string x] 9)
            exact ⟨k + 1, by go_num, by omega, by rw [HD.out, if_pos hc0, List.length_append, List.map_append]; exact hown3, (hnx.alloc hnx.size _).grown hgrow3 (by simp; omega) (fun j hj => (hX.lt j hj).1)⟩
          case measure => simp [intOf]; omega
      · obtain ⟨g, rfl, hg⟩ := hbo (by omega)
        obtain ⟨j, hj⟩ : ∃ j, j = k - fa.length := ⟨_, rfl⟩
        have hjk : k = fa.length + j := by omega
        have hc : wr.cell? ⟨g, j, none⟩ = some (.string x) := (hnx.cell (p := ⟨g, j, none⟩) hg).trans ((hb.cellAt j (by omega)).trans (by rw [hx]; rw [List.getElem_append_right (by omega)]; simp [hj]))
        have hjt : ((k : Int) - (fa.length : Int)).toNat = j := by omega
        clear hx ha hb hbo hao hj hjk
        cases hcn : ((cnt D x : Int) == 0)
        · have hc0 : ¬ cnt D x = 0 := by simpa using hcn
          go_wp2_with (go_at_call 15; refine (zzCount_any _ _ D x _ (by exact hown) (by omega)).mono ?_; rintro e w' ⟨rfl, rfl⟩)
          go_roundw
          case rel => exact ⟨k + 1, by go_num, by omega, by rw [HD.out, if_neg hc0]; exact hown, hnx⟩
          case measure => simp [intOf]; omega
        · have hc0 : cnt D x = 0 := by simpa using hcn
          go_wp2_with (first
            | (go_at_call 15; refine (zzCount_any _ _ D x _ (by exact hown) (by omega)).mono ?_; rintro e w' ⟨rfl, rfl⟩)
            | (at_builtin; refine wpList_append_own _ rfl _ _ 30 rfl w.heap.size 9 i0 (.string ⟨#[]⟩) 1 16 Try.underlying30 hi hz0 hz1 hz2 rfl (by decide) _ _ _ rfl (hown.alloc _) ⟨wr.heap.size, 0, none⟩ 1 1 [.string x] rfl rfl (cell_one_new _ _ _) (by simp [Value.oneCell']) (by unfold maxLen; omega) (by omega) (by simp; omega) ?_; intro v3 w3 hown3 hgrow3 hnil3))
          go_roundw
          case rel =>
            have hX := hown.alloc (.cells #[.string x] 9)
            exact ⟨k + 1, by go_num, by omega, by rw [HD.out, if_pos hc0, List.length_append, List.map_append]; exact hown3, (hnx.alloc hnx.size _).grown hgrow3 (by simp; omega) (fun j hj => (hX.lt j hj).1)⟩
          case measure => simp [intOf]; omega
    · obtain rfl : k = fa.length + fb.length := by omega
      rw [List.take_of_length_le (by simp)] at hown
      go_wp2
      go_ret
      exact ⟨_, rfl, hown, hnx⟩
end Go.Proofs.Qxb6609203a
