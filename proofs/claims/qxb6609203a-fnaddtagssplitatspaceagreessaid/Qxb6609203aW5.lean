/-
  THE WALK of strings.IndexRune (24) at the constant string of the four XML white-space bytes and a rune beyond ASCII: its default road; then ContainsRune (23), the closure of xmlFields (22).
-/
import Derived.Test.Qxb6609203aW4
import Derived.Test.Qxb6609203aShelf
import Derived.BigQuiet
import Derived.Deep.DeepMust
import Derived.Deep.QuietTactic
import Derived.Deep.RegionWith
set_option linter.unusedVariables false
set_option linter.unusedSimpArgs false
namespace Go.Proofs.Qxb6609203a
open Go.RowKit

theorem encode_form (x : Nat) (h1 : 128 ≤ x) (h2 : x ≤ 1114111) (h3 : x < 55296 ∨ 57343 < x) :
    (∃ a c, Utf8.encode (x : Int) = ⟨#[a, c]⟩ ∧ 128 ≤ c.toNat) ∨ (∃ a b c, Utf8.encode (x : Int) = ⟨#[a, b, c]⟩ ∧ 128 ≤ c.toNat) ∨ (∃ a b b' c, Utf8.encode (x : Int) = ⟨#[a, b, b', c]⟩ ∧ 128 ≤ c.toNat) := by
  have hv : Utf8.valid (x : Int) = true := by
    simp [Utf8.valid]; omega
  have big : ∀ c : Nat, 128 ≤ (UInt8.ofNat (0x80 + c % 64)).toNat := fun c => by
    rw [UInt8.toNat_ofNat']; omega
  have e0 : ¬ x < 128 := by omega
  by_cases ha : x < 2048
  · exact .inl ⟨_, _, by simp [Utf8.encode, hv, e0, ha]; rfl, big x⟩
  · by_cases hb : x < 65536
    · exact .inr (.inl ⟨_, _, _, by simp [Utf8.encode, hv, e0, ha, hb]; exact ⟨rfl, rfl⟩, big x⟩)
    · exact .inr (.inr ⟨_, _, _, _, by simp [Utf8.encode, hv, e0, ha, hb]; exact ⟨rfl, rfl, rfl⟩, big x⟩)

theorem indexByte_none (c : UInt8) : ∀ l : List UInt8, (∀ b ∈ l, b ≠ c) → Lib.indexByte l c = -1
  | [], _ => rfl
  | b :: l, h => by
    have ih := indexByte_none c l (fun x hx => h x (by simp [hx]))
    have hb : (b == c) = false := beq_eq_false_iff_ne.2 (h b (by simp))
    unfold Lib.indexByte
    simp [hb, ih]

theorem idxNone (s : ByteArray) (c : UInt8) (w : World) (h : ∀ b ∈ s.data.toList, b.toNat < 128) (hc : 128 ≤ c.toNat) :
    Calls Try.prog 25 #[.string s, .int .u8 (c.toNat : Int)] w fun e w' => e = .returned (.int .i64 (-1)) ∧ w' = w := by
  refine (Try.strings_IndexByte s c.toNat w).mono ?_
  rintro e w' ⟨rfl, rfl⟩
  rw [Int.toNat_natCast, show c.toNat.toUInt8 = c from by simp, indexByte_none c _ (fun b hb e => by have := h b hb; rw [e] at this; omega)]
  exact ⟨rfl, rfl⟩

set_option maxRecDepth 1000000 in
set_option maxHeartbeats 1000000 in
theorem indexRune_2 (x : Nat) (w : World) (h1 : 128 ≤ x) (h2 : x ≤ 1114111) (h3 : x < 55296 ∨ 57343 < x) (h4 : x ≠ 65533) (a c : UInt8) (he : Utf8.encode (x : Int) = ⟨#[a, c]⟩) (hc : 128 ≤ c.toNat) :
    Calls Try.prog 24 #[.string ⟨#[32, 9, 13, 10]⟩, .int .i32 (x : Int)] w fun e w' => e = .returned (.int .i64 (-1)) ∧ Below w.heap.size w w' := by
  have e0 : ((x : Int) == 65533) = false := beq_eq_false_iff_ne.2 (by omega)
  have h1' : decide ((x : Int) < 128) = false := by simp; omega
  have hv := validRune_yes x w h2 h3
  have hne : ((((⟨#[32, 9, 13, 10]⟩ : ByteArray)[1]'(by show 1 < 4; omega)).toNat : Int) != (((⟨#[a, c]⟩ : ByteArray)[1]'(by show 1 < 2; omega)).toNat : Int)) = true := by
    have : ((9 : Int) != (c.toNat : Int)) = true := by rw [bne_iff_ne]; omega
    exact this
  have hw : IntKind.i64.wrap 2 = 2 := by decide
  have hsl : ∀ W, (Instr.slice 9 (.string ⟨#[32, 9, 13, 10]⟩) (some (.int .i64 2)) none none).run Try.prog W = .ok (.string ⟨#[13, 10]⟩) W := fun W => by kernel_rfl
  clear h3 h4
  go_enter Try.func24, Try.ntmps24
  go_wp2_with (first | (go_at_call 26; refine hv.mono ?_; rintro e w' ⟨rfl, rfl⟩))
  clear hv
  go_step3
  go_wp2_with fail
  refine wp_loop_rounds 1 ?_
  rw [rounds_succ]
  go_wp2_with fail
  go_step3
  go_wp2_with fail
  go_quiet (fail)
  go_wp2_with fail
  go_quiet ((go_at_call 25; go_must (exact (idxNone ⟨#[13, 10]⟩ c _ (by decide) hc).mono (fun _ _ h => ⟨h.1, _, h.2⟩))))
  go_wp2_with fail
  rw [Exit.noGoto_ret]
  go_wp2_with fail
  rw [Exit.noGoto_ret]
  go_wp2_with fail
  go_ret
  exact ⟨rfl, below_drewNg w _⟩


set_option maxRecDepth 1000000 in
set_option maxHeartbeats 1000000 in
theorem indexRune_3 (x : Nat) (w : World) (h1 : 128 ≤ x) (h2 : x ≤ 1114111) (h3 : x < 55296 ∨ 57343 < x) (h4 : x ≠ 65533) (a b c : UInt8) (he : Utf8.encode (x : Int) = ⟨#[a, b, c]⟩) (hc : 128 ≤ c.toNat) :
    Calls Try.prog 24 #[.string ⟨#[32, 9, 13, 10]⟩, .int .i32 (x : Int)] w fun e w' => e = .returned (.int .i64 (-1)) ∧ Below w.heap.size w w' := by
  have e0 : ((x : Int) == 65533) = false := beq_eq_false_iff_ne.2 (by omega)
  have h1' : decide ((x : Int) < 128) = false := by simp; omega
  have hv := validRune_yes x w h2 h3
  have hne : ((((⟨#[32, 9, 13, 10]⟩ : ByteArray)[2]'(by show 2 < 4; omega)).toNat : Int) != (((⟨#[a, b, c]⟩ : ByteArray)[2]'(by show 2 < 3; omega)).toNat : Int)) = true := by
    have : ((13 : Int) != (c.toNat : Int)) = true := by rw [bne_iff_ne]; omega
    exact this
  have hw : IntKind.i64.wrap 3 = 3 := by decide
  have hsl : ∀ W, (Instr.slice 9 (.string ⟨#[32, 9, 13, 10]⟩) (some (.int .i64 3)) none none).run Try.prog W = .ok (.string ⟨#[10]⟩) W := fun W => by kernel_rfl
  clear h3 h4
  go_enter Try.func24, Try.ntmps24
  go_wp2_with (first | (go_at_call 26; refine hv.mono ?_; rintro e w' ⟨rfl, rfl⟩))
  clear hv
  go_step3
  go_wp2_with fail
  refine wp_loop_rounds 1 ?_
  rw [rounds_succ]
  go_wp2_with fail
  go_step3
  go_wp2_with fail
  go_quiet (fail)
  go_wp2_with fail
  go_quiet ((go_at_call 25; go_must (exact (idxNone ⟨#[10]⟩ c _ (by decide) hc).mono (fun _ _ h => ⟨h.1, _, h.2⟩))))
  go_wp2_with fail
  rw [Exit.noGoto_ret]
  go_wp2_with fail
  rw [Exit.noGoto_ret]
  go_wp2_with fail
  go_ret
  exact ⟨rfl, below_drewNg w _⟩


set_option maxRecDepth 1000000 in
set_option maxHeartbeats 1000000 in
theorem indexRune_4 (x : Nat) (w : World) (h1 : 128 ≤ x) (h2 : x ≤ 1114111) (h3 : x < 55296 ∨ 57343 < x) (h4 : x ≠ 65533) (a b b' c : UInt8) (he : Utf8.encode (x : Int) = ⟨#[a, b, b', c]⟩) (hc : 128 ≤ c.toNat) :
    Calls Try.prog 24 #[.string ⟨#[32, 9, 13, 10]⟩, .int .i32 (x : Int)] w fun e w' => e = .returned (.int .i64 (-1)) ∧ Below w.heap.size w w' := by
  have e0 : ((x : Int) == 65533) = false := beq_eq_false_iff_ne.2 (by omega)
  have h1' : decide ((x : Int) < 128) = false := by simp; omega
  have hv := validRune_yes x w h2 h3
  have hne : ((((⟨#[32, 9, 13, 10]⟩ : ByteArray)[3]'(by show 3 < 4; omega)).toNat : Int) != (((⟨#[a, b, b', c]⟩ : ByteArray)[3]'(by show 3 < 4; omega)).toNat : Int)) = true := by
    have : ((10 : Int) != (c.toNat : Int)) = true := by rw [bne_iff_ne]; omega
    exact this
  have hw : IntKind.i64.wrap 4 = 4 := by decide
  have hsl : ∀ W, (Instr.slice 9 (.string ⟨#[32, 9, 13, 10]⟩) (some (.int .i64 4)) none none).run Try.prog W = .ok (.string ⟨#[]⟩) W := fun W => by kernel_rfl
  clear h3 h4
  go_enter Try.func24, Try.ntmps24
  go_wp2_with (first | (go_at_call 26; refine hv.mono ?_; rintro e w' ⟨rfl, rfl⟩))
  clear hv
  go_step3
  go_wp2_with fail
  refine wp_loop_rounds 1 ?_
  rw [rounds_succ]
  go_wp2_with fail
  go_step3
  go_wp2_with fail
  go_quiet (fail)
  go_wp2_with fail
  go_quiet ((go_at_call 25; go_must (exact (idxNone ⟨#[]⟩ c _ (by decide) hc).mono (fun _ _ h => ⟨h.1, _, h.2⟩))))
  go_wp2_with fail
  rw [Exit.noGoto_ret]
  go_wp2_with fail
  rw [Exit.noGoto_ret]
  go_wp2_with fail
  go_ret
  exact ⟨rfl, below_drewNg w _⟩


/-- strings.IndexRune at the four bytes and a rune beyond ASCII: -1. -/
theorem indexRune_high (x : Nat) (w : World) (h1 : 128 ≤ x) (h2 : x ≤ 1114111) :
    Calls Try.prog 24 #[.string ⟨#[32, 9, 13, 10]⟩, .int .i32 (x : Int)] w fun e w' => e = .returned (.int .i64 (-1)) ∧ Below w.heap.size w w' := by
  by_cases h4 : x = 65533
  · subst h4
    exact indexRune_err w
  · by_cases hs : x < 55296 ∨ 57343 < x
    · rcases encode_form x h1 h2 hs with ⟨a, c, he, hc⟩ | ⟨a, b, c, he, hc⟩ | ⟨a, b, b', c, he, hc⟩
      · exact indexRune_2 x w h1 h2 hs h4 a c he hc
      · exact indexRune_3 x w h1 h2 hs h4 a b c he hc
      · exact indexRune_4 x w h1 h2 hs h4 a b b' c he hc
    · refine (indexRune_bad x w (by omega) (by omega)).mono ?_
      rintro e w' ⟨rfl, rfl⟩
      exact ⟨rfl, Below.refl _ _⟩

theorem ascii_sp : ∀ x : Nat, x < 128 → decide (0 ≤ Lib.indexByte [32, 9, 13, 10] x.toUInt8) = pSp x := by decide

set_option maxHeartbeats 400000 in
theorem containsRune_any (x : Nat) (w : World) (h2 : x ≤ 1114111) :
    Calls Try.prog 23 #[.string ⟨#[32, 9, 13, 10]⟩, .int .i32 (x : Int)] w fun e w' => e = .returned (.bool (pSp x)) ∧ Below w.heap.size w w' := by
  by_cases h1 : x < 128
  · refine (Try.strings_ContainsRune_ascii ⟨#[32, 9, 13, 10]⟩ (x : Int) w (by omega) (by omega)).mono ?_
    rintro e w' ⟨rfl, rfl⟩
    rw [Int.toNat_natCast, ← ascii_sp x h1]
    exact ⟨rfl, Below.refl _ _⟩
  · rw [pSp_big x (by omega)]
    have hi := indexRune_high x w (by omega) h2
    go_enter Try.func23, Try.ntmps23
    go_wp2_with (go_at_call 24; refine hi.mono ?_; rintro e w' ⟨rfl, hb⟩)
    go_ret
    exact ⟨rfl, hb⟩

set_option maxHeartbeats 400000 in
theorem xmlPred (w : World) : PredGrows Try.prog 22 #[] pSp w := fun W x hx hb => by
  have hc := containsRune_any x W hx
  show Calls Try.prog 22 #[.int .i32 (x : Int)] W _
  go_enter Try.func22, Try.ntmps22
  go_wp2_with (go_at_call 23; refine hc.mono ?_; rintro e w' ⟨rfl, hb⟩)
  go_ret
  exact ⟨rfl, hb⟩

set_option maxHeartbeats 400000 in
theorem xmlFields_any (s : ByteArray) (w : World) (hs : s.size ≤ 4294967296) :
    Calls Try.prog 20 #[.string s] w fun e w' => ∃ A, e = .returned (.slice (some ⟨A, 0, none⟩) (fieldsB s).length (fieldsB s).length) ∧ w.heap.size ≤ A ∧
      w'.ownsRow w.heap.size 9 1 (.slice (some ⟨A, 0, none⟩) (fieldsB s).length (fieldsB s).length) (fieldsB s).length ((fieldsB s).map Value.string) ∧ Below w.heap.size w w' := by
  have hf := Try.strings_FieldsFunc_grows 22 #[] (enters_of Try.func22 (by kernel_rfl) rfl) pSp s w hs (xmlPred w)
  rw [goFields_eq] at hf
  go_enter Try.func20, Try.ntmps20
  go_wp2_with (go_at_call 21; refine hf.mono ?_; rintro e w' ⟨A, rfl, hA, hown, hb⟩)
  go_ret
  exact ⟨A, rfl, hA, hown, hb⟩
end Go.Proofs.Qxb6609203a
