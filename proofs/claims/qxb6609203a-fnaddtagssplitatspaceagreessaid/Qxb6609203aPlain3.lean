/-
  THE PLAIN LAYER, ITS THIRD PART: the fields of 'a newline b' are those of a and those of b.
-/
import Derived.Test.Qxb6609203aPlain2
set_option linter.unusedVariables false
set_option linter.unusedSimpArgs false
namespace Go.Proofs.Qxb6609203a
open Go.Lib

/-- The fields of a list of bytes, 'cur' being what is open. -/
def fl (cur : List UInt8) : List UInt8 → List (List UInt8)
  | [] => if cur = [] then [] else [cur]
  | c :: t => if pSp c.toNat then (if cur = [] then fl [] t else cur :: fl [] t) else fl (cur ++ [c]) t

theorem fl_split : ∀ (a cur b : List UInt8), fl cur (a ++ 10 :: b) = fl cur a ++ fl [] b
  | [], cur, b => by
    have h : pSp (10 : UInt8).toNat = true := by decide
    simp only [List.nil_append, fl, h, if_true]
    split <;> simp
  | c :: t, cur, b => by
    simp only [List.cons_append, fl]
    split
    · split
      · exact fl_split t [] b
      · rw [fl_split t [] b]; rfl
    · exact fl_split t (cur ++ [c]) b

def mkB (l : List UInt8) : ByteArray := ⟨l.toArray⟩
theorem mkB_of (s : ByteArray) (l : List UInt8) (h : s.data.toList = l) : mkB l = s := by
  apply ba_ext; simp [mkB, h]

/-- What is open at pos. -/
def curOf (s : ByteArray) (pos : Nat) : Option Nat → List UInt8
  | none => []
  | some a => (s.data.toList.drop a).take (pos - a)

theorem cur_snoc (s : ByteArray) (pos : Nat) (h : pos < s.data.toList.length) : ∀ (st : Option Nat), (∀ a, st = some a → a < pos) →
    curOf s (pos + 1) (match st with | some a => some a | none => some pos) = curOf s pos st ++ [s.data.toList[pos]]
  | none, _ => by
    simp only [curOf, List.nil_append]
    rw [show pos + 1 - pos = 1 by omega, List.drop_eq_getElem_cons h]
    rfl
  | some a, ha => by
    have := ha a rfl
    simp only [curOf]
    rw [show pos + 1 - a = (pos - a) + 1 by omega, List.take_succ_eq_append_getElem (by rw [List.length_drop]; omega)]
    congr 2
    rw [List.getElem_drop]
    congr 1
    omega

theorem spans_fl (s : ByteArray) : ∀ (n pos : Nat) (st : Option Nat) (acc : List (Nat × Nat)), s.size - pos = n → pos ≤ s.size → (∀ a, st = some a → a < pos) →
    (closeSpans s (bspans s n pos st acc)).map (fun x => s.extract x.1 x.2) = acc.map (fun x => s.extract x.1 x.2) ++ (fl (curOf s pos st) (s.data.toList.drop pos)).map mkB
  | 0, pos, st, acc, hn, hp, hst => by
    have hpos : pos = s.size := by omega
    subst hpos
    have hsz := size_eq s
    rw [List.drop_of_length_le (by omega)]
    cases st with
    | none => simp [bspans, closeSpans, fl, curOf]
    | some a =>
      have ha := hst a rfl
      have hne : curOf s s.size (some a) ≠ [] := fun e => by
        have := congrArg List.length e
        simp only [curOf, List.length_take, List.length_drop, List.length_nil] at this
        omega
      have hx := mkB_of (s.extract a s.size) (curOf s s.size (some a)) (by rw [extract_data]; rfl)
      simp only [bspans, closeSpans, fl, if_neg hne, List.map_append, List.map_cons, List.map_nil, hx]
  | n + 1, pos, st, acc, hn, hp, hst => by
    have hlt : pos < s.size := by omega
    have hsz := size_eq s
    have hl : pos < s.data.toList.length := by omega
    have hg : s.get! pos = s.data.toList[pos] := by
      simp [ByteArray.get!]
      exact getElem!_pos s.data pos (by simpa using hl)
    rw [bspans_succ, if_pos hlt, List.drop_eq_getElem_cons hl, hg]
    rw [fl]
    by_cases hsp : pSp (s.data.toList[pos]).toNat = true
    · rw [if_pos hsp, if_pos hsp, spans_fl s n (pos + 1) none _ (by omega) (by omega) (fun a h => by cases h)]
      cases st with
      | none => rfl
      | some a =>
        have ha := hst a rfl
        have hne : curOf s pos (some a) ≠ [] := fun e => by
          have := congrArg List.length e
          simp only [curOf, List.length_take, List.length_drop, List.length_nil] at this
          omega
        have hx := mkB_of (s.extract a pos) (curOf s pos (some a)) (by rw [extract_data]; rfl)
        simp only [if_neg hne, List.map_append, List.map_cons, List.map_nil, hx, List.append_assoc]
        rfl
    · rw [if_neg hsp, if_neg hsp, spans_fl s n (pos + 1) _ acc (by omega) (by omega) (fun a h => by cases st <;> simp at h <;> first | omega | (have := hst _ rfl; omega))]
      have hc := cur_snoc s pos hl st hst
      cases st <;> (simp only at hc ⊢; rw [hc])

theorem fieldsB_fl (s : ByteArray) : fieldsB s = (fl [] s.data.toList).map mkB := by
  unfold fieldsB
  rw [spans_fl s s.size 0 none [] (by omega) (by omega) (fun a h => by cases h)]
  simp [curOf]

theorem fieldsB_split (a b : ByteArray) : fieldsB (a ++ ⟨#[10]⟩ ++ b) = fieldsB a ++ fieldsB b := by
  rw [fieldsB_fl, fieldsB_fl, fieldsB_fl]
  have e : (a ++ ⟨#[10]⟩ ++ b).data.toList = a.data.toList ++ 10 :: b.data.toList := by simp [ByteArray.data_append]
  rw [e, fl_split, List.map_append]

end Go.Proofs.Qxb6609203a
