/- The plain law of an extension's text: its fields. -/
import Derived.Lib.FieldsLaws
namespace Go.Proofs.YtimonhimfioohaaGreatDoor
open Go.Lib

theorem go_word : ∀ (a cur l : List UInt8), (∀ b ∈ a, isSp b = false) → a ++ cur ≠ [] → fieldsGo cur (a ++ 32 :: l) = (cur ++ a) :: fieldsGo [] l
  | [], cur, l, _, hne => by
    have : cur.isEmpty = false := by cases cur <;> simp_all
    simp [fieldsGo, this, show isSp 32 = true from by decide]
  | b :: a, cur, l, ha, _ => by
    have hb := ha b List.mem_cons_self
    have := go_word a (cur ++ [b]) l (fun x hx => ha x (List.mem_cons_of_mem _ hx)) (by simp)
    simp only [List.cons_append, fieldsGo, hb, Bool.false_eq_true, if_false]
    rw [this]
    simp
theorem go_last : ∀ (a cur : List UInt8), (∀ b ∈ a, isSp b = false) → a ++ cur ≠ [] → fieldsGo cur a = [cur ++ a]
  | [], cur, _, hne => by
    have : cur.isEmpty = false := by cases cur <;> simp_all
    simp [fieldsGo, this]
  | b :: a, cur, ha, _ => by
    have hb := ha b List.mem_cons_self
    have := go_last a (cur ++ [b]) (fun x hx => ha x (List.mem_cons_of_mem _ hx)) (by simp)
    simp only [fieldsGo, hb, Bool.false_eq_true, if_false]
    rw [this]
    simp
theorem fields_two {a b : List UInt8} (ha : ∀ x ∈ a, isSp x = false) (hb : ∀ x ∈ b, isSp x = false) (ha0 : a ≠ []) (hb0 : b ≠ []) : fields (a ++ 32 :: b) = [a, b] := by
  unfold fields
  rw [go_word a [] b ha (by simpa using ha0), go_last b [] hb (by simpa using hb0)]
  rfl
theorem fields_three {a b c : List UInt8} (ha : ∀ x ∈ a, isSp x = false) (hb : ∀ x ∈ b, isSp x = false) (hc : ∀ x ∈ c, isSp x = false) (ha0 : a ≠ []) (hb0 : b ≠ []) (hc0 : c ≠ []) : fields (a ++ 32 :: (b ++ 32 :: c)) = [a, b, c] := by
  unfold fields
  rw [go_word a [] _ ha (by simpa using ha0), go_word b [] _ hb (by simpa using hb0), go_last c [] hc (by simpa using hc0)]
  rfl

end Go.Proofs.YtimonhimfioohaaGreatDoor
