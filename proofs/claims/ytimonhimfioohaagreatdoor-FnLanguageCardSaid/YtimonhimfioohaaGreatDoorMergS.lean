/- The state functions of the parse, all together: at a letter, and at the end. -/
import Derived.Test.YtimonhimfioohaaGreatDoorStageB
import Derived.Test.YtimonhimfioohaaGreatDoorStageC
import Derived.Test.YtimonhimfioohaaGreatDoorLangLaw

namespace Go.Proofs.YtimonhimfioohaaGreatDoor
open Go.RowKit

/-- The function of a state. -/
def stN (q : Nat) : Nat := [0, 86, 152, 194, 202, 216, 213, 211, 214, 217, 212, 230, 233, 229, 243, 244, 245].getD q 0
/-- The handler of a line, ahead of the first medium and behind it. -/
def hdS (c : UInt8) : Nat := if c == 118 then 129 else if c == 111 then 178 else if c == 115 then 200 else if c == 105 then 204 else if c == 117 then 205 else if c == 101 then 206 else if c == 112 then 207 else if c == 99 then 208 else if c == 98 then 209 else if c == 116 then 210 else if c == 122 then 224 else if c == 107 then 225 else if c == 97 then 226 else if c == 114 then 227 else if c == 109 then 228 else 0
def hdM (c : UInt8) : Nat := if c == 97 then 237 else if c == 107 then 238 else if c == 98 then 239 else if c == 99 then 240 else if c == 105 then 241 else if c == 109 then 228 else 0
def hdN (q : Nat) (c : UInt8) : Nat := if q < 12 || q == 13 then hdS c else hdM c

theorem cf86 (args : Array Value) (W : World) : (callFunc 86 args).run Tryz.prog W = .ok (.enter 86 args) W := by kernel_rfl
theorem cf129 (args : Array Value) (W : World) : (callFunc 129 args).run Tryz.prog W = .ok (.enter 129 args) W := by kernel_rfl
theorem cf152 (args : Array Value) (W : World) : (callFunc 152 args).run Tryz.prog W = .ok (.enter 152 args) W := by kernel_rfl
theorem cf178 (args : Array Value) (W : World) : (callFunc 178 args).run Tryz.prog W = .ok (.enter 178 args) W := by kernel_rfl
theorem cf194 (args : Array Value) (W : World) : (callFunc 194 args).run Tryz.prog W = .ok (.enter 194 args) W := by kernel_rfl
theorem cf200 (args : Array Value) (W : World) : (callFunc 200 args).run Tryz.prog W = .ok (.enter 200 args) W := by kernel_rfl
theorem cf202 (args : Array Value) (W : World) : (callFunc 202 args).run Tryz.prog W = .ok (.enter 202 args) W := by kernel_rfl
theorem cf204 (args : Array Value) (W : World) : (callFunc 204 args).run Tryz.prog W = .ok (.enter 204 args) W := by kernel_rfl
theorem cf205 (args : Array Value) (W : World) : (callFunc 205 args).run Tryz.prog W = .ok (.enter 205 args) W := by kernel_rfl
theorem cf206 (args : Array Value) (W : World) : (callFunc 206 args).run Tryz.prog W = .ok (.enter 206 args) W := by kernel_rfl
theorem cf207 (args : Array Value) (W : World) : (callFunc 207 args).run Tryz.prog W = .ok (.enter 207 args) W := by kernel_rfl
theorem cf208 (args : Array Value) (W : World) : (callFunc 208 args).run Tryz.prog W = .ok (.enter 208 args) W := by kernel_rfl
theorem cf209 (args : Array Value) (W : World) : (callFunc 209 args).run Tryz.prog W = .ok (.enter 209 args) W := by kernel_rfl
theorem cf210 (args : Array Value) (W : World) : (callFunc 210 args).run Tryz.prog W = .ok (.enter 210 args) W := by kernel_rfl
theorem cf211 (args : Array Value) (W : World) : (callFunc 211 args).run Tryz.prog W = .ok (.enter 211 args) W := by kernel_rfl
theorem cf212 (args : Array Value) (W : World) : (callFunc 212 args).run Tryz.prog W = .ok (.enter 212 args) W := by kernel_rfl
theorem cf213 (args : Array Value) (W : World) : (callFunc 213 args).run Tryz.prog W = .ok (.enter 213 args) W := by kernel_rfl
theorem cf214 (args : Array Value) (W : World) : (callFunc 214 args).run Tryz.prog W = .ok (.enter 214 args) W := by kernel_rfl
theorem cf216 (args : Array Value) (W : World) : (callFunc 216 args).run Tryz.prog W = .ok (.enter 216 args) W := by kernel_rfl
theorem cf217 (args : Array Value) (W : World) : (callFunc 217 args).run Tryz.prog W = .ok (.enter 217 args) W := by kernel_rfl
theorem cf224 (args : Array Value) (W : World) : (callFunc 224 args).run Tryz.prog W = .ok (.enter 224 args) W := by kernel_rfl
theorem cf225 (args : Array Value) (W : World) : (callFunc 225 args).run Tryz.prog W = .ok (.enter 225 args) W := by kernel_rfl
theorem cf226 (args : Array Value) (W : World) : (callFunc 226 args).run Tryz.prog W = .ok (.enter 226 args) W := by kernel_rfl
theorem cf227 (args : Array Value) (W : World) : (callFunc 227 args).run Tryz.prog W = .ok (.enter 227 args) W := by kernel_rfl
theorem cf228 (args : Array Value) (W : World) : (callFunc 228 args).run Tryz.prog W = .ok (.enter 228 args) W := by kernel_rfl
theorem cf229 (args : Array Value) (W : World) : (callFunc 229 args).run Tryz.prog W = .ok (.enter 229 args) W := by kernel_rfl
theorem cf230 (args : Array Value) (W : World) : (callFunc 230 args).run Tryz.prog W = .ok (.enter 230 args) W := by kernel_rfl
theorem cf233 (args : Array Value) (W : World) : (callFunc 233 args).run Tryz.prog W = .ok (.enter 233 args) W := by kernel_rfl
theorem cf237 (args : Array Value) (W : World) : (callFunc 237 args).run Tryz.prog W = .ok (.enter 237 args) W := by kernel_rfl
theorem cf238 (args : Array Value) (W : World) : (callFunc 238 args).run Tryz.prog W = .ok (.enter 238 args) W := by kernel_rfl
theorem cf239 (args : Array Value) (W : World) : (callFunc 239 args).run Tryz.prog W = .ok (.enter 239 args) W := by kernel_rfl
theorem cf240 (args : Array Value) (W : World) : (callFunc 240 args).run Tryz.prog W = .ok (.enter 240 args) W := by kernel_rfl
theorem cf241 (args : Array Value) (W : World) : (callFunc 241 args).run Tryz.prog W = .ok (.enter 241 args) W := by kernel_rfl
theorem cf243 (args : Array Value) (W : World) : (callFunc 243 args).run Tryz.prog W = .ok (.enter 243 args) W := by kernel_rfl
theorem cf244 (args : Array Value) (W : World) : (callFunc 244 args).run Tryz.prog W = .ok (.enter 244 args) W := by kernel_rfl
theorem cf245 (args : Array Value) (W : World) : (callFunc 245 args).run Tryz.prog W = .ok (.enter 245 args) W := by kernel_rfl

theorem stN_calls {q : Nat} (h1 : 1 ≤ q) (h2 : q ≤ 16) (args : Array Value) (W : World) : (callFunc (stN q) args).run Tryz.prog W = .ok (.enter (stN q) args) W :=
  match q, h1, h2 with
  | 1, _, _ => cf86 args W
  | 2, _, _ => cf152 args W
  | 3, _, _ => cf194 args W
  | 4, _, _ => cf202 args W
  | 5, _, _ => cf216 args W
  | 6, _, _ => cf213 args W
  | 7, _, _ => cf211 args W
  | 8, _, _ => cf214 args W
  | 9, _, _ => cf217 args W
  | 10, _, _ => cf212 args W
  | 11, _, _ => cf230 args W
  | 12, _, _ => cf233 args W
  | 13, _, _ => cf229 args W
  | 14, _, _ => cf243 args W
  | 15, _, _ => cf244 args W
  | 16, _, _ => cf245 args W
  | n + 17, _, h2 => absurd h2 (by omega)

section
variable {ae : Addr} {S : Nat → Prop} {L D C : Nat} {s : ByteArray} {w0 : World} {cs : Array Value} {i : Nat} {w : World}
/-- What a state answers at a letter. -/
def StageR (ae : Addr) (S : Nat → Prop) (L D C : Nat) (s : ByteArray) (w0 : World) (cs : Array Value) (i q : Nat) (c : UInt8) (e : Ending) (w' : World) : Prop :=
  St ae S L D C s w0 cs (i + 2) w' ∧ ((∃ q', nextP q c = some q' ∧ (∀ (args : Array Value) (W : World), (callFunc (hdN q c) args).run Tryz.prog W = .ok (.enter (hdN q c) args) W) ∧ e = .returned (.tuple #[.func (.func (hdN q c)) #[] #[], .nilIface])) ∨ (nextP q c = none ∧ ∃ v, e = .returned (.tuple #[.nilFunc, .iface 304 v])))
theorem stage1 (h : St ae S L D C s w0 cs i w) {c : UInt8} {r : List UInt8} (hl : s.data.toList.drop i = c :: 61 :: r) (hn : isNl c = false) :
    Calls Tryz.prog 86 #[.pointer (some ⟨L, 0, none⟩)] w (StageR ae S L D C s w0 cs i 1 c) := by
  by_cases h0 : c = 118
  · subst h0
    exact (s1_v h hl).mono fun e w' ⟨he, hs⟩ => ⟨hs, .inl ⟨_, rfl, cf129, he⟩⟩
  exact (s1_no h hl hn h0).mono fun e w' ⟨v, he, hs⟩ => ⟨hs, .inr ⟨by simp [nextP, h0], v, he⟩⟩
theorem stage2 (h : St ae S L D C s w0 cs i w) {c : UInt8} {r : List UInt8} (hl : s.data.toList.drop i = c :: 61 :: r) (hn : isNl c = false) :
    Calls Tryz.prog 152 #[.pointer (some ⟨L, 0, none⟩)] w (StageR ae S L D C s w0 cs i 2 c) := by
  by_cases h0 : c = 111
  · subst h0
    exact (s2_o h hl).mono fun e w' ⟨he, hs⟩ => ⟨hs, .inl ⟨_, rfl, cf178, he⟩⟩
  exact (s2_no h hl hn h0).mono fun e w' ⟨v, he, hs⟩ => ⟨hs, .inr ⟨by simp [nextP, h0], v, he⟩⟩
theorem stage3 (h : St ae S L D C s w0 cs i w) {c : UInt8} {r : List UInt8} (hl : s.data.toList.drop i = c :: 61 :: r) (hn : isNl c = false) :
    Calls Tryz.prog 194 #[.pointer (some ⟨L, 0, none⟩)] w (StageR ae S L D C s w0 cs i 3 c) := by
  by_cases h0 : c = 115
  · subst h0
    exact (s3_s h hl).mono fun e w' ⟨he, hs⟩ => ⟨hs, .inl ⟨_, rfl, cf200, he⟩⟩
  exact (s3_no h hl hn h0).mono fun e w' ⟨v, he, hs⟩ => ⟨hs, .inr ⟨by simp [nextP, h0], v, he⟩⟩
theorem stage4 (h : St ae S L D C s w0 cs i w) {c : UInt8} {r : List UInt8} (hl : s.data.toList.drop i = c :: 61 :: r) (hn : isNl c = false) :
    Calls Tryz.prog 202 #[.pointer (some ⟨L, 0, none⟩)] w (StageR ae S L D C s w0 cs i 4 c) := by
  by_cases h0 : c = 105
  · subst h0
    exact (s4_i h hl).mono fun e w' ⟨he, hs⟩ => ⟨hs, .inl ⟨_, rfl, cf204, he⟩⟩
  by_cases h1 : c = 117
  · subst h1
    exact (s4_u h hl).mono fun e w' ⟨he, hs⟩ => ⟨hs, .inl ⟨_, rfl, cf205, he⟩⟩
  by_cases h2 : c = 101
  · subst h2
    exact (s4_e h hl).mono fun e w' ⟨he, hs⟩ => ⟨hs, .inl ⟨_, rfl, cf206, he⟩⟩
  by_cases h3 : c = 112
  · subst h3
    exact (s4_p h hl).mono fun e w' ⟨he, hs⟩ => ⟨hs, .inl ⟨_, rfl, cf207, he⟩⟩
  by_cases h4 : c = 99
  · subst h4
    exact (s4_c h hl).mono fun e w' ⟨he, hs⟩ => ⟨hs, .inl ⟨_, rfl, cf208, he⟩⟩
  by_cases h5 : c = 98
  · subst h5
    exact (s4_b h hl).mono fun e w' ⟨he, hs⟩ => ⟨hs, .inl ⟨_, rfl, cf209, he⟩⟩
  by_cases h6 : c = 116
  · subst h6
    exact (s4_t h hl).mono fun e w' ⟨he, hs⟩ => ⟨hs, .inl ⟨_, rfl, cf210, he⟩⟩
  exact (s4_no h hl hn h0 h1 h2 h3 h4 h5 h6).mono fun e w' ⟨v, he, hs⟩ => ⟨hs, .inr ⟨by simp [nextP, h0, h1, h2, h3, h4, h5, h6], v, he⟩⟩
theorem stage5 (h : St ae S L D C s w0 cs i w) {c : UInt8} {r : List UInt8} (hl : s.data.toList.drop i = c :: 61 :: r) (hn : isNl c = false) :
    Calls Tryz.prog 216 #[.pointer (some ⟨L, 0, none⟩)] w (StageR ae S L D C s w0 cs i 5 c) := by
  by_cases h0 : c = 98
  · subst h0
    exact (s5_b h hl).mono fun e w' ⟨he, hs⟩ => ⟨hs, .inl ⟨_, rfl, cf209, he⟩⟩
  by_cases h1 : c = 116
  · subst h1
    exact (s5_t h hl).mono fun e w' ⟨he, hs⟩ => ⟨hs, .inl ⟨_, rfl, cf210, he⟩⟩
  exact (s5_no h hl hn h0 h1).mono fun e w' ⟨v, he, hs⟩ => ⟨hs, .inr ⟨by simp [nextP, h0, h1], v, he⟩⟩
theorem stage6 (h : St ae S L D C s w0 cs i w) {c : UInt8} {r : List UInt8} (hl : s.data.toList.drop i = c :: 61 :: r) (hn : isNl c = false) :
    Calls Tryz.prog 213 #[.pointer (some ⟨L, 0, none⟩)] w (StageR ae S L D C s w0 cs i 6 c) := by
  by_cases h0 : c = 112
  · subst h0
    exact (s6_p h hl).mono fun e w' ⟨he, hs⟩ => ⟨hs, .inl ⟨_, rfl, cf207, he⟩⟩
  by_cases h1 : c = 99
  · subst h1
    exact (s6_c h hl).mono fun e w' ⟨he, hs⟩ => ⟨hs, .inl ⟨_, rfl, cf208, he⟩⟩
  by_cases h2 : c = 98
  · subst h2
    exact (s6_b h hl).mono fun e w' ⟨he, hs⟩ => ⟨hs, .inl ⟨_, rfl, cf209, he⟩⟩
  by_cases h3 : c = 116
  · subst h3
    exact (s6_t h hl).mono fun e w' ⟨he, hs⟩ => ⟨hs, .inl ⟨_, rfl, cf210, he⟩⟩
  exact (s6_no h hl hn h0 h1 h2 h3).mono fun e w' ⟨v, he, hs⟩ => ⟨hs, .inr ⟨by simp [nextP, h0, h1, h2, h3], v, he⟩⟩
theorem stage7 (h : St ae S L D C s w0 cs i w) {c : UInt8} {r : List UInt8} (hl : s.data.toList.drop i = c :: 61 :: r) (hn : isNl c = false) :
    Calls Tryz.prog 211 #[.pointer (some ⟨L, 0, none⟩)] w (StageR ae S L D C s w0 cs i 7 c) := by
  by_cases h0 : c = 117
  · subst h0
    exact (s7_u h hl).mono fun e w' ⟨he, hs⟩ => ⟨hs, .inl ⟨_, rfl, cf205, he⟩⟩
  by_cases h1 : c = 101
  · subst h1
    exact (s7_e h hl).mono fun e w' ⟨he, hs⟩ => ⟨hs, .inl ⟨_, rfl, cf206, he⟩⟩
  by_cases h2 : c = 112
  · subst h2
    exact (s7_p h hl).mono fun e w' ⟨he, hs⟩ => ⟨hs, .inl ⟨_, rfl, cf207, he⟩⟩
  by_cases h3 : c = 99
  · subst h3
    exact (s7_c h hl).mono fun e w' ⟨he, hs⟩ => ⟨hs, .inl ⟨_, rfl, cf208, he⟩⟩
  by_cases h4 : c = 98
  · subst h4
    exact (s7_b h hl).mono fun e w' ⟨he, hs⟩ => ⟨hs, .inl ⟨_, rfl, cf209, he⟩⟩
  by_cases h5 : c = 116
  · subst h5
    exact (s7_t h hl).mono fun e w' ⟨he, hs⟩ => ⟨hs, .inl ⟨_, rfl, cf210, he⟩⟩
  exact (s7_no h hl hn h0 h1 h2 h3 h4 h5).mono fun e w' ⟨v, he, hs⟩ => ⟨hs, .inr ⟨by simp [nextP, h0, h1, h2, h3, h4, h5], v, he⟩⟩
theorem stage8 (h : St ae S L D C s w0 cs i w) {c : UInt8} {r : List UInt8} (hl : s.data.toList.drop i = c :: 61 :: r) (hn : isNl c = false) :
    Calls Tryz.prog 214 #[.pointer (some ⟨L, 0, none⟩)] w (StageR ae S L D C s w0 cs i 8 c) := by
  by_cases h0 : c = 99
  · subst h0
    exact (s8_c h hl).mono fun e w' ⟨he, hs⟩ => ⟨hs, .inl ⟨_, rfl, cf208, he⟩⟩
  by_cases h1 : c = 98
  · subst h1
    exact (s8_b h hl).mono fun e w' ⟨he, hs⟩ => ⟨hs, .inl ⟨_, rfl, cf209, he⟩⟩
  by_cases h2 : c = 116
  · subst h2
    exact (s8_t h hl).mono fun e w' ⟨he, hs⟩ => ⟨hs, .inl ⟨_, rfl, cf210, he⟩⟩
  exact (s8_no h hl hn h0 h1 h2).mono fun e w' ⟨v, he, hs⟩ => ⟨hs, .inr ⟨by simp [nextP, h0, h1, h2], v, he⟩⟩
theorem stage9 (h : St ae S L D C s w0 cs i w) {c : UInt8} {r : List UInt8} (hl : s.data.toList.drop i = c :: 61 :: r) (hn : isNl c = false) :
    Calls Tryz.prog 217 #[.pointer (some ⟨L, 0, none⟩)] w (StageR ae S L D C s w0 cs i 9 c) := by
  by_cases h0 : c = 122
  · subst h0
    exact (s9_z h hl).mono fun e w' ⟨he, hs⟩ => ⟨hs, .inl ⟨_, rfl, cf224, he⟩⟩
  by_cases h1 : c = 107
  · subst h1
    exact (s9_k h hl).mono fun e w' ⟨he, hs⟩ => ⟨hs, .inl ⟨_, rfl, cf225, he⟩⟩
  by_cases h2 : c = 97
  · subst h2
    exact (s9_a h hl).mono fun e w' ⟨he, hs⟩ => ⟨hs, .inl ⟨_, rfl, cf226, he⟩⟩
  by_cases h3 : c = 114
  · subst h3
    exact (s9_r h hl).mono fun e w' ⟨he, hs⟩ => ⟨hs, .inl ⟨_, rfl, cf227, he⟩⟩
  by_cases h4 : c = 116
  · subst h4
    exact (s9_t h hl).mono fun e w' ⟨he, hs⟩ => ⟨hs, .inl ⟨_, rfl, cf210, he⟩⟩
  by_cases h5 : c = 109
  · subst h5
    exact (s9_m h hl).mono fun e w' ⟨he, hs⟩ => ⟨hs, .inl ⟨_, rfl, cf228, he⟩⟩
  exact (s9_no h hl hn h0 h1 h2 h3 h4 h5).mono fun e w' ⟨v, he, hs⟩ => ⟨hs, .inr ⟨by simp [nextP, h0, h1, h2, h3, h4, h5], v, he⟩⟩
theorem stage10 (h : St ae S L D C s w0 cs i w) {c : UInt8} {r : List UInt8} (hl : s.data.toList.drop i = c :: 61 :: r) (hn : isNl c = false) :
    Calls Tryz.prog 212 #[.pointer (some ⟨L, 0, none⟩)] w (StageR ae S L D C s w0 cs i 10 c) := by
  by_cases h0 : c = 101
  · subst h0
    exact (s10_e h hl).mono fun e w' ⟨he, hs⟩ => ⟨hs, .inl ⟨_, rfl, cf206, he⟩⟩
  by_cases h1 : c = 112
  · subst h1
    exact (s10_p h hl).mono fun e w' ⟨he, hs⟩ => ⟨hs, .inl ⟨_, rfl, cf207, he⟩⟩
  by_cases h2 : c = 99
  · subst h2
    exact (s10_c h hl).mono fun e w' ⟨he, hs⟩ => ⟨hs, .inl ⟨_, rfl, cf208, he⟩⟩
  by_cases h3 : c = 98
  · subst h3
    exact (s10_b h hl).mono fun e w' ⟨he, hs⟩ => ⟨hs, .inl ⟨_, rfl, cf209, he⟩⟩
  by_cases h4 : c = 116
  · subst h4
    exact (s10_t h hl).mono fun e w' ⟨he, hs⟩ => ⟨hs, .inl ⟨_, rfl, cf210, he⟩⟩
  exact (s10_no h hl hn h0 h1 h2 h3 h4).mono fun e w' ⟨v, he, hs⟩ => ⟨hs, .inr ⟨by simp [nextP, h0, h1, h2, h3, h4], v, he⟩⟩
theorem stage11 (h : St ae S L D C s w0 cs i w) {c : UInt8} {r : List UInt8} (hl : s.data.toList.drop i = c :: 61 :: r) (hn : isNl c = false) :
    Calls Tryz.prog 230 #[.pointer (some ⟨L, 0, none⟩)] w (StageR ae S L D C s w0 cs i 11 c) := by
  by_cases h0 : c = 97
  · subst h0
    exact (s11_a h hl).mono fun e w' ⟨he, hs⟩ => ⟨hs, .inl ⟨_, rfl, cf226, he⟩⟩
  by_cases h1 : c = 109
  · subst h1
    exact (s11_m h hl).mono fun e w' ⟨he, hs⟩ => ⟨hs, .inl ⟨_, rfl, cf228, he⟩⟩
  exact (s11_no h hl hn h0 h1).mono fun e w' ⟨v, he, hs⟩ => ⟨hs, .inr ⟨by simp [nextP, h0, h1], v, he⟩⟩
theorem stage12 (h : St ae S L D C s w0 cs i w) {c : UInt8} {r : List UInt8} (hl : s.data.toList.drop i = c :: 61 :: r) (hn : isNl c = false) :
    Calls Tryz.prog 233 #[.pointer (some ⟨L, 0, none⟩)] w (StageR ae S L D C s w0 cs i 12 c) := by
  by_cases h0 : c = 97
  · subst h0
    exact (s12_a h hl).mono fun e w' ⟨he, hs⟩ => ⟨hs, .inl ⟨_, rfl, cf237, he⟩⟩
  by_cases h1 : c = 107
  · subst h1
    exact (s12_k h hl).mono fun e w' ⟨he, hs⟩ => ⟨hs, .inl ⟨_, rfl, cf238, he⟩⟩
  by_cases h2 : c = 98
  · subst h2
    exact (s12_b h hl).mono fun e w' ⟨he, hs⟩ => ⟨hs, .inl ⟨_, rfl, cf239, he⟩⟩
  by_cases h3 : c = 99
  · subst h3
    exact (s12_c h hl).mono fun e w' ⟨he, hs⟩ => ⟨hs, .inl ⟨_, rfl, cf240, he⟩⟩
  by_cases h4 : c = 105
  · subst h4
    exact (s12_i h hl).mono fun e w' ⟨he, hs⟩ => ⟨hs, .inl ⟨_, rfl, cf241, he⟩⟩
  by_cases h5 : c = 109
  · subst h5
    exact (s12_m h hl).mono fun e w' ⟨he, hs⟩ => ⟨hs, .inl ⟨_, rfl, cf228, he⟩⟩
  exact (s12_no h hl hn h0 h1 h2 h3 h4 h5).mono fun e w' ⟨v, he, hs⟩ => ⟨hs, .inr ⟨by simp [nextP, h0, h1, h2, h3, h4, h5], v, he⟩⟩
theorem stage13 (h : St ae S L D C s w0 cs i w) {c : UInt8} {r : List UInt8} (hl : s.data.toList.drop i = c :: 61 :: r) (hn : isNl c = false) :
    Calls Tryz.prog 229 #[.pointer (some ⟨L, 0, none⟩)] w (StageR ae S L D C s w0 cs i 13 c) := by
  by_cases h0 : c = 97
  · subst h0
    exact (s13_a h hl).mono fun e w' ⟨he, hs⟩ => ⟨hs, .inl ⟨_, rfl, cf226, he⟩⟩
  by_cases h1 : c = 107
  · subst h1
    exact (s13_k h hl).mono fun e w' ⟨he, hs⟩ => ⟨hs, .inl ⟨_, rfl, cf225, he⟩⟩
  by_cases h2 : c = 109
  · subst h2
    exact (s13_m h hl).mono fun e w' ⟨he, hs⟩ => ⟨hs, .inl ⟨_, rfl, cf228, he⟩⟩
  exact (s13_no h hl hn h0 h1 h2).mono fun e w' ⟨v, he, hs⟩ => ⟨hs, .inr ⟨by simp [nextP, h0, h1, h2], v, he⟩⟩
theorem stage14 (h : St ae S L D C s w0 cs i w) {c : UInt8} {r : List UInt8} (hl : s.data.toList.drop i = c :: 61 :: r) (hn : isNl c = false) :
    Calls Tryz.prog 243 #[.pointer (some ⟨L, 0, none⟩)] w (StageR ae S L D C s w0 cs i 14 c) := by
  by_cases h0 : c = 97
  · subst h0
    exact (s14_a h hl).mono fun e w' ⟨he, hs⟩ => ⟨hs, .inl ⟨_, rfl, cf237, he⟩⟩
  by_cases h1 : c = 107
  · subst h1
    exact (s14_k h hl).mono fun e w' ⟨he, hs⟩ => ⟨hs, .inl ⟨_, rfl, cf238, he⟩⟩
  by_cases h2 : c = 98
  · subst h2
    exact (s14_b h hl).mono fun e w' ⟨he, hs⟩ => ⟨hs, .inl ⟨_, rfl, cf239, he⟩⟩
  by_cases h3 : c = 99
  · subst h3
    exact (s14_c h hl).mono fun e w' ⟨he, hs⟩ => ⟨hs, .inl ⟨_, rfl, cf240, he⟩⟩
  by_cases h4 : c = 105
  · subst h4
    exact (s14_i h hl).mono fun e w' ⟨he, hs⟩ => ⟨hs, .inl ⟨_, rfl, cf241, he⟩⟩
  by_cases h5 : c = 109
  · subst h5
    exact (s14_m h hl).mono fun e w' ⟨he, hs⟩ => ⟨hs, .inl ⟨_, rfl, cf228, he⟩⟩
  exact (s14_no h hl hn h0 h1 h2 h3 h4 h5).mono fun e w' ⟨v, he, hs⟩ => ⟨hs, .inr ⟨by simp [nextP, h0, h1, h2, h3, h4, h5], v, he⟩⟩
theorem stage15 (h : St ae S L D C s w0 cs i w) {c : UInt8} {r : List UInt8} (hl : s.data.toList.drop i = c :: 61 :: r) (hn : isNl c = false) :
    Calls Tryz.prog 244 #[.pointer (some ⟨L, 0, none⟩)] w (StageR ae S L D C s w0 cs i 15 c) := by
  by_cases h0 : c = 97
  · subst h0
    exact (s15_a h hl).mono fun e w' ⟨he, hs⟩ => ⟨hs, .inl ⟨_, rfl, cf237, he⟩⟩
  by_cases h1 : c = 107
  · subst h1
    exact (s15_k h hl).mono fun e w' ⟨he, hs⟩ => ⟨hs, .inl ⟨_, rfl, cf238, he⟩⟩
  by_cases h2 : c = 98
  · subst h2
    exact (s15_b h hl).mono fun e w' ⟨he, hs⟩ => ⟨hs, .inl ⟨_, rfl, cf239, he⟩⟩
  by_cases h3 : c = 99
  · subst h3
    exact (s15_c h hl).mono fun e w' ⟨he, hs⟩ => ⟨hs, .inl ⟨_, rfl, cf240, he⟩⟩
  by_cases h4 : c = 105
  · subst h4
    exact (s15_i h hl).mono fun e w' ⟨he, hs⟩ => ⟨hs, .inl ⟨_, rfl, cf241, he⟩⟩
  by_cases h5 : c = 109
  · subst h5
    exact (s15_m h hl).mono fun e w' ⟨he, hs⟩ => ⟨hs, .inl ⟨_, rfl, cf228, he⟩⟩
  exact (s15_no h hl hn h0 h1 h2 h3 h4 h5).mono fun e w' ⟨v, he, hs⟩ => ⟨hs, .inr ⟨by simp [nextP, h0, h1, h2, h3, h4, h5], v, he⟩⟩
theorem stage16 (h : St ae S L D C s w0 cs i w) {c : UInt8} {r : List UInt8} (hl : s.data.toList.drop i = c :: 61 :: r) (hn : isNl c = false) :
    Calls Tryz.prog 245 #[.pointer (some ⟨L, 0, none⟩)] w (StageR ae S L D C s w0 cs i 16 c) := by
  by_cases h0 : c = 97
  · subst h0
    exact (s16_a h hl).mono fun e w' ⟨he, hs⟩ => ⟨hs, .inl ⟨_, rfl, cf237, he⟩⟩
  by_cases h1 : c = 107
  · subst h1
    exact (s16_k h hl).mono fun e w' ⟨he, hs⟩ => ⟨hs, .inl ⟨_, rfl, cf238, he⟩⟩
  by_cases h2 : c = 99
  · subst h2
    exact (s16_c h hl).mono fun e w' ⟨he, hs⟩ => ⟨hs, .inl ⟨_, rfl, cf240, he⟩⟩
  by_cases h3 : c = 98
  · subst h3
    exact (s16_b h hl).mono fun e w' ⟨he, hs⟩ => ⟨hs, .inl ⟨_, rfl, cf239, he⟩⟩
  by_cases h4 : c = 105
  · subst h4
    exact (s16_i h hl).mono fun e w' ⟨he, hs⟩ => ⟨hs, .inl ⟨_, rfl, cf241, he⟩⟩
  by_cases h5 : c = 109
  · subst h5
    exact (s16_m h hl).mono fun e w' ⟨he, hs⟩ => ⟨hs, .inl ⟨_, rfl, cf228, he⟩⟩
  exact (s16_no h hl hn h0 h1 h2 h3 h4 h5).mono fun e w' ⟨v, he, hs⟩ => ⟨hs, .inr ⟨by simp [nextP, h0, h1, h2, h3, h4, h5], v, he⟩⟩

theorem stage_all {q : Nat} (h1 : 1 ≤ q) (h2 : q ≤ 16) (h : St ae S L D C s w0 cs i w) {c : UInt8} {r : List UInt8} (hl : s.data.toList.drop i = c :: 61 :: r) (hn : isNl c = false) :
    Calls Tryz.prog (stN q) #[.pointer (some ⟨L, 0, none⟩)] w (StageR ae S L D C s w0 cs i q c) :=
  match q, h1, h2 with
  | 1, _, _ => stage1 h hl hn
  | 2, _, _ => stage2 h hl hn
  | 3, _, _ => stage3 h hl hn
  | 4, _, _ => stage4 h hl hn
  | 5, _, _ => stage5 h hl hn
  | 6, _, _ => stage6 h hl hn
  | 7, _, _ => stage7 h hl hn
  | 8, _, _ => stage8 h hl hn
  | 9, _, _ => stage9 h hl hn
  | 10, _, _ => stage10 h hl hn
  | 11, _, _ => stage11 h hl hn
  | 12, _, _ => stage12 h hl hn
  | 13, _, _ => stage13 h hl hn
  | 14, _, _ => stage14 h hl hn
  | 15, _, _ => stage15 h hl hn
  | 16, _, _ => stage16 h hl hn
  | n + 17, _, h2 => absurd h2 (by omega)

theorem end_all {q : Nat} (h1 : 1 ≤ q) (h2 : q ≤ 16) (h : St ae S L D C s w0 cs i w) (hi : i = s.size) :
    Calls Tryz.prog (stN q) #[.pointer (some ⟨L, 0, none⟩)] w fun e w' => e = .returned (.tuple #[.nilFunc, .nilIface]) ∧ St ae S L D C s w0 cs i w' :=
  match q, h1, h2 with
  | 1, _, _ => s1_end h hi
  | 2, _, _ => s2_end h hi
  | 3, _, _ => s3_end h hi
  | 4, _, _ => s4_end h hi
  | 5, _, _ => s5_end h hi
  | 6, _, _ => s6_end h hi
  | 7, _, _ => s7_end h hi
  | 8, _, _ => s8_end h hi
  | 9, _, _ => s9_end h hi
  | 10, _, _ => s10_end h hi
  | 11, _, _ => s11_end h hi
  | 12, _, _ => s12_end h hi
  | 13, _, _ => s13_end h hi
  | 14, _, _ => s14_end h hi
  | 15, _, _ => s15_end h hi
  | 16, _, _ => s16_end h hi
  | n + 17, _, h2 => absurd h2 (by omega)
end
end Go.Proofs.YtimonhimfioohaaGreatDoor
