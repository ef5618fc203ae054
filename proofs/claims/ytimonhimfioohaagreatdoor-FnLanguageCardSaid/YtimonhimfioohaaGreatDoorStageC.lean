/- The states 12 and 14 to 16 of the parse (package sdp). -/
import Derived.Test.YtimonhimfioohaaGreatDoorStageA
namespace Go.Proofs.YtimonhimfioohaaGreatDoor
open Go.RowKit

theorem call236 (args : Array Value) (W : World) : (callFunc 236 args).run Tryz.prog W = .ok (.enter 236 args) W := by kernel_rfl
theorem clos12_a (W : World) : Calls Tryz.prog 236 #[.int .u8 97] W fun e w' => e = .returned (.func (.func 237) #[] #[]) ∧ W = w' := by
  go_enter Tryz.func236, Tryz.ntmps236
  go_wp2
  go_ret
  exact ⟨rfl, rfl⟩
theorem clos12_k (W : World) : Calls Tryz.prog 236 #[.int .u8 107] W fun e w' => e = .returned (.func (.func 238) #[] #[]) ∧ W = w' := by
  go_enter Tryz.func236, Tryz.ntmps236
  go_wp2
  go_ret
  exact ⟨rfl, rfl⟩
theorem clos12_b (W : World) : Calls Tryz.prog 236 #[.int .u8 98] W fun e w' => e = .returned (.func (.func 239) #[] #[]) ∧ W = w' := by
  go_enter Tryz.func236, Tryz.ntmps236
  go_wp2
  go_ret
  exact ⟨rfl, rfl⟩
theorem clos12_c (W : World) : Calls Tryz.prog 236 #[.int .u8 99] W fun e w' => e = .returned (.func (.func 240) #[] #[]) ∧ W = w' := by
  go_enter Tryz.func236, Tryz.ntmps236
  go_wp2
  go_ret
  exact ⟨rfl, rfl⟩
theorem clos12_i (W : World) : Calls Tryz.prog 236 #[.int .u8 105] W fun e w' => e = .returned (.func (.func 241) #[] #[]) ∧ W = w' := by
  go_enter Tryz.func236, Tryz.ntmps236
  go_wp2
  go_ret
  exact ⟨rfl, rfl⟩
theorem clos12_m (W : World) : Calls Tryz.prog 236 #[.int .u8 109] W fun e w' => e = .returned (.func (.func 228) #[] #[]) ∧ W = w' := by
  go_enter Tryz.func236, Tryz.ntmps236
  go_wp2
  go_ret
  exact ⟨rfl, rfl⟩
theorem clos12_no (c : Int) (W : World) (h0 : (c == 97) = false) (h1 : (c == 107) = false) (h2 : (c == 98) = false) (h3 : (c == 99) = false) (h4 : (c == 105) = false) (h5 : (c == 109) = false) : Calls Tryz.prog 236 #[.int .u8 c] W fun e w' => e = .returned .nilFunc ∧ W = w' := by
  go_enter Tryz.func236, Tryz.ntmps236
  go_wp2
  go_ret
  exact ⟨rfl, rfl⟩
theorem s12_a {ae : Addr} {S : Nat → Prop} {L D C : Nat} {s : ByteArray} {w0 : World} {cs : Array Value} {i : Nat} {w : World} (h : St ae S L D C s w0 cs i w) {r : List UInt8} (hl : s.data.toList.drop i = 97 :: 61 :: r) :
    Calls Tryz.prog 233 #[.pointer (some ⟨L, 0, none⟩)] w fun e w' => e = .returned (.tuple #[.func (.func 237) #[] #[], .nilIface]) ∧ St ae S L D C s w0 cs (i + 2) w' := by
  have H := Lib.hid (stage_ok h hl (by decide) call236 clos12_a)
  clear h hl
  go_enter Tryz.func233, Tryz.ntmps233
  go_wp2_with (go_at_call 127; refine H.out.mono ?_; rintro e w1 ⟨rfl, h1⟩; have H1 := Lib.hid h1; clear h1)
  go_ret2
  exact ⟨rfl, H1.out⟩
theorem s12_k {ae : Addr} {S : Nat → Prop} {L D C : Nat} {s : ByteArray} {w0 : World} {cs : Array Value} {i : Nat} {w : World} (h : St ae S L D C s w0 cs i w) {r : List UInt8} (hl : s.data.toList.drop i = 107 :: 61 :: r) :
    Calls Tryz.prog 233 #[.pointer (some ⟨L, 0, none⟩)] w fun e w' => e = .returned (.tuple #[.func (.func 238) #[] #[], .nilIface]) ∧ St ae S L D C s w0 cs (i + 2) w' := by
  have H := Lib.hid (stage_ok h hl (by decide) call236 clos12_k)
  clear h hl
  go_enter Tryz.func233, Tryz.ntmps233
  go_wp2_with (go_at_call 127; refine H.out.mono ?_; rintro e w1 ⟨rfl, h1⟩; have H1 := Lib.hid h1; clear h1)
  go_ret2
  exact ⟨rfl, H1.out⟩
theorem s12_b {ae : Addr} {S : Nat → Prop} {L D C : Nat} {s : ByteArray} {w0 : World} {cs : Array Value} {i : Nat} {w : World} (h : St ae S L D C s w0 cs i w) {r : List UInt8} (hl : s.data.toList.drop i = 98 :: 61 :: r) :
    Calls Tryz.prog 233 #[.pointer (some ⟨L, 0, none⟩)] w fun e w' => e = .returned (.tuple #[.func (.func 239) #[] #[], .nilIface]) ∧ St ae S L D C s w0 cs (i + 2) w' := by
  have H := Lib.hid (stage_ok h hl (by decide) call236 clos12_b)
  clear h hl
  go_enter Tryz.func233, Tryz.ntmps233
  go_wp2_with (go_at_call 127; refine H.out.mono ?_; rintro e w1 ⟨rfl, h1⟩; have H1 := Lib.hid h1; clear h1)
  go_ret2
  exact ⟨rfl, H1.out⟩
theorem s12_c {ae : Addr} {S : Nat → Prop} {L D C : Nat} {s : ByteArray} {w0 : World} {cs : Array Value} {i : Nat} {w : World} (h : St ae S L D C s w0 cs i w) {r : List UInt8} (hl : s.data.toList.drop i = 99 :: 61 :: r) :
    Calls Tryz.prog 233 #[.pointer (some ⟨L, 0, none⟩)] w fun e w' => e = .returned (.tuple #[.func (.func 240) #[] #[], .nilIface]) ∧ St ae S L D C s w0 cs (i + 2) w' := by
  have H := Lib.hid (stage_ok h hl (by decide) call236 clos12_c)
  clear h hl
  go_enter Tryz.func233, Tryz.ntmps233
  go_wp2_with (go_at_call 127; refine H.out.mono ?_; rintro e w1 ⟨rfl, h1⟩; have H1 := Lib.hid h1; clear h1)
  go_ret2
  exact ⟨rfl, H1.out⟩
theorem s12_i {ae : Addr} {S : Nat → Prop} {L D C : Nat} {s : ByteArray} {w0 : World} {cs : Array Value} {i : Nat} {w : World} (h : St ae S L D C s w0 cs i w) {r : List UInt8} (hl : s.data.toList.drop i = 105 :: 61 :: r) :
    Calls Tryz.prog 233 #[.pointer (some ⟨L, 0, none⟩)] w fun e w' => e = .returned (.tuple #[.func (.func 241) #[] #[], .nilIface]) ∧ St ae S L D C s w0 cs (i + 2) w' := by
  have H := Lib.hid (stage_ok h hl (by decide) call236 clos12_i)
  clear h hl
  go_enter Tryz.func233, Tryz.ntmps233
  go_wp2_with (go_at_call 127; refine H.out.mono ?_; rintro e w1 ⟨rfl, h1⟩; have H1 := Lib.hid h1; clear h1)
  go_ret2
  exact ⟨rfl, H1.out⟩
theorem s12_m {ae : Addr} {S : Nat → Prop} {L D C : Nat} {s : ByteArray} {w0 : World} {cs : Array Value} {i : Nat} {w : World} (h : St ae S L D C s w0 cs i w) {r : List UInt8} (hl : s.data.toList.drop i = 109 :: 61 :: r) :
    Calls Tryz.prog 233 #[.pointer (some ⟨L, 0, none⟩)] w fun e w' => e = .returned (.tuple #[.func (.func 228) #[] #[], .nilIface]) ∧ St ae S L D C s w0 cs (i + 2) w' := by
  have H := Lib.hid (stage_ok h hl (by decide) call236 clos12_m)
  clear h hl
  go_enter Tryz.func233, Tryz.ntmps233
  go_wp2_with (go_at_call 127; refine H.out.mono ?_; rintro e w1 ⟨rfl, h1⟩; have H1 := Lib.hid h1; clear h1)
  go_ret2
  exact ⟨rfl, H1.out⟩
theorem s12_no {ae : Addr} {S : Nat → Prop} {L D C : Nat} {s : ByteArray} {w0 : World} {cs : Array Value} {i : Nat} {w : World} (h : St ae S L D C s w0 cs i w) {c : UInt8} {r : List UInt8} (hl : s.data.toList.drop i = c :: 61 :: r) (hn : isNl c = false) (h0 : c ≠ 97) (h1 : c ≠ 107) (h2 : c ≠ 98) (h3 : c ≠ 99) (h4 : c ≠ 105) (h5 : c ≠ 109) :
    Calls Tryz.prog 233 #[.pointer (some ⟨L, 0, none⟩)] w fun e w' => ∃ v, e = .returned (.tuple #[.nilFunc, .iface 304 v]) ∧ St ae S L D C s w0 cs (i + 2) w' := by
  have H := Lib.hid (stage_bad h hl hn call236 (fun W => clos12_no _ W (ne_int h0 (by decide)) (ne_int h1 (by decide)) (ne_int h2 (by decide)) (ne_int h3 (by decide)) (ne_int h4 (by decide)) (ne_int h5 (by decide))))
  clear h hl hn h0 h1 h2 h3 h4 h5
  go_enter Tryz.func233, Tryz.ntmps233
  go_wp2_with (go_at_call 127; refine H.out.mono ?_; rintro e w1 ⟨v, rfl, h1⟩; have H1 := Lib.hid h1; clear h1)
  go_ret2
  exact ⟨_, rfl, H1.out⟩
theorem s12_end {ae : Addr} {S : Nat → Prop} {L D C : Nat} {s : ByteArray} {w0 : World} {cs : Array Value} {i : Nat} {w : World} (h : St ae S L D C s w0 cs i w) (hi : i = s.size) :
    Calls Tryz.prog 233 #[.pointer (some ⟨L, 0, none⟩)] w fun e w' => e = .returned (.tuple #[.nilFunc, .nilIface]) ∧ St ae S L D C s w0 cs i w' := by
  have H := Lib.hid (stage_end h hi (f := .func (.func 236) #[] #[]))
  clear h hi
  go_enter Tryz.func233, Tryz.ntmps233
  go_wp2_with (go_at_call 127; refine H.out.mono ?_; rintro e w1 ⟨rfl, h1⟩; have H1 := Lib.hid h1; clear h1)
  go_ret2
  exact ⟨rfl, H1.out⟩

theorem call246 (args : Array Value) (W : World) : (callFunc 246 args).run Tryz.prog W = .ok (.enter 246 args) W := by kernel_rfl
theorem clos14_a (W : World) : Calls Tryz.prog 246 #[.int .u8 97] W fun e w' => e = .returned (.func (.func 237) #[] #[]) ∧ W = w' := by
  go_enter Tryz.func246, Tryz.ntmps246
  go_wp2
  go_ret
  exact ⟨rfl, rfl⟩
theorem clos14_k (W : World) : Calls Tryz.prog 246 #[.int .u8 107] W fun e w' => e = .returned (.func (.func 238) #[] #[]) ∧ W = w' := by
  go_enter Tryz.func246, Tryz.ntmps246
  go_wp2
  go_ret
  exact ⟨rfl, rfl⟩
theorem clos14_b (W : World) : Calls Tryz.prog 246 #[.int .u8 98] W fun e w' => e = .returned (.func (.func 239) #[] #[]) ∧ W = w' := by
  go_enter Tryz.func246, Tryz.ntmps246
  go_wp2
  go_ret
  exact ⟨rfl, rfl⟩
theorem clos14_c (W : World) : Calls Tryz.prog 246 #[.int .u8 99] W fun e w' => e = .returned (.func (.func 240) #[] #[]) ∧ W = w' := by
  go_enter Tryz.func246, Tryz.ntmps246
  go_wp2
  go_ret
  exact ⟨rfl, rfl⟩
theorem clos14_i (W : World) : Calls Tryz.prog 246 #[.int .u8 105] W fun e w' => e = .returned (.func (.func 241) #[] #[]) ∧ W = w' := by
  go_enter Tryz.func246, Tryz.ntmps246
  go_wp2
  go_ret
  exact ⟨rfl, rfl⟩
theorem clos14_m (W : World) : Calls Tryz.prog 246 #[.int .u8 109] W fun e w' => e = .returned (.func (.func 228) #[] #[]) ∧ W = w' := by
  go_enter Tryz.func246, Tryz.ntmps246
  go_wp2
  go_ret
  exact ⟨rfl, rfl⟩
theorem clos14_no (c : Int) (W : World) (h0 : (c == 97) = false) (h1 : (c == 107) = false) (h2 : (c == 98) = false) (h3 : (c == 99) = false) (h4 : (c == 105) = false) (h5 : (c == 109) = false) : Calls Tryz.prog 246 #[.int .u8 c] W fun e w' => e = .returned .nilFunc ∧ W = w' := by
  go_enter Tryz.func246, Tryz.ntmps246
  go_wp2
  go_ret
  exact ⟨rfl, rfl⟩
theorem s14_a {ae : Addr} {S : Nat → Prop} {L D C : Nat} {s : ByteArray} {w0 : World} {cs : Array Value} {i : Nat} {w : World} (h : St ae S L D C s w0 cs i w) {r : List UInt8} (hl : s.data.toList.drop i = 97 :: 61 :: r) :
    Calls Tryz.prog 243 #[.pointer (some ⟨L, 0, none⟩)] w fun e w' => e = .returned (.tuple #[.func (.func 237) #[] #[], .nilIface]) ∧ St ae S L D C s w0 cs (i + 2) w' := by
  have H := Lib.hid (stage_ok h hl (by decide) call246 clos14_a)
  clear h hl
  go_enter Tryz.func243, Tryz.ntmps243
  go_wp2_with (go_at_call 127; refine H.out.mono ?_; rintro e w1 ⟨rfl, h1⟩; have H1 := Lib.hid h1; clear h1)
  go_ret2
  exact ⟨rfl, H1.out⟩
theorem s14_k {ae : Addr} {S : Nat → Prop} {L D C : Nat} {s : ByteArray} {w0 : World} {cs : Array Value} {i : Nat} {w : World} (h : St ae S L D C s w0 cs i w) {r : List UInt8} (hl : s.data.toList.drop i = 107 :: 61 :: r) :
    Calls Tryz.prog 243 #[.pointer (some ⟨L, 0, none⟩)] w fun e w' => e = .returned (.tuple #[.func (.func 238) #[] #[], .nilIface]) ∧ St ae S L D C s w0 cs (i + 2) w' := by
  have H := Lib.hid (stage_ok h hl (by decide) call246 clos14_k)
  clear h hl
  go_enter Tryz.func243, Tryz.ntmps243
  go_wp2_with (go_at_call 127; refine H.out.mono ?_; rintro e w1 ⟨rfl, h1⟩; have H1 := Lib.hid h1; clear h1)
  go_ret2
  exact ⟨rfl, H1.out⟩
theorem s14_b {ae : Addr} {S : Nat → Prop} {L D C : Nat} {s : ByteArray} {w0 : World} {cs : Array Value} {i : Nat} {w : World} (h : St ae S L D C s w0 cs i w) {r : List UInt8} (hl : s.data.toList.drop i = 98 :: 61 :: r) :
    Calls Tryz.prog 243 #[.pointer (some ⟨L, 0, none⟩)] w fun e w' => e = .returned (.tuple #[.func (.func 239) #[] #[], .nilIface]) ∧ St ae S L D C s w0 cs (i + 2) w' := by
  have H := Lib.hid (stage_ok h hl (by decide) call246 clos14_b)
  clear h hl
  go_enter Tryz.func243, Tryz.ntmps243
  go_wp2_with (go_at_call 127; refine H.out.mono ?_; rintro e w1 ⟨rfl, h1⟩; have H1 := Lib.hid h1; clear h1)
  go_ret2
  exact ⟨rfl, H1.out⟩
theorem s14_c {ae : Addr} {S : Nat → Prop} {L D C : Nat} {s : ByteArray} {w0 : World} {cs : Array Value} {i : Nat} {w : World} (h : St ae S L D C s w0 cs i w) {r : List UInt8} (hl : s.data.toList.drop i = 99 :: 61 :: r) :
    Calls Tryz.prog 243 #[.pointer (some ⟨L, 0, none⟩)] w fun e w' => e = .returned (.tuple #[.func (.func 240) #[] #[], .nilIface]) ∧ St ae S L D C s w0 cs (i + 2) w' := by
  have H := Lib.hid (stage_ok h hl (by decide) call246 clos14_c)
  clear h hl
  go_enter Tryz.func243, Tryz.ntmps243
  go_wp2_with (go_at_call 127; refine H.out.mono ?_; rintro e w1 ⟨rfl, h1⟩; have H1 := Lib.hid h1; clear h1)
  go_ret2
  exact ⟨rfl, H1.out⟩
theorem s14_i {ae : Addr} {S : Nat → Prop} {L D C : Nat} {s : ByteArray} {w0 : World} {cs : Array Value} {i : Nat} {w : World} (h : St ae S L D C s w0 cs i w) {r : List UInt8} (hl : s.data.toList.drop i = 105 :: 61 :: r) :
    Calls Tryz.prog 243 #[.pointer (some ⟨L, 0, none⟩)] w fun e w' => e = .returned (.tuple #[.func (.func 241) #[] #[], .nilIface]) ∧ St ae S L D C s w0 cs (i + 2) w' := by
  have H := Lib.hid (stage_ok h hl (by decide) call246 clos14_i)
  clear h hl
  go_enter Tryz.func243, Tryz.ntmps243
  go_wp2_with (go_at_call 127; refine H.out.mono ?_; rintro e w1 ⟨rfl, h1⟩; have H1 := Lib.hid h1; clear h1)
  go_ret2
  exact ⟨rfl, H1.out⟩
theorem s14_m {ae : Addr} {S : Nat → Prop} {L D C : Nat} {s : ByteArray} {w0 : World} {cs : Array Value} {i : Nat} {w : World} (h : St ae S L D C s w0 cs i w) {r : List UInt8} (hl : s.data.toList.drop i = 109 :: 61 :: r) :
    Calls Tryz.prog 243 #[.pointer (some ⟨L, 0, none⟩)] w fun e w' => e = .returned (.tuple #[.func (.func 228) #[] #[], .nilIface]) ∧ St ae S L D C s w0 cs (i + 2) w' := by
  have H := Lib.hid (stage_ok h hl (by decide) call246 clos14_m)
  clear h hl
  go_enter Tryz.func243, Tryz.ntmps243
  go_wp2_with (go_at_call 127; refine H.out.mono ?_; rintro e w1 ⟨rfl, h1⟩; have H1 := Lib.hid h1; clear h1)
  go_ret2
  exact ⟨rfl, H1.out⟩
theorem s14_no {ae : Addr} {S : Nat → Prop} {L D C : Nat} {s : ByteArray} {w0 : World} {cs : Array Value} {i : Nat} {w : World} (h : St ae S L D C s w0 cs i w) {c : UInt8} {r : List UInt8} (hl : s.data.toList.drop i = c :: 61 :: r) (hn : isNl c = false) (h0 : c ≠ 97) (h1 : c ≠ 107) (h2 : c ≠ 98) (h3 : c ≠ 99) (h4 : c ≠ 105) (h5 : c ≠ 109) :
    Calls Tryz.prog 243 #[.pointer (some ⟨L, 0, none⟩)] w fun e w' => ∃ v, e = .returned (.tuple #[.nilFunc, .iface 304 v]) ∧ St ae S L D C s w0 cs (i + 2) w' := by
  have H := Lib.hid (stage_bad h hl hn call246 (fun W => clos14_no _ W (ne_int h0 (by decide)) (ne_int h1 (by decide)) (ne_int h2 (by decide)) (ne_int h3 (by decide)) (ne_int h4 (by decide)) (ne_int h5 (by decide))))
  clear h hl hn h0 h1 h2 h3 h4 h5
  go_enter Tryz.func243, Tryz.ntmps243
  go_wp2_with (go_at_call 127; refine H.out.mono ?_; rintro e w1 ⟨v, rfl, h1⟩; have H1 := Lib.hid h1; clear h1)
  go_ret2
  exact ⟨_, rfl, H1.out⟩
theorem s14_end {ae : Addr} {S : Nat → Prop} {L D C : Nat} {s : ByteArray} {w0 : World} {cs : Array Value} {i : Nat} {w : World} (h : St ae S L D C s w0 cs i w) (hi : i = s.size) :
    Calls Tryz.prog 243 #[.pointer (some ⟨L, 0, none⟩)] w fun e w' => e = .returned (.tuple #[.nilFunc, .nilIface]) ∧ St ae S L D C s w0 cs i w' := by
  have H := Lib.hid (stage_end h hi (f := .func (.func 246) #[] #[]))
  clear h hi
  go_enter Tryz.func243, Tryz.ntmps243
  go_wp2_with (go_at_call 127; refine H.out.mono ?_; rintro e w1 ⟨rfl, h1⟩; have H1 := Lib.hid h1; clear h1)
  go_ret2
  exact ⟨rfl, H1.out⟩

theorem call247 (args : Array Value) (W : World) : (callFunc 247 args).run Tryz.prog W = .ok (.enter 247 args) W := by kernel_rfl
theorem clos15_a (W : World) : Calls Tryz.prog 247 #[.int .u8 97] W fun e w' => e = .returned (.func (.func 237) #[] #[]) ∧ W = w' := by
  go_enter Tryz.func247, Tryz.ntmps247
  go_wp2
  go_ret
  exact ⟨rfl, rfl⟩
theorem clos15_k (W : World) : Calls Tryz.prog 247 #[.int .u8 107] W fun e w' => e = .returned (.func (.func 238) #[] #[]) ∧ W = w' := by
  go_enter Tryz.func247, Tryz.ntmps247
  go_wp2
  go_ret
  exact ⟨rfl, rfl⟩
theorem clos15_b (W : World) : Calls Tryz.prog 247 #[.int .u8 98] W fun e w' => e = .returned (.func (.func 239) #[] #[]) ∧ W = w' := by
  go_enter Tryz.func247, Tryz.ntmps247
  go_wp2
  go_ret
  exact ⟨rfl, rfl⟩
theorem clos15_c (W : World) : Calls Tryz.prog 247 #[.int .u8 99] W fun e w' => e = .returned (.func (.func 240) #[] #[]) ∧ W = w' := by
  go_enter Tryz.func247, Tryz.ntmps247
  go_wp2
  go_ret
  exact ⟨rfl, rfl⟩
theorem clos15_i (W : World) : Calls Tryz.prog 247 #[.int .u8 105] W fun e w' => e = .returned (.func (.func 241) #[] #[]) ∧ W = w' := by
  go_enter Tryz.func247, Tryz.ntmps247
  go_wp2
  go_ret
  exact ⟨rfl, rfl⟩
theorem clos15_m (W : World) : Calls Tryz.prog 247 #[.int .u8 109] W fun e w' => e = .returned (.func (.func 228) #[] #[]) ∧ W = w' := by
  go_enter Tryz.func247, Tryz.ntmps247
  go_wp2
  go_ret
  exact ⟨rfl, rfl⟩
theorem clos15_no (c : Int) (W : World) (h0 : (c == 97) = false) (h1 : (c == 107) = false) (h2 : (c == 98) = false) (h3 : (c == 99) = false) (h4 : (c == 105) = false) (h5 : (c == 109) = false) : Calls Tryz.prog 247 #[.int .u8 c] W fun e w' => e = .returned .nilFunc ∧ W = w' := by
  go_enter Tryz.func247, Tryz.ntmps247
  go_wp2
  go_ret
  exact ⟨rfl, rfl⟩
theorem s15_a {ae : Addr} {S : Nat → Prop} {L D C : Nat} {s : ByteArray} {w0 : World} {cs : Array Value} {i : Nat} {w : World} (h : St ae S L D C s w0 cs i w) {r : List UInt8} (hl : s.data.toList.drop i = 97 :: 61 :: r) :
    Calls Tryz.prog 244 #[.pointer (some ⟨L, 0, none⟩)] w fun e w' => e = .returned (.tuple #[.func (.func 237) #[] #[], .nilIface]) ∧ St ae S L D C s w0 cs (i + 2) w' := by
  have H := Lib.hid (stage_ok h hl (by decide) call247 clos15_a)
  clear h hl
  go_enter Tryz.func244, Tryz.ntmps244
  go_wp2_with (go_at_call 127; refine H.out.mono ?_; rintro e w1 ⟨rfl, h1⟩; have H1 := Lib.hid h1; clear h1)
  go_ret2
  exact ⟨rfl, H1.out⟩
theorem s15_k {ae : Addr} {S : Nat → Prop} {L D C : Nat} {s : ByteArray} {w0 : World} {cs : Array Value} {i : Nat} {w : World} (h : St ae S L D C s w0 cs i w) {r : List UInt8} (hl : s.data.toList.drop i = 107 :: 61 :: r) :
    Calls Tryz.prog 244 #[.pointer (some ⟨L, 0, none⟩)] w fun e w' => e = .returned (.tuple #[.func (.func 238) #[] #[], .nilIface]) ∧ St ae S L D C s w0 cs (i + 2) w' := by
  have H := Lib.hid (stage_ok h hl (by decide) call247 clos15_k)
  clear h hl
  go_enter Tryz.func244, Tryz.ntmps244
  go_wp2_with (go_at_call 127; refine H.out.mono ?_; rintro e w1 ⟨rfl, h1⟩; have H1 := Lib.hid h1; clear h1)
  go_ret2
  exact ⟨rfl, H1.out⟩
theorem s15_b {ae : Addr} {S : Nat → Prop} {L D C : Nat} {s : ByteArray} {w0 : World} {cs : Array Value} {i : Nat} {w : World} (h : St ae S L D C s w0 cs i w) {r : List UInt8} (hl : s.data.toList.drop i = 98 :: 61 :: r) :
    Calls Tryz.prog 244 #[.pointer (some ⟨L, 0, none⟩)] w fun e w' => e = .returned (.tuple #[.func (.func 239) #[] #[], .nilIface]) ∧ St ae S L D C s w0 cs (i + 2) w' := by
  have H := Lib.hid (stage_ok h hl (by decide) call247 clos15_b)
  clear h hl
  go_enter Tryz.func244, Tryz.ntmps244
  go_wp2_with (go_at_call 127; refine H.out.mono ?_; rintro e w1 ⟨rfl, h1⟩; have H1 := Lib.hid h1; clear h1)
  go_ret2
  exact ⟨rfl, H1.out⟩
theorem s15_c {ae : Addr} {S : Nat → Prop} {L D C : Nat} {s : ByteArray} {w0 : World} {cs : Array Value} {i : Nat} {w : World} (h : St ae S L D C s w0 cs i w) {r : List UInt8} (hl : s.data.toList.drop i = 99 :: 61 :: r) :
    Calls Tryz.prog 244 #[.pointer (some ⟨L, 0, none⟩)] w fun e w' => e = .returned (.tuple #[.func (.func 240) #[] #[], .nilIface]) ∧ St ae S L D C s w0 cs (i + 2) w' := by
  have H := Lib.hid (stage_ok h hl (by decide) call247 clos15_c)
  clear h hl
  go_enter Tryz.func244, Tryz.ntmps244
  go_wp2_with (go_at_call 127; refine H.out.mono ?_; rintro e w1 ⟨rfl, h1⟩; have H1 := Lib.hid h1; clear h1)
  go_ret2
  exact ⟨rfl, H1.out⟩
theorem s15_i {ae : Addr} {S : Nat → Prop} {L D C : Nat} {s : ByteArray} {w0 : World} {cs : Array Value} {i : Nat} {w : World} (h : St ae S L D C s w0 cs i w) {r : List UInt8} (hl : s.data.toList.drop i = 105 :: 61 :: r) :
    Calls Tryz.prog 244 #[.pointer (some ⟨L, 0, none⟩)] w fun e w' => e = .returned (.tuple #[.func (.func 241) #[] #[], .nilIface]) ∧ St ae S L D C s w0 cs (i + 2) w' := by
  have H := Lib.hid (stage_ok h hl (by decide) call247 clos15_i)
  clear h hl
  go_enter Tryz.func244, Tryz.ntmps244
  go_wp2_with (go_at_call 127; refine H.out.mono ?_; rintro e w1 ⟨rfl, h1⟩; have H1 := Lib.hid h1; clear h1)
  go_ret2
  exact ⟨rfl, H1.out⟩
theorem s15_m {ae : Addr} {S : Nat → Prop} {L D C : Nat} {s : ByteArray} {w0 : World} {cs : Array Value} {i : Nat} {w : World} (h : St ae S L D C s w0 cs i w) {r : List UInt8} (hl : s.data.toList.drop i = 109 :: 61 :: r) :
    Calls Tryz.prog 244 #[.pointer (some ⟨L, 0, none⟩)] w fun e w' => e = .returned (.tuple #[.func (.func 228) #[] #[], .nilIface]) ∧ St ae S L D C s w0 cs (i + 2) w' := by
  have H := Lib.hid (stage_ok h hl (by decide) call247 clos15_m)
  clear h hl
  go_enter Tryz.func244, Tryz.ntmps244
  go_wp2_with (go_at_call 127; refine H.out.mono ?_; rintro e w1 ⟨rfl, h1⟩; have H1 := Lib.hid h1; clear h1)
  go_ret2
  exact ⟨rfl, H1.out⟩
theorem s15_no {ae : Addr} {S : Nat → Prop} {L D C : Nat} {s : ByteArray} {w0 : World} {cs : Array Value} {i : Nat} {w : World} (h : St ae S L D C s w0 cs i w) {c : UInt8} {r : List UInt8} (hl : s.data.toList.drop i = c :: 61 :: r) (hn : isNl c = false) (h0 : c ≠ 97) (h1 : c ≠ 107) (h2 : c ≠ 98) (h3 : c ≠ 99) (h4 : c ≠ 105) (h5 : c ≠ 109) :
    Calls Tryz.prog 244 #[.pointer (some ⟨L, 0, none⟩)] w fun e w' => ∃ v, e = .returned (.tuple #[.nilFunc, .iface 304 v]) ∧ St ae S L D C s w0 cs (i + 2) w' := by
  have H := Lib.hid (stage_bad h hl hn call247 (fun W => clos15_no _ W (ne_int h0 (by decide)) (ne_int h1 (by decide)) (ne_int h2 (by decide)) (ne_int h3 (by decide)) (ne_int h4 (by decide)) (ne_int h5 (by decide))))
  clear h hl hn h0 h1 h2 h3 h4 h5
  go_enter Tryz.func244, Tryz.ntmps244
  go_wp2_with (go_at_call 127; refine H.out.mono ?_; rintro e w1 ⟨v, rfl, h1⟩; have H1 := Lib.hid h1; clear h1)
  go_ret2
  exact ⟨_, rfl, H1.out⟩
theorem s15_end {ae : Addr} {S : Nat → Prop} {L D C : Nat} {s : ByteArray} {w0 : World} {cs : Array Value} {i : Nat} {w : World} (h : St ae S L D C s w0 cs i w) (hi : i = s.size) :
    Calls Tryz.prog 244 #[.pointer (some ⟨L, 0, none⟩)] w fun e w' => e = .returned (.tuple #[.nilFunc, .nilIface]) ∧ St ae S L D C s w0 cs i w' := by
  have H := Lib.hid (stage_end h hi (f := .func (.func 247) #[] #[]))
  clear h hi
  go_enter Tryz.func244, Tryz.ntmps244
  go_wp2_with (go_at_call 127; refine H.out.mono ?_; rintro e w1 ⟨rfl, h1⟩; have H1 := Lib.hid h1; clear h1)
  go_ret2
  exact ⟨rfl, H1.out⟩

theorem call248 (args : Array Value) (W : World) : (callFunc 248 args).run Tryz.prog W = .ok (.enter 248 args) W := by kernel_rfl
theorem clos16_a (W : World) : Calls Tryz.prog 248 #[.int .u8 97] W fun e w' => e = .returned (.func (.func 237) #[] #[]) ∧ W = w' := by
  go_enter Tryz.func248, Tryz.ntmps248
  go_wp2
  go_ret
  exact ⟨rfl, rfl⟩
theorem clos16_k (W : World) : Calls Tryz.prog 248 #[.int .u8 107] W fun e w' => e = .returned (.func (.func 238) #[] #[]) ∧ W = w' := by
  go_enter Tryz.func248, Tryz.ntmps248
  go_wp2
  go_ret
  exact ⟨rfl, rfl⟩
theorem clos16_c (W : World) : Calls Tryz.prog 248 #[.int .u8 99] W fun e w' => e = .returned (.func (.func 240) #[] #[]) ∧ W = w' := by
  go_enter Tryz.func248, Tryz.ntmps248
  go_wp2
  go_ret
  exact ⟨rfl, rfl⟩
theorem clos16_b (W : World) : Calls Tryz.prog 248 #[.int .u8 98] W fun e w' => e = .returned (.func (.func 239) #[] #[]) ∧ W = w' := by
  go_enter Tryz.func248, Tryz.ntmps248
  go_wp2
  go_ret
  exact ⟨rfl, rfl⟩
theorem clos16_i (W : World) : Calls Tryz.prog 248 #[.int .u8 105] W fun e w' => e = .returned (.func (.func 241) #[] #[]) ∧ W = w' := by
  go_enter Tryz.func248, Tryz.ntmps248
  go_wp2
  go_ret
  exact ⟨rfl, rfl⟩
theorem clos16_m (W : World) : Calls Tryz.prog 248 #[.int .u8 109] W fun e w' => e = .returned (.func (.func 228) #[] #[]) ∧ W = w' := by
  go_enter Tryz.func248, Tryz.ntmps248
  go_wp2
  go_ret
  exact ⟨rfl, rfl⟩
theorem clos16_no (c : Int) (W : World) (h0 : (c == 97) = false) (h1 : (c == 107) = false) (h2 : (c == 99) = false) (h3 : (c == 98) = false) (h4 : (c == 105) = false) (h5 : (c == 109) = false) : Calls Tryz.prog 248 #[.int .u8 c] W fun e w' => e = .returned .nilFunc ∧ W = w' := by
  go_enter Tryz.func248, Tryz.ntmps248
  go_wp2
  go_ret
  exact ⟨rfl, rfl⟩
theorem s16_a {ae : Addr} {S : Nat → Prop} {L D C : Nat} {s : ByteArray} {w0 : World} {cs : Array Value} {i : Nat} {w : World} (h : St ae S L D C s w0 cs i w) {r : List UInt8} (hl : s.data.toList.drop i = 97 :: 61 :: r) :
    Calls Tryz.prog 245 #[.pointer (some ⟨L, 0, none⟩)] w fun e w' => e = .returned (.tuple #[.func (.func 237) #[] #[], .nilIface]) ∧ St ae S L D C s w0 cs (i + 2) w' := by
  have H := Lib.hid (stage_ok h hl (by decide) call248 clos16_a)
  clear h hl
  go_enter Tryz.func245, Tryz.ntmps245
  go_wp2_with (go_at_call 127; refine H.out.mono ?_; rintro e w1 ⟨rfl, h1⟩; have H1 := Lib.hid h1; clear h1)
  go_ret2
  exact ⟨rfl, H1.out⟩
theorem s16_k {ae : Addr} {S : Nat → Prop} {L D C : Nat} {s : ByteArray} {w0 : World} {cs : Array Value} {i : Nat} {w : World} (h : St ae S L D C s w0 cs i w) {r : List UInt8} (hl : s.data.toList.drop i = 107 :: 61 :: r) :
    Calls Tryz.prog 245 #[.pointer (some ⟨L, 0, none⟩)] w fun e w' => e = .returned (.tuple #[.func (.func 238) #[] #[], .nilIface]) ∧ St ae S L D C s w0 cs (i + 2) w' := by
  have H := Lib.hid (stage_ok h hl (by decide) call248 clos16_k)
  clear h hl
  go_enter Tryz.func245, Tryz.ntmps245
  go_wp2_with (go_at_call 127; refine H.out.mono ?_; rintro e w1 ⟨rfl, h1⟩; have H1 := Lib.hid h1; clear h1)
  go_ret2
  exact ⟨rfl, H1.out⟩
theorem s16_c {ae : Addr} {S : Nat → Prop} {L D C : Nat} {s : ByteArray} {w0 : World} {cs : Array Value} {i : Nat} {w : World} (h : St ae S L D C s w0 cs i w) {r : List UInt8} (hl : s.data.toList.drop i = 99 :: 61 :: r) :
    Calls Tryz.prog 245 #[.pointer (some ⟨L, 0, none⟩)] w fun e w' => e = .returned (.tuple #[.func (.func 240) #[] #[], .nilIface]) ∧ St ae S L D C s w0 cs (i + 2) w' := by
  have H := Lib.hid (stage_ok h hl (by decide) call248 clos16_c)
  clear h hl
  go_enter Tryz.func245, Tryz.ntmps245
  go_wp2_with (go_at_call 127; refine H.out.mono ?_; rintro e w1 ⟨rfl, h1⟩; have H1 := Lib.hid h1; clear h1)
  go_ret2
  exact ⟨rfl, H1.out⟩
theorem s16_b {ae : Addr} {S : Nat → Prop} {L D C : Nat} {s : ByteArray} {w0 : World} {cs : Array Value} {i : Nat} {w : World} (h : St ae S L D C s w0 cs i w) {r : List UInt8} (hl : s.data.toList.drop i = 98 :: 61 :: r) :
    Calls Tryz.prog 245 #[.pointer (some ⟨L, 0, none⟩)] w fun e w' => e = .returned (.tuple #[.func (.func 239) #[] #[], .nilIface]) ∧ St ae S L D C s w0 cs (i + 2) w' := by
  have H := Lib.hid (stage_ok h hl (by decide) call248 clos16_b)
  clear h hl
  go_enter Tryz.func245, Tryz.ntmps245
  go_wp2_with (go_at_call 127; refine H.out.mono ?_; rintro e w1 ⟨rfl, h1⟩; have H1 := Lib.hid h1; clear h1)
  go_ret2
  exact ⟨rfl, H1.out⟩
theorem s16_i {ae : Addr} {S : Nat → Prop} {L D C : Nat} {s : ByteArray} {w0 : World} {cs : Array Value} {i : Nat} {w : World} (h : St ae S L D C s w0 cs i w) {r : List UInt8} (hl : s.data.toList.drop i = 105 :: 61 :: r) :
    Calls Tryz.prog 245 #[.pointer (some ⟨L, 0, none⟩)] w fun e w' => e = .returned (.tuple #[.func (.func 241) #[] #[], .nilIface]) ∧ St ae S L D C s w0 cs (i + 2) w' := by
  have H := Lib.hid (stage_ok h hl (by decide) call248 clos16_i)
  clear h hl
  go_enter Tryz.func245, Tryz.ntmps245
  go_wp2_with (go_at_call 127; refine H.out.mono ?_; rintro e w1 ⟨rfl, h1⟩; have H1 := Lib.hid h1; clear h1)
  go_ret2
  exact ⟨rfl, H1.out⟩
theorem s16_m {ae : Addr} {S : Nat → Prop} {L D C : Nat} {s : ByteArray} {w0 : World} {cs : Array Value} {i : Nat} {w : World} (h : St ae S L D C s w0 cs i w) {r : List UInt8} (hl : s.data.toList.drop i = 109 :: 61 :: r) :
    Calls Tryz.prog 245 #[.pointer (some ⟨L, 0, none⟩)] w fun e w' => e = .returned (.tuple #[.func (.func 228) #[] #[], .nilIface]) ∧ St ae S L D C s w0 cs (i + 2) w' := by
  have H := Lib.hid (stage_ok h hl (by decide) call248 clos16_m)
  clear h hl
  go_enter Tryz.func245, Tryz.ntmps245
  go_wp2_with (go_at_call 127; refine H.out.mono ?_; rintro e w1 ⟨rfl, h1⟩; have H1 := Lib.hid h1; clear h1)
  go_ret2
  exact ⟨rfl, H1.out⟩
theorem s16_no {ae : Addr} {S : Nat → Prop} {L D C : Nat} {s : ByteArray} {w0 : World} {cs : Array Value} {i : Nat} {w : World} (h : St ae S L D C s w0 cs i w) {c : UInt8} {r : List UInt8} (hl : s.data.toList.drop i = c :: 61 :: r) (hn : isNl c = false) (h0 : c ≠ 97) (h1 : c ≠ 107) (h2 : c ≠ 99) (h3 : c ≠ 98) (h4 : c ≠ 105) (h5 : c ≠ 109) :
    Calls Tryz.prog 245 #[.pointer (some ⟨L, 0, none⟩)] w fun e w' => ∃ v, e = .returned (.tuple #[.nilFunc, .iface 304 v]) ∧ St ae S L D C s w0 cs (i + 2) w' := by
  have H := Lib.hid (stage_bad h hl hn call248 (fun W => clos16_no _ W (ne_int h0 (by decide)) (ne_int h1 (by decide)) (ne_int h2 (by decide)) (ne_int h3 (by decide)) (ne_int h4 (by decide)) (ne_int h5 (by decide))))
  clear h hl hn h0 h1 h2 h3 h4 h5
  go_enter Tryz.func245, Tryz.ntmps245
  go_wp2_with (go_at_call 127; refine H.out.mono ?_; rintro e w1 ⟨v, rfl, h1⟩; have H1 := Lib.hid h1; clear h1)
  go_ret2
  exact ⟨_, rfl, H1.out⟩
theorem s16_end {ae : Addr} {S : Nat → Prop} {L D C : Nat} {s : ByteArray} {w0 : World} {cs : Array Value} {i : Nat} {w : World} (h : St ae S L D C s w0 cs i w) (hi : i = s.size) :
    Calls Tryz.prog 245 #[.pointer (some ⟨L, 0, none⟩)] w fun e w' => e = .returned (.tuple #[.nilFunc, .nilIface]) ∧ St ae S L D C s w0 cs i w' := by
  have H := Lib.hid (stage_end h hi (f := .func (.func 248) #[] #[]))
  clear h hi
  go_enter Tryz.func245, Tryz.ntmps245
  go_wp2_with (go_at_call 127; refine H.out.mono ?_; rintro e w1 ⟨rfl, h1⟩; have H1 := Lib.hid h1; clear h1)
  go_ret2
  exact ⟨rfl, H1.out⟩
end Go.Proofs.YtimonhimfioohaaGreatDoor
