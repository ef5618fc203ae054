/- The states 5 to 8 and 10, 11, 13 of the parse (package sdp). -/
import Derived.Test.YtimonhimfioohaaGreatDoorStageA
namespace Go.Proofs.YtimonhimfioohaaGreatDoor
open Go.RowKit

theorem call222 (args : Array Value) (W : World) : (callFunc 222 args).run Tryz.prog W = .ok (.enter 222 args) W := by kernel_rfl
theorem clos5_b (W : World) : Calls Tryz.prog 222 #[.int .u8 98] W fun e w' => e = .returned (.func (.func 209) #[] #[]) ∧ W = w' := by
  go_enter Tryz.func222, Tryz.ntmps222
  go_wp2
  go_ret
  exact ⟨rfl, rfl⟩
theorem clos5_t (W : World) : Calls Tryz.prog 222 #[.int .u8 116] W fun e w' => e = .returned (.func (.func 210) #[] #[]) ∧ W = w' := by
  go_enter Tryz.func222, Tryz.ntmps222
  go_wp2
  go_ret
  exact ⟨rfl, rfl⟩
theorem clos5_no (c : Int) (W : World) (h0 : (c == 98) = false) (h1 : (c == 116) = false) : Calls Tryz.prog 222 #[.int .u8 c] W fun e w' => e = .returned .nilFunc ∧ W = w' := by
  go_enter Tryz.func222, Tryz.ntmps222
  go_wp2
  go_ret
  exact ⟨rfl, rfl⟩
theorem s5_b {ae : Addr} {S : Nat → Prop} {L D C : Nat} {s : ByteArray} {w0 : World} {cs : Array Value} {i : Nat} {w : World} (h : St ae S L D C s w0 cs i w) {r : List UInt8} (hl : s.data.toList.drop i = 98 :: 61 :: r) :
    Calls Tryz.prog 216 #[.pointer (some ⟨L, 0, none⟩)] w fun e w' => e = .returned (.tuple #[.func (.func 209) #[] #[], .nilIface]) ∧ St ae S L D C s w0 cs (i + 2) w' := by
  have H := Lib.hid (stage_ok h hl (by decide) call222 clos5_b)
  clear h hl
  go_enter Tryz.func216, Tryz.ntmps216
  go_wp2_with (go_at_call 127; refine H.out.mono ?_; rintro e w1 ⟨rfl, h1⟩; have H1 := Lib.hid h1; clear h1)
  go_ret2
  exact ⟨rfl, H1.out⟩
theorem s5_t {ae : Addr} {S : Nat → Prop} {L D C : Nat} {s : ByteArray} {w0 : World} {cs : Array Value} {i : Nat} {w : World} (h : St ae S L D C s w0 cs i w) {r : List UInt8} (hl : s.data.toList.drop i = 116 :: 61 :: r) :
    Calls Tryz.prog 216 #[.pointer (some ⟨L, 0, none⟩)] w fun e w' => e = .returned (.tuple #[.func (.func 210) #[] #[], .nilIface]) ∧ St ae S L D C s w0 cs (i + 2) w' := by
  have H := Lib.hid (stage_ok h hl (by decide) call222 clos5_t)
  clear h hl
  go_enter Tryz.func216, Tryz.ntmps216
  go_wp2_with (go_at_call 127; refine H.out.mono ?_; rintro e w1 ⟨rfl, h1⟩; have H1 := Lib.hid h1; clear h1)
  go_ret2
  exact ⟨rfl, H1.out⟩
theorem s5_no {ae : Addr} {S : Nat → Prop} {L D C : Nat} {s : ByteArray} {w0 : World} {cs : Array Value} {i : Nat} {w : World} (h : St ae S L D C s w0 cs i w) {c : UInt8} {r : List UInt8} (hl : s.data.toList.drop i = c :: 61 :: r) (hn : isNl c = false) (h0 : c ≠ 98) (h1 : c ≠ 116) :
    Calls Tryz.prog 216 #[.pointer (some ⟨L, 0, none⟩)] w fun e w' => ∃ v, e = .returned (.tuple #[.nilFunc, .iface 304 v]) ∧ St ae S L D C s w0 cs (i + 2) w' := by
  have H := Lib.hid (stage_bad h hl hn call222 (fun W => clos5_no _ W (ne_int h0 (by decide)) (ne_int h1 (by decide))))
  clear h hl hn h0 h1
  go_enter Tryz.func216, Tryz.ntmps216
  go_wp2_with (go_at_call 127; refine H.out.mono ?_; rintro e w1 ⟨v, rfl, h1⟩; have H1 := Lib.hid h1; clear h1)
  go_ret2
  exact ⟨_, rfl, H1.out⟩
theorem s5_end {ae : Addr} {S : Nat → Prop} {L D C : Nat} {s : ByteArray} {w0 : World} {cs : Array Value} {i : Nat} {w : World} (h : St ae S L D C s w0 cs i w) (hi : i = s.size) :
    Calls Tryz.prog 216 #[.pointer (some ⟨L, 0, none⟩)] w fun e w' => e = .returned (.tuple #[.nilFunc, .nilIface]) ∧ St ae S L D C s w0 cs i w' := by
  have H := Lib.hid (stage_end h hi (f := .func (.func 222) #[] #[]))
  clear h hi
  go_enter Tryz.func216, Tryz.ntmps216
  go_wp2_with (go_at_call 127; refine H.out.mono ?_; rintro e w1 ⟨rfl, h1⟩; have H1 := Lib.hid h1; clear h1)
  go_ret2
  exact ⟨rfl, H1.out⟩

theorem call220 (args : Array Value) (W : World) : (callFunc 220 args).run Tryz.prog W = .ok (.enter 220 args) W := by kernel_rfl
theorem clos6_p (W : World) : Calls Tryz.prog 220 #[.int .u8 112] W fun e w' => e = .returned (.func (.func 207) #[] #[]) ∧ W = w' := by
  go_enter Tryz.func220, Tryz.ntmps220
  go_wp2
  go_ret
  exact ⟨rfl, rfl⟩
theorem clos6_c (W : World) : Calls Tryz.prog 220 #[.int .u8 99] W fun e w' => e = .returned (.func (.func 208) #[] #[]) ∧ W = w' := by
  go_enter Tryz.func220, Tryz.ntmps220
  go_wp2
  go_ret
  exact ⟨rfl, rfl⟩
theorem clos6_b (W : World) : Calls Tryz.prog 220 #[.int .u8 98] W fun e w' => e = .returned (.func (.func 209) #[] #[]) ∧ W = w' := by
  go_enter Tryz.func220, Tryz.ntmps220
  go_wp2
  go_ret
  exact ⟨rfl, rfl⟩
theorem clos6_t (W : World) : Calls Tryz.prog 220 #[.int .u8 116] W fun e w' => e = .returned (.func (.func 210) #[] #[]) ∧ W = w' := by
  go_enter Tryz.func220, Tryz.ntmps220
  go_wp2
  go_ret
  exact ⟨rfl, rfl⟩
theorem clos6_no (c : Int) (W : World) (h0 : (c == 112) = false) (h1 : (c == 99) = false) (h2 : (c == 98) = false) (h3 : (c == 116) = false) : Calls Tryz.prog 220 #[.int .u8 c] W fun e w' => e = .returned .nilFunc ∧ W = w' := by
  go_enter Tryz.func220, Tryz.ntmps220
  go_wp2
  go_ret
  exact ⟨rfl, rfl⟩
theorem s6_p {ae : Addr} {S : Nat → Prop} {L D C : Nat} {s : ByteArray} {w0 : World} {cs : Array Value} {i : Nat} {w : World} (h : St ae S L D C s w0 cs i w) {r : List UInt8} (hl : s.data.toList.drop i = 112 :: 61 :: r) :
    Calls Tryz.prog 213 #[.pointer (some ⟨L, 0, none⟩)] w fun e w' => e = .returned (.tuple #[.func (.func 207) #[] #[], .nilIface]) ∧ St ae S L D C s w0 cs (i + 2) w' := by
  have H := Lib.hid (stage_ok h hl (by decide) call220 clos6_p)
  clear h hl
  go_enter Tryz.func213, Tryz.ntmps213
  go_wp2_with (go_at_call 127; refine H.out.mono ?_; rintro e w1 ⟨rfl, h1⟩; have H1 := Lib.hid h1; clear h1)
  go_ret2
  exact ⟨rfl, H1.out⟩
theorem s6_c {ae : Addr} {S : Nat → Prop} {L D C : Nat} {s : ByteArray} {w0 : World} {cs : Array Value} {i : Nat} {w : World} (h : St ae S L D C s w0 cs i w) {r : List UInt8} (hl : s.data.toList.drop i = 99 :: 61 :: r) :
    Calls Tryz.prog 213 #[.pointer (some ⟨L, 0, none⟩)] w fun e w' => e = .returned (.tuple #[.func (.func 208) #[] #[], .nilIface]) ∧ St ae S L D C s w0 cs (i + 2) w' := by
  have H := Lib.hid (stage_ok h hl (by decide) call220 clos6_c)
  clear h hl
  go_enter Tryz.func213, Tryz.ntmps213
  go_wp2_with (go_at_call 127; refine H.out.mono ?_; rintro e w1 ⟨rfl, h1⟩; have H1 := Lib.hid h1; clear h1)
  go_ret2
  exact ⟨rfl, H1.out⟩
theorem s6_b {ae : Addr} {S : Nat → Prop} {L D C : Nat} {s : ByteArray} {w0 : World} {cs : Array Value} {i : Nat} {w : World} (h : St ae S L D C s w0 cs i w) {r : List UInt8} (hl : s.data.toList.drop i = 98 :: 61 :: r) :
    Calls Tryz.prog 213 #[.pointer (some ⟨L, 0, none⟩)] w fun e w' => e = .returned (.tuple #[.func (.func 209) #[] #[], .nilIface]) ∧ St ae S L D C s w0 cs (i + 2) w' := by
  have H := Lib.hid (stage_ok h hl (by decide) call220 clos6_b)
  clear h hl
  go_enter Tryz.func213, Tryz.ntmps213
  go_wp2_with (go_at_call 127; refine H.out.mono ?_; rintro e w1 ⟨rfl, h1⟩; have H1 := Lib.hid h1; clear h1)
  go_ret2
  exact ⟨rfl, H1.out⟩
theorem s6_t {ae : Addr} {S : Nat → Prop} {L D C : Nat} {s : ByteArray} {w0 : World} {cs : Array Value} {i : Nat} {w : World} (h : St ae S L D C s w0 cs i w) {r : List UInt8} (hl : s.data.toList.drop i = 116 :: 61 :: r) :
    Calls Tryz.prog 213 #[.pointer (some ⟨L, 0, none⟩)] w fun e w' => e = .returned (.tuple #[.func (.func 210) #[] #[], .nilIface]) ∧ St ae S L D C s w0 cs (i + 2) w' := by
  have H := Lib.hid (stage_ok h hl (by decide) call220 clos6_t)
  clear h hl
  go_enter Tryz.func213, Tryz.ntmps213
  go_wp2_with (go_at_call 127; refine H.out.mono ?_; rintro e w1 ⟨rfl, h1⟩; have H1 := Lib.hid h1; clear h1)
  go_ret2
  exact ⟨rfl, H1.out⟩
theorem s6_no {ae : Addr} {S : Nat → Prop} {L D C : Nat} {s : ByteArray} {w0 : World} {cs : Array Value} {i : Nat} {w : World} (h : St ae S L D C s w0 cs i w) {c : UInt8} {r : List UInt8} (hl : s.data.toList.drop i = c :: 61 :: r) (hn : isNl c = false) (h0 : c ≠ 112) (h1 : c ≠ 99) (h2 : c ≠ 98) (h3 : c ≠ 116) :
    Calls Tryz.prog 213 #[.pointer (some ⟨L, 0, none⟩)] w fun e w' => ∃ v, e = .returned (.tuple #[.nilFunc, .iface 304 v]) ∧ St ae S L D C s w0 cs (i + 2) w' := by
  have H := Lib.hid (stage_bad h hl hn call220 (fun W => clos6_no _ W (ne_int h0 (by decide)) (ne_int h1 (by decide)) (ne_int h2 (by decide)) (ne_int h3 (by decide))))
  clear h hl hn h0 h1 h2 h3
  go_enter Tryz.func213, Tryz.ntmps213
  go_wp2_with (go_at_call 127; refine H.out.mono ?_; rintro e w1 ⟨v, rfl, h1⟩; have H1 := Lib.hid h1; clear h1)
  go_ret2
  exact ⟨_, rfl, H1.out⟩
theorem s6_end {ae : Addr} {S : Nat → Prop} {L D C : Nat} {s : ByteArray} {w0 : World} {cs : Array Value} {i : Nat} {w : World} (h : St ae S L D C s w0 cs i w) (hi : i = s.size) :
    Calls Tryz.prog 213 #[.pointer (some ⟨L, 0, none⟩)] w fun e w' => e = .returned (.tuple #[.nilFunc, .nilIface]) ∧ St ae S L D C s w0 cs i w' := by
  have H := Lib.hid (stage_end h hi (f := .func (.func 220) #[] #[]))
  clear h hi
  go_enter Tryz.func213, Tryz.ntmps213
  go_wp2_with (go_at_call 127; refine H.out.mono ?_; rintro e w1 ⟨rfl, h1⟩; have H1 := Lib.hid h1; clear h1)
  go_ret2
  exact ⟨rfl, H1.out⟩

theorem call218 (args : Array Value) (W : World) : (callFunc 218 args).run Tryz.prog W = .ok (.enter 218 args) W := by kernel_rfl
theorem clos7_u (W : World) : Calls Tryz.prog 218 #[.int .u8 117] W fun e w' => e = .returned (.func (.func 205) #[] #[]) ∧ W = w' := by
  go_enter Tryz.func218, Tryz.ntmps218
  go_wp2
  go_ret
  exact ⟨rfl, rfl⟩
theorem clos7_e (W : World) : Calls Tryz.prog 218 #[.int .u8 101] W fun e w' => e = .returned (.func (.func 206) #[] #[]) ∧ W = w' := by
  go_enter Tryz.func218, Tryz.ntmps218
  go_wp2
  go_ret
  exact ⟨rfl, rfl⟩
theorem clos7_p (W : World) : Calls Tryz.prog 218 #[.int .u8 112] W fun e w' => e = .returned (.func (.func 207) #[] #[]) ∧ W = w' := by
  go_enter Tryz.func218, Tryz.ntmps218
  go_wp2
  go_ret
  exact ⟨rfl, rfl⟩
theorem clos7_c (W : World) : Calls Tryz.prog 218 #[.int .u8 99] W fun e w' => e = .returned (.func (.func 208) #[] #[]) ∧ W = w' := by
  go_enter Tryz.func218, Tryz.ntmps218
  go_wp2
  go_ret
  exact ⟨rfl, rfl⟩
theorem clos7_b (W : World) : Calls Tryz.prog 218 #[.int .u8 98] W fun e w' => e = .returned (.func (.func 209) #[] #[]) ∧ W = w' := by
  go_enter Tryz.func218, Tryz.ntmps218
  go_wp2
  go_ret
  exact ⟨rfl, rfl⟩
theorem clos7_t (W : World) : Calls Tryz.prog 218 #[.int .u8 116] W fun e w' => e = .returned (.func (.func 210) #[] #[]) ∧ W = w' := by
  go_enter Tryz.func218, Tryz.ntmps218
  go_wp2
  go_ret
  exact ⟨rfl, rfl⟩
theorem clos7_no (c : Int) (W : World) (h0 : (c == 117) = false) (h1 : (c == 101) = false) (h2 : (c == 112) = false) (h3 : (c == 99) = false) (h4 : (c == 98) = false) (h5 : (c == 116) = false) : Calls Tryz.prog 218 #[.int .u8 c] W fun e w' => e = .returned .nilFunc ∧ W = w' := by
  go_enter Tryz.func218, Tryz.ntmps218
  go_wp2
  go_ret
  exact ⟨rfl, rfl⟩
theorem s7_u {ae : Addr} {S : Nat → Prop} {L D C : Nat} {s : ByteArray} {w0 : World} {cs : Array Value} {i : Nat} {w : World} (h : St ae S L D C s w0 cs i w) {r : List UInt8} (hl : s.data.toList.drop i = 117 :: 61 :: r) :
    Calls Tryz.prog 211 #[.pointer (some ⟨L, 0, none⟩)] w fun e w' => e = .returned (.tuple #[.func (.func 205) #[] #[], .nilIface]) ∧ St ae S L D C s w0 cs (i + 2) w' := by
  have H := Lib.hid (stage_ok h hl (by decide) call218 clos7_u)
  clear h hl
  go_enter Tryz.func211, Tryz.ntmps211
  go_wp2_with (go_at_call 127; refine H.out.mono ?_; rintro e w1 ⟨rfl, h1⟩; have H1 := Lib.hid h1; clear h1)
  go_ret2
  exact ⟨rfl, H1.out⟩
theorem s7_e {ae : Addr} {S : Nat → Prop} {L D C : Nat} {s : ByteArray} {w0 : World} {cs : Array Value} {i : Nat} {w : World} (h : St ae S L D C s w0 cs i w) {r : List UInt8} (hl : s.data.toList.drop i = 101 :: 61 :: r) :
    Calls Tryz.prog 211 #[.pointer (some ⟨L, 0, none⟩)] w fun e w' => e = .returned (.tuple #[.func (.func 206) #[] #[], .nilIface]) ∧ St ae S L D C s w0 cs (i + 2) w' := by
  have H := Lib.hid (stage_ok h hl (by decide) call218 clos7_e)
  clear h hl
  go_enter Tryz.func211, Tryz.ntmps211
  go_wp2_with (go_at_call 127; refine H.out.mono ?_; rintro e w1 ⟨rfl, h1⟩; have H1 := Lib.hid h1; clear h1)
  go_ret2
  exact ⟨rfl, H1.out⟩
theorem s7_p {ae : Addr} {S : Nat → Prop} {L D C : Nat} {s : ByteArray} {w0 : World} {cs : Array Value} {i : Nat} {w : World} (h : St ae S L D C s w0 cs i w) {r : List UInt8} (hl : s.data.toList.drop i = 112 :: 61 :: r) :
    Calls Tryz.prog 211 #[.pointer (some ⟨L, 0, none⟩)] w fun e w' => e = .returned (.tuple #[.func (.func 207) #[] #[], .nilIface]) ∧ St ae S L D C s w0 cs (i + 2) w' := by
  have H := Lib.hid (stage_ok h hl (by decide) call218 clos7_p)
  clear h hl
  go_enter Tryz.func211, Tryz.ntmps211
  go_wp2_with (go_at_call 127; refine H.out.mono ?_; rintro e w1 ⟨rfl, h1⟩; have H1 := Lib.hid h1; clear h1)
  go_ret2
  exact ⟨rfl, H1.out⟩
theorem s7_c {ae : Addr} {S : Nat → Prop} {L D C : Nat} {s : ByteArray} {w0 : World} {cs : Array Value} {i : Nat} {w : World} (h : St ae S L D C s w0 cs i w) {r : List UInt8} (hl : s.data.toList.drop i = 99 :: 61 :: r) :
    Calls Tryz.prog 211 #[.pointer (some ⟨L, 0, none⟩)] w fun e w' => e = .returned (.tuple #[.func (.func 208) #[] #[], .nilIface]) ∧ St ae S L D C s w0 cs (i + 2) w' := by
  have H := Lib.hid (stage_ok h hl (by decide) call218 clos7_c)
  clear h hl
  go_enter Tryz.func211, Tryz.ntmps211
  go_wp2_with (go_at_call 127; refine H.out.mono ?_; rintro e w1 ⟨rfl, h1⟩; have H1 := Lib.hid h1; clear h1)
  go_ret2
  exact ⟨rfl, H1.out⟩
theorem s7_b {ae : Addr} {S : Nat → Prop} {L D C : Nat} {s : ByteArray} {w0 : World} {cs : Array Value} {i : Nat} {w : World} (h : St ae S L D C s w0 cs i w) {r : List UInt8} (hl : s.data.toList.drop i = 98 :: 61 :: r) :
    Calls Tryz.prog 211 #[.pointer (some ⟨L, 0, none⟩)] w fun e w' => e = .returned (.tuple #[.func (.func 209) #[] #[], .nilIface]) ∧ St ae S L D C s w0 cs (i + 2) w' := by
  have H := Lib.hid (stage_ok h hl (by decide) call218 clos7_b)
  clear h hl
  go_enter Tryz.func211, Tryz.ntmps211
  go_wp2_with (go_at_call 127; refine H.out.mono ?_; rintro e w1 ⟨rfl, h1⟩; have H1 := Lib.hid h1; clear h1)
  go_ret2
  exact ⟨rfl, H1.out⟩
theorem s7_t {ae : Addr} {S : Nat → Prop} {L D C : Nat} {s : ByteArray} {w0 : World} {cs : Array Value} {i : Nat} {w : World} (h : St ae S L D C s w0 cs i w) {r : List UInt8} (hl : s.data.toList.drop i = 116 :: 61 :: r) :
    Calls Tryz.prog 211 #[.pointer (some ⟨L, 0, none⟩)] w fun e w' => e = .returned (.tuple #[.func (.func 210) #[] #[], .nilIface]) ∧ St ae S L D C s w0 cs (i + 2) w' := by
  have H := Lib.hid (stage_ok h hl (by decide) call218 clos7_t)
  clear h hl
  go_enter Tryz.func211, Tryz.ntmps211
  go_wp2_with (go_at_call 127; refine H.out.mono ?_; rintro e w1 ⟨rfl, h1⟩; have H1 := Lib.hid h1; clear h1)
  go_ret2
  exact ⟨rfl, H1.out⟩
theorem s7_no {ae : Addr} {S : Nat → Prop} {L D C : Nat} {s : ByteArray} {w0 : World} {cs : Array Value} {i : Nat} {w : World} (h : St ae S L D C s w0 cs i w) {c : UInt8} {r : List UInt8} (hl : s.data.toList.drop i = c :: 61 :: r) (hn : isNl c = false) (h0 : c ≠ 117) (h1 : c ≠ 101) (h2 : c ≠ 112) (h3 : c ≠ 99) (h4 : c ≠ 98) (h5 : c ≠ 116) :
    Calls Tryz.prog 211 #[.pointer (some ⟨L, 0, none⟩)] w fun e w' => ∃ v, e = .returned (.tuple #[.nilFunc, .iface 304 v]) ∧ St ae S L D C s w0 cs (i + 2) w' := by
  have H := Lib.hid (stage_bad h hl hn call218 (fun W => clos7_no _ W (ne_int h0 (by decide)) (ne_int h1 (by decide)) (ne_int h2 (by decide)) (ne_int h3 (by decide)) (ne_int h4 (by decide)) (ne_int h5 (by decide))))
  clear h hl hn h0 h1 h2 h3 h4 h5
  go_enter Tryz.func211, Tryz.ntmps211
  go_wp2_with (go_at_call 127; refine H.out.mono ?_; rintro e w1 ⟨v, rfl, h1⟩; have H1 := Lib.hid h1; clear h1)
  go_ret2
  exact ⟨_, rfl, H1.out⟩
theorem s7_end {ae : Addr} {S : Nat → Prop} {L D C : Nat} {s : ByteArray} {w0 : World} {cs : Array Value} {i : Nat} {w : World} (h : St ae S L D C s w0 cs i w) (hi : i = s.size) :
    Calls Tryz.prog 211 #[.pointer (some ⟨L, 0, none⟩)] w fun e w' => e = .returned (.tuple #[.nilFunc, .nilIface]) ∧ St ae S L D C s w0 cs i w' := by
  have H := Lib.hid (stage_end h hi (f := .func (.func 218) #[] #[]))
  clear h hi
  go_enter Tryz.func211, Tryz.ntmps211
  go_wp2_with (go_at_call 127; refine H.out.mono ?_; rintro e w1 ⟨rfl, h1⟩; have H1 := Lib.hid h1; clear h1)
  go_ret2
  exact ⟨rfl, H1.out⟩

theorem call221 (args : Array Value) (W : World) : (callFunc 221 args).run Tryz.prog W = .ok (.enter 221 args) W := by kernel_rfl
theorem clos8_c (W : World) : Calls Tryz.prog 221 #[.int .u8 99] W fun e w' => e = .returned (.func (.func 208) #[] #[]) ∧ W = w' := by
  go_enter Tryz.func221, Tryz.ntmps221
  go_wp2
  go_ret
  exact ⟨rfl, rfl⟩
theorem clos8_b (W : World) : Calls Tryz.prog 221 #[.int .u8 98] W fun e w' => e = .returned (.func (.func 209) #[] #[]) ∧ W = w' := by
  go_enter Tryz.func221, Tryz.ntmps221
  go_wp2
  go_ret
  exact ⟨rfl, rfl⟩
theorem clos8_t (W : World) : Calls Tryz.prog 221 #[.int .u8 116] W fun e w' => e = .returned (.func (.func 210) #[] #[]) ∧ W = w' := by
  go_enter Tryz.func221, Tryz.ntmps221
  go_wp2
  go_ret
  exact ⟨rfl, rfl⟩
theorem clos8_no (c : Int) (W : World) (h0 : (c == 99) = false) (h1 : (c == 98) = false) (h2 : (c == 116) = false) : Calls Tryz.prog 221 #[.int .u8 c] W fun e w' => e = .returned .nilFunc ∧ W = w' := by
  go_enter Tryz.func221, Tryz.ntmps221
  go_wp2
  go_ret
  exact ⟨rfl, rfl⟩
theorem s8_c {ae : Addr} {S : Nat → Prop} {L D C : Nat} {s : ByteArray} {w0 : World} {cs : Array Value} {i : Nat} {w : World} (h : St ae S L D C s w0 cs i w) {r : List UInt8} (hl : s.data.toList.drop i = 99 :: 61 :: r) :
    Calls Tryz.prog 214 #[.pointer (some ⟨L, 0, none⟩)] w fun e w' => e = .returned (.tuple #[.func (.func 208) #[] #[], .nilIface]) ∧ St ae S L D C s w0 cs (i + 2) w' := by
  have H := Lib.hid (stage_ok h hl (by decide) call221 clos8_c)
  clear h hl
  go_enter Tryz.func214, Tryz.ntmps214
  go_wp2_with (go_at_call 127; refine H.out.mono ?_; rintro e w1 ⟨rfl, h1⟩; have H1 := Lib.hid h1; clear h1)
  go_ret2
  exact ⟨rfl, H1.out⟩
theorem s8_b {ae : Addr} {S : Nat → Prop} {L D C : Nat} {s : ByteArray} {w0 : World} {cs : Array Value} {i : Nat} {w : World} (h : St ae S L D C s w0 cs i w) {r : List UInt8} (hl : s.data.toList.drop i = 98 :: 61 :: r) :
    Calls Tryz.prog 214 #[.pointer (some ⟨L, 0, none⟩)] w fun e w' => e = .returned (.tuple #[.func (.func 209) #[] #[], .nilIface]) ∧ St ae S L D C s w0 cs (i + 2) w' := by
  have H := Lib.hid (stage_ok h hl (by decide) call221 clos8_b)
  clear h hl
  go_enter Tryz.func214, Tryz.ntmps214
  go_wp2_with (go_at_call 127; refine H.out.mono ?_; rintro e w1 ⟨rfl, h1⟩; have H1 := Lib.hid h1; clear h1)
  go_ret2
  exact ⟨rfl, H1.out⟩
theorem s8_t {ae : Addr} {S : Nat → Prop} {L D C : Nat} {s : ByteArray} {w0 : World} {cs : Array Value} {i : Nat} {w : World} (h : St ae S L D C s w0 cs i w) {r : List UInt8} (hl : s.data.toList.drop i = 116 :: 61 :: r) :
    Calls Tryz.prog 214 #[.pointer (some ⟨L, 0, none⟩)] w fun e w' => e = .returned (.tuple #[.func (.func 210) #[] #[], .nilIface]) ∧ St ae S L D C s w0 cs (i + 2) w' := by
  have H := Lib.hid (stage_ok h hl (by decide) call221 clos8_t)
  clear h hl
  go_enter Tryz.func214, Tryz.ntmps214
  go_wp2_with (go_at_call 127; refine H.out.mono ?_; rintro e w1 ⟨rfl, h1⟩; have H1 := Lib.hid h1; clear h1)
  go_ret2
  exact ⟨rfl, H1.out⟩
theorem s8_no {ae : Addr} {S : Nat → Prop} {L D C : Nat} {s : ByteArray} {w0 : World} {cs : Array Value} {i : Nat} {w : World} (h : St ae S L D C s w0 cs i w) {c : UInt8} {r : List UInt8} (hl : s.data.toList.drop i = c :: 61 :: r) (hn : isNl c = false) (h0 : c ≠ 99) (h1 : c ≠ 98) (h2 : c ≠ 116) :
    Calls Tryz.prog 214 #[.pointer (some ⟨L, 0, none⟩)] w fun e w' => ∃ v, e = .returned (.tuple #[.nilFunc, .iface 304 v]) ∧ St ae S L D C s w0 cs (i + 2) w' := by
  have H := Lib.hid (stage_bad h hl hn call221 (fun W => clos8_no _ W (ne_int h0 (by decide)) (ne_int h1 (by decide)) (ne_int h2 (by decide))))
  clear h hl hn h0 h1 h2
  go_enter Tryz.func214, Tryz.ntmps214
  go_wp2_with (go_at_call 127; refine H.out.mono ?_; rintro e w1 ⟨v, rfl, h1⟩; have H1 := Lib.hid h1; clear h1)
  go_ret2
  exact ⟨_, rfl, H1.out⟩
theorem s8_end {ae : Addr} {S : Nat → Prop} {L D C : Nat} {s : ByteArray} {w0 : World} {cs : Array Value} {i : Nat} {w : World} (h : St ae S L D C s w0 cs i w) (hi : i = s.size) :
    Calls Tryz.prog 214 #[.pointer (some ⟨L, 0, none⟩)] w fun e w' => e = .returned (.tuple #[.nilFunc, .nilIface]) ∧ St ae S L D C s w0 cs i w' := by
  have H := Lib.hid (stage_end h hi (f := .func (.func 221) #[] #[]))
  clear h hi
  go_enter Tryz.func214, Tryz.ntmps214
  go_wp2_with (go_at_call 127; refine H.out.mono ?_; rintro e w1 ⟨rfl, h1⟩; have H1 := Lib.hid h1; clear h1)
  go_ret2
  exact ⟨rfl, H1.out⟩

theorem call219 (args : Array Value) (W : World) : (callFunc 219 args).run Tryz.prog W = .ok (.enter 219 args) W := by kernel_rfl
theorem clos10_e (W : World) : Calls Tryz.prog 219 #[.int .u8 101] W fun e w' => e = .returned (.func (.func 206) #[] #[]) ∧ W = w' := by
  go_enter Tryz.func219, Tryz.ntmps219
  go_wp2
  go_ret
  exact ⟨rfl, rfl⟩
theorem clos10_p (W : World) : Calls Tryz.prog 219 #[.int .u8 112] W fun e w' => e = .returned (.func (.func 207) #[] #[]) ∧ W = w' := by
  go_enter Tryz.func219, Tryz.ntmps219
  go_wp2
  go_ret
  exact ⟨rfl, rfl⟩
theorem clos10_c (W : World) : Calls Tryz.prog 219 #[.int .u8 99] W fun e w' => e = .returned (.func (.func 208) #[] #[]) ∧ W = w' := by
  go_enter Tryz.func219, Tryz.ntmps219
  go_wp2
  go_ret
  exact ⟨rfl, rfl⟩
theorem clos10_b (W : World) : Calls Tryz.prog 219 #[.int .u8 98] W fun e w' => e = .returned (.func (.func 209) #[] #[]) ∧ W = w' := by
  go_enter Tryz.func219, Tryz.ntmps219
  go_wp2
  go_ret
  exact ⟨rfl, rfl⟩
theorem clos10_t (W : World) : Calls Tryz.prog 219 #[.int .u8 116] W fun e w' => e = .returned (.func (.func 210) #[] #[]) ∧ W = w' := by
  go_enter Tryz.func219, Tryz.ntmps219
  go_wp2
  go_ret
  exact ⟨rfl, rfl⟩
theorem clos10_no (c : Int) (W : World) (h0 : (c == 101) = false) (h1 : (c == 112) = false) (h2 : (c == 99) = false) (h3 : (c == 98) = false) (h4 : (c == 116) = false) : Calls Tryz.prog 219 #[.int .u8 c] W fun e w' => e = .returned .nilFunc ∧ W = w' := by
  go_enter Tryz.func219, Tryz.ntmps219
  go_wp2
  go_ret
  exact ⟨rfl, rfl⟩
theorem s10_e {ae : Addr} {S : Nat → Prop} {L D C : Nat} {s : ByteArray} {w0 : World} {cs : Array Value} {i : Nat} {w : World} (h : St ae S L D C s w0 cs i w) {r : List UInt8} (hl : s.data.toList.drop i = 101 :: 61 :: r) :
    Calls Tryz.prog 212 #[.pointer (some ⟨L, 0, none⟩)] w fun e w' => e = .returned (.tuple #[.func (.func 206) #[] #[], .nilIface]) ∧ St ae S L D C s w0 cs (i + 2) w' := by
  have H := Lib.hid (stage_ok h hl (by decide) call219 clos10_e)
  clear h hl
  go_enter Tryz.func212, Tryz.ntmps212
  go_wp2_with (go_at_call 127; refine H.out.mono ?_; rintro e w1 ⟨rfl, h1⟩; have H1 := Lib.hid h1; clear h1)
  go_ret2
  exact ⟨rfl, H1.out⟩
theorem s10_p {ae : Addr} {S : Nat → Prop} {L D C : Nat} {s : ByteArray} {w0 : World} {cs : Array Value} {i : Nat} {w : World} (h : St ae S L D C s w0 cs i w) {r : List UInt8} (hl : s.data.toList.drop i = 112 :: 61 :: r) :
    Calls Tryz.prog 212 #[.pointer (some ⟨L, 0, none⟩)] w fun e w' => e = .returned (.tuple #[.func (.func 207) #[] #[], .nilIface]) ∧ St ae S L D C s w0 cs (i + 2) w' := by
  have H := Lib.hid (stage_ok h hl (by decide) call219 clos10_p)
  clear h hl
  go_enter Tryz.func212, Tryz.ntmps212
  go_wp2_with (go_at_call 127; refine H.out.mono ?_; rintro e w1 ⟨rfl, h1⟩; have H1 := Lib.hid h1; clear h1)
  go_ret2
  exact ⟨rfl, H1.out⟩
theorem s10_c {ae : Addr} {S : Nat → Prop} {L D C : Nat} {s : ByteArray} {w0 : World} {cs : Array Value} {i : Nat} {w : World} (h : St ae S L D C s w0 cs i w) {r : List UInt8} (hl : s.data.toList.drop i = 99 :: 61 :: r) :
    Calls Tryz.prog 212 #[.pointer (some ⟨L, 0, none⟩)] w fun e w' => e = .returned (.tuple #[.func (.func 208) #[] #[], .nilIface]) ∧ St ae S L D C s w0 cs (i + 2) w' := by
  have H := Lib.hid (stage_ok h hl (by decide) call219 clos10_c)
  clear h hl
  go_enter Tryz.func212, Tryz.ntmps212
  go_wp2_with (go_at_call 127; refine H.out.mono ?_; rintro e w1 ⟨rfl, h1⟩; have H1 := Lib.hid h1; clear h1)
  go_ret2
  exact ⟨rfl, H1.out⟩
theorem s10_b {ae : Addr} {S : Nat → Prop} {L D C : Nat} {s : ByteArray} {w0 : World} {cs : Array Value} {i : Nat} {w : World} (h : St ae S L D C s w0 cs i w) {r : List UInt8} (hl : s.data.toList.drop i = 98 :: 61 :: r) :
    Calls Tryz.prog 212 #[.pointer (some ⟨L, 0, none⟩)] w fun e w' => e = .returned (.tuple #[.func (.func 209) #[] #[], .nilIface]) ∧ St ae S L D C s w0 cs (i + 2) w' := by
  have H := Lib.hid (stage_ok h hl (by decide) call219 clos10_b)
  clear h hl
  go_enter Tryz.func212, Tryz.ntmps212
  go_wp2_with (go_at_call 127; refine H.out.mono ?_; rintro e w1 ⟨rfl, h1⟩; have H1 := Lib.hid h1; clear h1)
  go_ret2
  exact ⟨rfl, H1.out⟩
theorem s10_t {ae : Addr} {S : Nat → Prop} {L D C : Nat} {s : ByteArray} {w0 : World} {cs : Array Value} {i : Nat} {w : World} (h : St ae S L D C s w0 cs i w) {r : List UInt8} (hl : s.data.toList.drop i = 116 :: 61 :: r) :
    Calls Tryz.prog 212 #[.pointer (some ⟨L, 0, none⟩)] w fun e w' => e = .returned (.tuple #[.func (.func 210) #[] #[], .nilIface]) ∧ St ae S L D C s w0 cs (i + 2) w' := by
  have H := Lib.hid (stage_ok h hl (by decide) call219 clos10_t)
  clear h hl
  go_enter Tryz.func212, Tryz.ntmps212
  go_wp2_with (go_at_call 127; refine H.out.mono ?_; rintro e w1 ⟨rfl, h1⟩; have H1 := Lib.hid h1; clear h1)
  go_ret2
  exact ⟨rfl, H1.out⟩
theorem s10_no {ae : Addr} {S : Nat → Prop} {L D C : Nat} {s : ByteArray} {w0 : World} {cs : Array Value} {i : Nat} {w : World} (h : St ae S L D C s w0 cs i w) {c : UInt8} {r : List UInt8} (hl : s.data.toList.drop i = c :: 61 :: r) (hn : isNl c = false) (h0 : c ≠ 101) (h1 : c ≠ 112) (h2 : c ≠ 99) (h3 : c ≠ 98) (h4 : c ≠ 116) :
    Calls Tryz.prog 212 #[.pointer (some ⟨L, 0, none⟩)] w fun e w' => ∃ v, e = .returned (.tuple #[.nilFunc, .iface 304 v]) ∧ St ae S L D C s w0 cs (i + 2) w' := by
  have H := Lib.hid (stage_bad h hl hn call219 (fun W => clos10_no _ W (ne_int h0 (by decide)) (ne_int h1 (by decide)) (ne_int h2 (by decide)) (ne_int h3 (by decide)) (ne_int h4 (by decide))))
  clear h hl hn h0 h1 h2 h3 h4
  go_enter Tryz.func212, Tryz.ntmps212
  go_wp2_with (go_at_call 127; refine H.out.mono ?_; rintro e w1 ⟨v, rfl, h1⟩; have H1 := Lib.hid h1; clear h1)
  go_ret2
  exact ⟨_, rfl, H1.out⟩
theorem s10_end {ae : Addr} {S : Nat → Prop} {L D C : Nat} {s : ByteArray} {w0 : World} {cs : Array Value} {i : Nat} {w : World} (h : St ae S L D C s w0 cs i w) (hi : i = s.size) :
    Calls Tryz.prog 212 #[.pointer (some ⟨L, 0, none⟩)] w fun e w' => e = .returned (.tuple #[.nilFunc, .nilIface]) ∧ St ae S L D C s w0 cs i w' := by
  have H := Lib.hid (stage_end h hi (f := .func (.func 219) #[] #[]))
  clear h hi
  go_enter Tryz.func212, Tryz.ntmps212
  go_wp2_with (go_at_call 127; refine H.out.mono ?_; rintro e w1 ⟨rfl, h1⟩; have H1 := Lib.hid h1; clear h1)
  go_ret2
  exact ⟨rfl, H1.out⟩

theorem call235 (args : Array Value) (W : World) : (callFunc 235 args).run Tryz.prog W = .ok (.enter 235 args) W := by kernel_rfl
theorem clos11_a (W : World) : Calls Tryz.prog 235 #[.int .u8 97] W fun e w' => e = .returned (.func (.func 226) #[] #[]) ∧ W = w' := by
  go_enter Tryz.func235, Tryz.ntmps235
  go_wp2
  go_ret
  exact ⟨rfl, rfl⟩
theorem clos11_m (W : World) : Calls Tryz.prog 235 #[.int .u8 109] W fun e w' => e = .returned (.func (.func 228) #[] #[]) ∧ W = w' := by
  go_enter Tryz.func235, Tryz.ntmps235
  go_wp2
  go_ret
  exact ⟨rfl, rfl⟩
theorem clos11_no (c : Int) (W : World) (h0 : (c == 97) = false) (h1 : (c == 109) = false) : Calls Tryz.prog 235 #[.int .u8 c] W fun e w' => e = .returned .nilFunc ∧ W = w' := by
  go_enter Tryz.func235, Tryz.ntmps235
  go_wp2
  go_ret
  exact ⟨rfl, rfl⟩
theorem s11_a {ae : Addr} {S : Nat → Prop} {L D C : Nat} {s : ByteArray} {w0 : World} {cs : Array Value} {i : Nat} {w : World} (h : St ae S L D C s w0 cs i w) {r : List UInt8} (hl : s.data.toList.drop i = 97 :: 61 :: r) :
    Calls Tryz.prog 230 #[.pointer (some ⟨L, 0, none⟩)] w fun e w' => e = .returned (.tuple #[.func (.func 226) #[] #[], .nilIface]) ∧ St ae S L D C s w0 cs (i + 2) w' := by
  have H := Lib.hid (stage_ok h hl (by decide) call235 clos11_a)
  clear h hl
  go_enter Tryz.func230, Tryz.ntmps230
  go_wp2_with (go_at_call 127; refine H.out.mono ?_; rintro e w1 ⟨rfl, h1⟩; have H1 := Lib.hid h1; clear h1)
  go_ret2
  exact ⟨rfl, H1.out⟩
theorem s11_m {ae : Addr} {S : Nat → Prop} {L D C : Nat} {s : ByteArray} {w0 : World} {cs : Array Value} {i : Nat} {w : World} (h : St ae S L D C s w0 cs i w) {r : List UInt8} (hl : s.data.toList.drop i = 109 :: 61 :: r) :
    Calls Tryz.prog 230 #[.pointer (some ⟨L, 0, none⟩)] w fun e w' => e = .returned (.tuple #[.func (.func 228) #[] #[], .nilIface]) ∧ St ae S L D C s w0 cs (i + 2) w' := by
  have H := Lib.hid (stage_ok h hl (by decide) call235 clos11_m)
  clear h hl
  go_enter Tryz.func230, Tryz.ntmps230
  go_wp2_with (go_at_call 127; refine H.out.mono ?_; rintro e w1 ⟨rfl, h1⟩; have H1 := Lib.hid h1; clear h1)
  go_ret2
  exact ⟨rfl, H1.out⟩
theorem s11_no {ae : Addr} {S : Nat → Prop} {L D C : Nat} {s : ByteArray} {w0 : World} {cs : Array Value} {i : Nat} {w : World} (h : St ae S L D C s w0 cs i w) {c : UInt8} {r : List UInt8} (hl : s.data.toList.drop i = c :: 61 :: r) (hn : isNl c = false) (h0 : c ≠ 97) (h1 : c ≠ 109) :
    Calls Tryz.prog 230 #[.pointer (some ⟨L, 0, none⟩)] w fun e w' => ∃ v, e = .returned (.tuple #[.nilFunc, .iface 304 v]) ∧ St ae S L D C s w0 cs (i + 2) w' := by
  have H := Lib.hid (stage_bad h hl hn call235 (fun W => clos11_no _ W (ne_int h0 (by decide)) (ne_int h1 (by decide))))
  clear h hl hn h0 h1
  go_enter Tryz.func230, Tryz.ntmps230
  go_wp2_with (go_at_call 127; refine H.out.mono ?_; rintro e w1 ⟨v, rfl, h1⟩; have H1 := Lib.hid h1; clear h1)
  go_ret2
  exact ⟨_, rfl, H1.out⟩
theorem s11_end {ae : Addr} {S : Nat → Prop} {L D C : Nat} {s : ByteArray} {w0 : World} {cs : Array Value} {i : Nat} {w : World} (h : St ae S L D C s w0 cs i w) (hi : i = s.size) :
    Calls Tryz.prog 230 #[.pointer (some ⟨L, 0, none⟩)] w fun e w' => e = .returned (.tuple #[.nilFunc, .nilIface]) ∧ St ae S L D C s w0 cs i w' := by
  have H := Lib.hid (stage_end h hi (f := .func (.func 235) #[] #[]))
  clear h hi
  go_enter Tryz.func230, Tryz.ntmps230
  go_wp2_with (go_at_call 127; refine H.out.mono ?_; rintro e w1 ⟨rfl, h1⟩; have H1 := Lib.hid h1; clear h1)
  go_ret2
  exact ⟨rfl, H1.out⟩

theorem call234 (args : Array Value) (W : World) : (callFunc 234 args).run Tryz.prog W = .ok (.enter 234 args) W := by kernel_rfl
theorem clos13_a (W : World) : Calls Tryz.prog 234 #[.int .u8 97] W fun e w' => e = .returned (.func (.func 226) #[] #[]) ∧ W = w' := by
  go_enter Tryz.func234, Tryz.ntmps234
  go_wp2
  go_ret
  exact ⟨rfl, rfl⟩
theorem clos13_k (W : World) : Calls Tryz.prog 234 #[.int .u8 107] W fun e w' => e = .returned (.func (.func 225) #[] #[]) ∧ W = w' := by
  go_enter Tryz.func234, Tryz.ntmps234
  go_wp2
  go_ret
  exact ⟨rfl, rfl⟩
theorem clos13_m (W : World) : Calls Tryz.prog 234 #[.int .u8 109] W fun e w' => e = .returned (.func (.func 228) #[] #[]) ∧ W = w' := by
  go_enter Tryz.func234, Tryz.ntmps234
  go_wp2
  go_ret
  exact ⟨rfl, rfl⟩
theorem clos13_no (c : Int) (W : World) (h0 : (c == 97) = false) (h1 : (c == 107) = false) (h2 : (c == 109) = false) : Calls Tryz.prog 234 #[.int .u8 c] W fun e w' => e = .returned .nilFunc ∧ W = w' := by
  go_enter Tryz.func234, Tryz.ntmps234
  go_wp2
  go_ret
  exact ⟨rfl, rfl⟩
theorem s13_a {ae : Addr} {S : Nat → Prop} {L D C : Nat} {s : ByteArray} {w0 : World} {cs : Array Value} {i : Nat} {w : World} (h : St ae S L D C s w0 cs i w) {r : List UInt8} (hl : s.data.toList.drop i = 97 :: 61 :: r) :
    Calls Tryz.prog 229 #[.pointer (some ⟨L, 0, none⟩)] w fun e w' => e = .returned (.tuple #[.func (.func 226) #[] #[], .nilIface]) ∧ St ae S L D C s w0 cs (i + 2) w' := by
  have H := Lib.hid (stage_ok h hl (by decide) call234 clos13_a)
  clear h hl
  go_enter Tryz.func229, Tryz.ntmps229
  go_wp2_with (go_at_call 127; refine H.out.mono ?_; rintro e w1 ⟨rfl, h1⟩; have H1 := Lib.hid h1; clear h1)
  go_ret2
  exact ⟨rfl, H1.out⟩
theorem s13_k {ae : Addr} {S : Nat → Prop} {L D C : Nat} {s : ByteArray} {w0 : World} {cs : Array Value} {i : Nat} {w : World} (h : St ae S L D C s w0 cs i w) {r : List UInt8} (hl : s.data.toList.drop i = 107 :: 61 :: r) :
    Calls Tryz.prog 229 #[.pointer (some ⟨L, 0, none⟩)] w fun e w' => e = .returned (.tuple #[.func (.func 225) #[] #[], .nilIface]) ∧ St ae S L D C s w0 cs (i + 2) w' := by
  have H := Lib.hid (stage_ok h hl (by decide) call234 clos13_k)
  clear h hl
  go_enter Tryz.func229, Tryz.ntmps229
  go_wp2_with (go_at_call 127; refine H.out.mono ?_; rintro e w1 ⟨rfl, h1⟩; have H1 := Lib.hid h1; clear h1)
  go_ret2
  exact ⟨rfl, H1.out⟩
theorem s13_m {ae : Addr} {S : Nat → Prop} {L D C : Nat} {s : ByteArray} {w0 : World} {cs : Array Value} {i : Nat} {w : World} (h : St ae S L D C s w0 cs i w) {r : List UInt8} (hl : s.data.toList.drop i = 109 :: 61 :: r) :
    Calls Tryz.prog 229 #[.pointer (some ⟨L, 0, none⟩)] w fun e w' => e = .returned (.tuple #[.func (.func 228) #[] #[], .nilIface]) ∧ St ae S L D C s w0 cs (i + 2) w' := by
  have H := Lib.hid (stage_ok h hl (by decide) call234 clos13_m)
  clear h hl
  go_enter Tryz.func229, Tryz.ntmps229
  go_wp2_with (go_at_call 127; refine H.out.mono ?_; rintro e w1 ⟨rfl, h1⟩; have H1 := Lib.hid h1; clear h1)
  go_ret2
  exact ⟨rfl, H1.out⟩
theorem s13_no {ae : Addr} {S : Nat → Prop} {L D C : Nat} {s : ByteArray} {w0 : World} {cs : Array Value} {i : Nat} {w : World} (h : St ae S L D C s w0 cs i w) {c : UInt8} {r : List UInt8} (hl : s.data.toList.drop i = c :: 61 :: r) (hn : isNl c = false) (h0 : c ≠ 97) (h1 : c ≠ 107) (h2 : c ≠ 109) :
    Calls Tryz.prog 229 #[.pointer (some ⟨L, 0, none⟩)] w fun e w' => ∃ v, e = .returned (.tuple #[.nilFunc, .iface 304 v]) ∧ St ae S L D C s w0 cs (i + 2) w' := by
  have H := Lib.hid (stage_bad h hl hn call234 (fun W => clos13_no _ W (ne_int h0 (by decide)) (ne_int h1 (by decide)) (ne_int h2 (by decide))))
  clear h hl hn h0 h1 h2
  go_enter Tryz.func229, Tryz.ntmps229
  go_wp2_with (go_at_call 127; refine H.out.mono ?_; rintro e w1 ⟨v, rfl, h1⟩; have H1 := Lib.hid h1; clear h1)
  go_ret2
  exact ⟨_, rfl, H1.out⟩
theorem s13_end {ae : Addr} {S : Nat → Prop} {L D C : Nat} {s : ByteArray} {w0 : World} {cs : Array Value} {i : Nat} {w : World} (h : St ae S L D C s w0 cs i w) (hi : i = s.size) :
    Calls Tryz.prog 229 #[.pointer (some ⟨L, 0, none⟩)] w fun e w' => e = .returned (.tuple #[.nilFunc, .nilIface]) ∧ St ae S L D C s w0 cs i w' := by
  have H := Lib.hid (stage_end h hi (f := .func (.func 234) #[] #[]))
  clear h hi
  go_enter Tryz.func229, Tryz.ntmps229
  go_wp2_with (go_at_call 127; refine H.out.mono ?_; rintro e w1 ⟨rfl, h1⟩; have H1 := Lib.hid h1; clear h1)
  go_ret2
  exact ⟨rfl, H1.out⟩
end Go.Proofs.YtimonhimfioohaaGreatDoor
