/- The states 1 to 4 and 9 of the parse (package sdp). -/
import Derived.Test.YtimonhimfioohaaGreatDoorDesc
namespace Go.Proofs.YtimonhimfioohaaGreatDoor
open Go.RowKit

theorem ne_int {c d : UInt8} (h : c ≠ d) {n : Int} (hn : ((d.toNat : Nat) : Int) = n) : (((c.toNat : Nat) : Int) == n) = false := by
  rw [beq_eq_false_iff_ne, ← hn]
  intro e
  exact h (UInt8.toNat_inj.1 (Int.ofNat_inj.1 e))

section
variable {ae : Addr} {S : Nat → Prop} {L D C : Nat} {s : ByteArray} {w0 : World} {cs : Array Value} {i : Nat} {w : World}
theorem two_of_drop {c d : UInt8} {r : List UInt8} (hi : i ≤ s.size) (hl : s.data.toList.drop i = c :: d :: r) : ∃ h : i + 1 < s.size, s[i] = c ∧ s[i + 1] = d := by
  have h1 := drop_len hl (n := 2) (by simp) hi
  refine ⟨by omega, ?_, ?_⟩
  · have := drop_cons (s := s) (i := i) (by omega)
    rw [hl] at this
    exact (List.cons.inj this).1.symm
  · have := drop_cons (s := s) (i := i + 1) (by omega)
    rw [step_drop hl (n := 1) rfl] at this
    exact (List.cons.inj this).1.symm
theorem stage_ok {c : UInt8} {r : List UInt8} {K G : Nat} (h : St ae S L D C s w0 cs i w) (hl : s.data.toList.drop i = c :: 61 :: r) (hn : isNl c = false)
    (hcall : ∀ (args : Array Value) (W : World), (callFunc K args).run Tryz.prog W = .ok (.enter K args) W)
    (hC : ∀ W : World, Calls Tryz.prog K #[.int .u8 c.toNat] W fun e w' => e = .returned (.func (.func G) #[] #[]) ∧ W = w') :
    Calls Tryz.prog 127 #[.pointer (some ⟨L, 0, none⟩), .func (.func K) #[] #[]] w fun e w' => e = .returned (.tuple #[.func (.func G) #[] #[], .nilIface]) ∧ St ae S L D C s w0 cs (i + 2) w' := by
  obtain ⟨h1, h2, h3⟩ := two_of_drop h.le hl
  exact (handle_ok h.lx h1 (by rw [h2]; exact hn) h3 hcall (by rw [h2]; exact hC)).mono fun e w' ⟨he, hm⟩ => ⟨he, h.mv hm (by omega)⟩
theorem stage_bad {c : UInt8} {r : List UInt8} {K : Nat} (h : St ae S L D C s w0 cs i w) (hl : s.data.toList.drop i = c :: 61 :: r) (hn : isNl c = false)
    (hcall : ∀ (args : Array Value) (W : World), (callFunc K args).run Tryz.prog W = .ok (.enter K args) W)
    (hC : ∀ W : World, Calls Tryz.prog K #[.int .u8 c.toNat] W fun e w' => e = .returned .nilFunc ∧ W = w') :
    Calls Tryz.prog 127 #[.pointer (some ⟨L, 0, none⟩), .func (.func K) #[] #[]] w fun e w' => ∃ v, e = .returned (.tuple #[.nilFunc, .iface 304 v]) ∧ St ae S L D C s w0 cs (i + 2) w' := by
  obtain ⟨h1, h2, h3⟩ := two_of_drop h.le hl
  exact (handle_bad h.lx h1 (by rw [h2]; exact hn) h3 hcall (by rw [h2]; exact hC)).mono fun e w' ⟨v, he, hm⟩ => ⟨v, he, h.mv hm (by omega)⟩
theorem stage_end {f : Value} (h : St ae S L D C s w0 cs i w) (hi : i = s.size) :
    Calls Tryz.prog 127 #[.pointer (some ⟨L, 0, none⟩), f] w fun e w' => e = .returned (.tuple #[.nilFunc, .nilIface]) ∧ St ae S L D C s w0 cs i w' :=
  (handle_eof h.lx hi).mono fun _ _ ⟨he, hm⟩ => ⟨he, h.mv hm h.le⟩
end

theorem call128 (args : Array Value) (W : World) : (callFunc 128 args).run Tryz.prog W = .ok (.enter 128 args) W := by kernel_rfl
theorem clos1_v (W : World) : Calls Tryz.prog 128 #[.int .u8 118] W fun e w' => e = .returned (.func (.func 129) #[] #[]) ∧ W = w' := by
  go_enter Tryz.func128, Tryz.ntmps128
  go_wp2
  go_ret
  exact ⟨rfl, rfl⟩
theorem clos1_no (c : Int) (W : World) (h0 : (c == 118) = false) : Calls Tryz.prog 128 #[.int .u8 c] W fun e w' => e = .returned .nilFunc ∧ W = w' := by
  go_enter Tryz.func128, Tryz.ntmps128
  go_wp2
  go_ret
  exact ⟨rfl, rfl⟩
theorem s1_v {ae : Addr} {S : Nat → Prop} {L D C : Nat} {s : ByteArray} {w0 : World} {cs : Array Value} {i : Nat} {w : World} (h : St ae S L D C s w0 cs i w) {r : List UInt8} (hl : s.data.toList.drop i = 118 :: 61 :: r) :
    Calls Tryz.prog 86 #[.pointer (some ⟨L, 0, none⟩)] w fun e w' => e = .returned (.tuple #[.func (.func 129) #[] #[], .nilIface]) ∧ St ae S L D C s w0 cs (i + 2) w' := by
  have H := Lib.hid (stage_ok h hl (by decide) call128 clos1_v)
  clear h hl
  go_enter Tryz.func86, Tryz.ntmps86
  go_wp2_with (go_at_call 127; refine H.out.mono ?_; rintro e w1 ⟨rfl, h1⟩; have H1 := Lib.hid h1; clear h1)
  go_ret2
  exact ⟨rfl, H1.out⟩
theorem s1_no {ae : Addr} {S : Nat → Prop} {L D C : Nat} {s : ByteArray} {w0 : World} {cs : Array Value} {i : Nat} {w : World} (h : St ae S L D C s w0 cs i w) {c : UInt8} {r : List UInt8} (hl : s.data.toList.drop i = c :: 61 :: r) (hn : isNl c = false) (h0 : c ≠ 118) :
    Calls Tryz.prog 86 #[.pointer (some ⟨L, 0, none⟩)] w fun e w' => ∃ v, e = .returned (.tuple #[.nilFunc, .iface 304 v]) ∧ St ae S L D C s w0 cs (i + 2) w' := by
  have H := Lib.hid (stage_bad h hl hn call128 (fun W => clos1_no _ W (ne_int h0 (by decide))))
  clear h hl hn h0
  go_enter Tryz.func86, Tryz.ntmps86
  go_wp2_with (go_at_call 127; refine H.out.mono ?_; rintro e w1 ⟨v, rfl, h1⟩; have H1 := Lib.hid h1; clear h1)
  go_ret2
  exact ⟨_, rfl, H1.out⟩
theorem s1_end {ae : Addr} {S : Nat → Prop} {L D C : Nat} {s : ByteArray} {w0 : World} {cs : Array Value} {i : Nat} {w : World} (h : St ae S L D C s w0 cs i w) (hi : i = s.size) :
    Calls Tryz.prog 86 #[.pointer (some ⟨L, 0, none⟩)] w fun e w' => e = .returned (.tuple #[.nilFunc, .nilIface]) ∧ St ae S L D C s w0 cs i w' := by
  have H := Lib.hid (stage_end h hi (f := .func (.func 128) #[] #[]))
  clear h hi
  go_enter Tryz.func86, Tryz.ntmps86
  go_wp2_with (go_at_call 127; refine H.out.mono ?_; rintro e w1 ⟨rfl, h1⟩; have H1 := Lib.hid h1; clear h1)
  go_ret2
  exact ⟨rfl, H1.out⟩

theorem call177 (args : Array Value) (W : World) : (callFunc 177 args).run Tryz.prog W = .ok (.enter 177 args) W := by kernel_rfl
theorem clos2_o (W : World) : Calls Tryz.prog 177 #[.int .u8 111] W fun e w' => e = .returned (.func (.func 178) #[] #[]) ∧ W = w' := by
  go_enter Tryz.func177, Tryz.ntmps177
  go_wp2
  go_ret
  exact ⟨rfl, rfl⟩
theorem clos2_no (c : Int) (W : World) (h0 : (c == 111) = false) : Calls Tryz.prog 177 #[.int .u8 c] W fun e w' => e = .returned .nilFunc ∧ W = w' := by
  go_enter Tryz.func177, Tryz.ntmps177
  go_wp2
  go_ret
  exact ⟨rfl, rfl⟩
theorem s2_o {ae : Addr} {S : Nat → Prop} {L D C : Nat} {s : ByteArray} {w0 : World} {cs : Array Value} {i : Nat} {w : World} (h : St ae S L D C s w0 cs i w) {r : List UInt8} (hl : s.data.toList.drop i = 111 :: 61 :: r) :
    Calls Tryz.prog 152 #[.pointer (some ⟨L, 0, none⟩)] w fun e w' => e = .returned (.tuple #[.func (.func 178) #[] #[], .nilIface]) ∧ St ae S L D C s w0 cs (i + 2) w' := by
  have H := Lib.hid (stage_ok h hl (by decide) call177 clos2_o)
  clear h hl
  go_enter Tryz.func152, Tryz.ntmps152
  go_wp2_with (go_at_call 127; refine H.out.mono ?_; rintro e w1 ⟨rfl, h1⟩; have H1 := Lib.hid h1; clear h1)
  go_ret2
  exact ⟨rfl, H1.out⟩
theorem s2_no {ae : Addr} {S : Nat → Prop} {L D C : Nat} {s : ByteArray} {w0 : World} {cs : Array Value} {i : Nat} {w : World} (h : St ae S L D C s w0 cs i w) {c : UInt8} {r : List UInt8} (hl : s.data.toList.drop i = c :: 61 :: r) (hn : isNl c = false) (h0 : c ≠ 111) :
    Calls Tryz.prog 152 #[.pointer (some ⟨L, 0, none⟩)] w fun e w' => ∃ v, e = .returned (.tuple #[.nilFunc, .iface 304 v]) ∧ St ae S L D C s w0 cs (i + 2) w' := by
  have H := Lib.hid (stage_bad h hl hn call177 (fun W => clos2_no _ W (ne_int h0 (by decide))))
  clear h hl hn h0
  go_enter Tryz.func152, Tryz.ntmps152
  go_wp2_with (go_at_call 127; refine H.out.mono ?_; rintro e w1 ⟨v, rfl, h1⟩; have H1 := Lib.hid h1; clear h1)
  go_ret2
  exact ⟨_, rfl, H1.out⟩
theorem s2_end {ae : Addr} {S : Nat → Prop} {L D C : Nat} {s : ByteArray} {w0 : World} {cs : Array Value} {i : Nat} {w : World} (h : St ae S L D C s w0 cs i w) (hi : i = s.size) :
    Calls Tryz.prog 152 #[.pointer (some ⟨L, 0, none⟩)] w fun e w' => e = .returned (.tuple #[.nilFunc, .nilIface]) ∧ St ae S L D C s w0 cs i w' := by
  have H := Lib.hid (stage_end h hi (f := .func (.func 177) #[] #[]))
  clear h hi
  go_enter Tryz.func152, Tryz.ntmps152
  go_wp2_with (go_at_call 127; refine H.out.mono ?_; rintro e w1 ⟨rfl, h1⟩; have H1 := Lib.hid h1; clear h1)
  go_ret2
  exact ⟨rfl, H1.out⟩

theorem call199 (args : Array Value) (W : World) : (callFunc 199 args).run Tryz.prog W = .ok (.enter 199 args) W := by kernel_rfl
theorem clos3_s (W : World) : Calls Tryz.prog 199 #[.int .u8 115] W fun e w' => e = .returned (.func (.func 200) #[] #[]) ∧ W = w' := by
  go_enter Tryz.func199, Tryz.ntmps199
  go_wp2
  go_ret
  exact ⟨rfl, rfl⟩
theorem clos3_no (c : Int) (W : World) (h0 : (c == 115) = false) : Calls Tryz.prog 199 #[.int .u8 c] W fun e w' => e = .returned .nilFunc ∧ W = w' := by
  go_enter Tryz.func199, Tryz.ntmps199
  go_wp2
  go_ret
  exact ⟨rfl, rfl⟩
theorem s3_s {ae : Addr} {S : Nat → Prop} {L D C : Nat} {s : ByteArray} {w0 : World} {cs : Array Value} {i : Nat} {w : World} (h : St ae S L D C s w0 cs i w) {r : List UInt8} (hl : s.data.toList.drop i = 115 :: 61 :: r) :
    Calls Tryz.prog 194 #[.pointer (some ⟨L, 0, none⟩)] w fun e w' => e = .returned (.tuple #[.func (.func 200) #[] #[], .nilIface]) ∧ St ae S L D C s w0 cs (i + 2) w' := by
  have H := Lib.hid (stage_ok h hl (by decide) call199 clos3_s)
  clear h hl
  go_enter Tryz.func194, Tryz.ntmps194
  go_wp2_with (go_at_call 127; refine H.out.mono ?_; rintro e w1 ⟨rfl, h1⟩; have H1 := Lib.hid h1; clear h1)
  go_ret2
  exact ⟨rfl, H1.out⟩
theorem s3_no {ae : Addr} {S : Nat → Prop} {L D C : Nat} {s : ByteArray} {w0 : World} {cs : Array Value} {i : Nat} {w : World} (h : St ae S L D C s w0 cs i w) {c : UInt8} {r : List UInt8} (hl : s.data.toList.drop i = c :: 61 :: r) (hn : isNl c = false) (h0 : c ≠ 115) :
    Calls Tryz.prog 194 #[.pointer (some ⟨L, 0, none⟩)] w fun e w' => ∃ v, e = .returned (.tuple #[.nilFunc, .iface 304 v]) ∧ St ae S L D C s w0 cs (i + 2) w' := by
  have H := Lib.hid (stage_bad h hl hn call199 (fun W => clos3_no _ W (ne_int h0 (by decide))))
  clear h hl hn h0
  go_enter Tryz.func194, Tryz.ntmps194
  go_wp2_with (go_at_call 127; refine H.out.mono ?_; rintro e w1 ⟨v, rfl, h1⟩; have H1 := Lib.hid h1; clear h1)
  go_ret2
  exact ⟨_, rfl, H1.out⟩
theorem s3_end {ae : Addr} {S : Nat → Prop} {L D C : Nat} {s : ByteArray} {w0 : World} {cs : Array Value} {i : Nat} {w : World} (h : St ae S L D C s w0 cs i w) (hi : i = s.size) :
    Calls Tryz.prog 194 #[.pointer (some ⟨L, 0, none⟩)] w fun e w' => e = .returned (.tuple #[.nilFunc, .nilIface]) ∧ St ae S L D C s w0 cs i w' := by
  have H := Lib.hid (stage_end h hi (f := .func (.func 199) #[] #[]))
  clear h hi
  go_enter Tryz.func194, Tryz.ntmps194
  go_wp2_with (go_at_call 127; refine H.out.mono ?_; rintro e w1 ⟨rfl, h1⟩; have H1 := Lib.hid h1; clear h1)
  go_ret2
  exact ⟨rfl, H1.out⟩

theorem call203 (args : Array Value) (W : World) : (callFunc 203 args).run Tryz.prog W = .ok (.enter 203 args) W := by kernel_rfl
theorem clos4_i (W : World) : Calls Tryz.prog 203 #[.int .u8 105] W fun e w' => e = .returned (.func (.func 204) #[] #[]) ∧ W = w' := by
  go_enter Tryz.func203, Tryz.ntmps203
  go_wp2
  go_ret
  exact ⟨rfl, rfl⟩
theorem clos4_u (W : World) : Calls Tryz.prog 203 #[.int .u8 117] W fun e w' => e = .returned (.func (.func 205) #[] #[]) ∧ W = w' := by
  go_enter Tryz.func203, Tryz.ntmps203
  go_wp2
  go_ret
  exact ⟨rfl, rfl⟩
theorem clos4_e (W : World) : Calls Tryz.prog 203 #[.int .u8 101] W fun e w' => e = .returned (.func (.func 206) #[] #[]) ∧ W = w' := by
  go_enter Tryz.func203, Tryz.ntmps203
  go_wp2
  go_ret
  exact ⟨rfl, rfl⟩
theorem clos4_p (W : World) : Calls Tryz.prog 203 #[.int .u8 112] W fun e w' => e = .returned (.func (.func 207) #[] #[]) ∧ W = w' := by
  go_enter Tryz.func203, Tryz.ntmps203
  go_wp2
  go_ret
  exact ⟨rfl, rfl⟩
theorem clos4_c (W : World) : Calls Tryz.prog 203 #[.int .u8 99] W fun e w' => e = .returned (.func (.func 208) #[] #[]) ∧ W = w' := by
  go_enter Tryz.func203, Tryz.ntmps203
  go_wp2
  go_ret
  exact ⟨rfl, rfl⟩
theorem clos4_b (W : World) : Calls Tryz.prog 203 #[.int .u8 98] W fun e w' => e = .returned (.func (.func 209) #[] #[]) ∧ W = w' := by
  go_enter Tryz.func203, Tryz.ntmps203
  go_wp2
  go_ret
  exact ⟨rfl, rfl⟩
theorem clos4_t (W : World) : Calls Tryz.prog 203 #[.int .u8 116] W fun e w' => e = .returned (.func (.func 210) #[] #[]) ∧ W = w' := by
  go_enter Tryz.func203, Tryz.ntmps203
  go_wp2
  go_ret
  exact ⟨rfl, rfl⟩
theorem clos4_no (c : Int) (W : World) (h0 : (c == 105) = false) (h1 : (c == 117) = false) (h2 : (c == 101) = false) (h3 : (c == 112) = false) (h4 : (c == 99) = false) (h5 : (c == 98) = false) (h6 : (c == 116) = false) : Calls Tryz.prog 203 #[.int .u8 c] W fun e w' => e = .returned .nilFunc ∧ W = w' := by
  go_enter Tryz.func203, Tryz.ntmps203
  go_wp2
  go_ret
  exact ⟨rfl, rfl⟩
theorem s4_i {ae : Addr} {S : Nat → Prop} {L D C : Nat} {s : ByteArray} {w0 : World} {cs : Array Value} {i : Nat} {w : World} (h : St ae S L D C s w0 cs i w) {r : List UInt8} (hl : s.data.toList.drop i = 105 :: 61 :: r) :
    Calls Tryz.prog 202 #[.pointer (some ⟨L, 0, none⟩)] w fun e w' => e = .returned (.tuple #[.func (.func 204) #[] #[], .nilIface]) ∧ St ae S L D C s w0 cs (i + 2) w' := by
  have H := Lib.hid (stage_ok h hl (by decide) call203 clos4_i)
  clear h hl
  go_enter Tryz.func202, Tryz.ntmps202
  go_wp2_with (go_at_call 127; refine H.out.mono ?_; rintro e w1 ⟨rfl, h1⟩; have H1 := Lib.hid h1; clear h1)
  go_ret2
  exact ⟨rfl, H1.out⟩
theorem s4_u {ae : Addr} {S : Nat → Prop} {L D C : Nat} {s : ByteArray} {w0 : World} {cs : Array Value} {i : Nat} {w : World} (h : St ae S L D C s w0 cs i w) {r : List UInt8} (hl : s.data.toList.drop i = 117 :: 61 :: r) :
    Calls Tryz.prog 202 #[.pointer (some ⟨L, 0, none⟩)] w fun e w' => e = .returned (.tuple #[.func (.func 205) #[] #[], .nilIface]) ∧ St ae S L D C s w0 cs (i + 2) w' := by
  have H := Lib.hid (stage_ok h hl (by decide) call203 clos4_u)
  clear h hl
  go_enter Tryz.func202, Tryz.ntmps202
  go_wp2_with (go_at_call 127; refine H.out.mono ?_; rintro e w1 ⟨rfl, h1⟩; have H1 := Lib.hid h1; clear h1)
  go_ret2
  exact ⟨rfl, H1.out⟩
theorem s4_e {ae : Addr} {S : Nat → Prop} {L D C : Nat} {s : ByteArray} {w0 : World} {cs : Array Value} {i : Nat} {w : World} (h : St ae S L D C s w0 cs i w) {r : List UInt8} (hl : s.data.toList.drop i = 101 :: 61 :: r) :
    Calls Tryz.prog 202 #[.pointer (some ⟨L, 0, none⟩)] w fun e w' => e = .returned (.tuple #[.func (.func 206) #[] #[], .nilIface]) ∧ St ae S L D C s w0 cs (i + 2) w' := by
  have H := Lib.hid (stage_ok h hl (by decide) call203 clos4_e)
  clear h hl
  go_enter Tryz.func202, Tryz.ntmps202
  go_wp2_with (go_at_call 127; refine H.out.mono ?_; rintro e w1 ⟨rfl, h1⟩; have H1 := Lib.hid h1; clear h1)
  go_ret2
  exact ⟨rfl, H1.out⟩
theorem s4_p {ae : Addr} {S : Nat → Prop} {L D C : Nat} {s : ByteArray} {w0 : World} {cs : Array Value} {i : Nat} {w : World} (h : St ae S L D C s w0 cs i w) {r : List UInt8} (hl : s.data.toList.drop i = 112 :: 61 :: r) :
    Calls Tryz.prog 202 #[.pointer (some ⟨L, 0, none⟩)] w fun e w' => e = .returned (.tuple #[.func (.func 207) #[] #[], .nilIface]) ∧ St ae S L D C s w0 cs (i + 2) w' := by
  have H := Lib.hid (stage_ok h hl (by decide) call203 clos4_p)
  clear h hl
  go_enter Tryz.func202, Tryz.ntmps202
  go_wp2_with (go_at_call 127; refine H.out.mono ?_; rintro e w1 ⟨rfl, h1⟩; have H1 := Lib.hid h1; clear h1)
  go_ret2
  exact ⟨rfl, H1.out⟩
theorem s4_c {ae : Addr} {S : Nat → Prop} {L D C : Nat} {s : ByteArray} {w0 : World} {cs : Array Value} {i : Nat} {w : World} (h : St ae S L D C s w0 cs i w) {r : List UInt8} (hl : s.data.toList.drop i = 99 :: 61 :: r) :
    Calls Tryz.prog 202 #[.pointer (some ⟨L, 0, none⟩)] w fun e w' => e = .returned (.tuple #[.func (.func 208) #[] #[], .nilIface]) ∧ St ae S L D C s w0 cs (i + 2) w' := by
  have H := Lib.hid (stage_ok h hl (by decide) call203 clos4_c)
  clear h hl
  go_enter Tryz.func202, Tryz.ntmps202
  go_wp2_with (go_at_call 127; refine H.out.mono ?_; rintro e w1 ⟨rfl, h1⟩; have H1 := Lib.hid h1; clear h1)
  go_ret2
  exact ⟨rfl, H1.out⟩
theorem s4_b {ae : Addr} {S : Nat → Prop} {L D C : Nat} {s : ByteArray} {w0 : World} {cs : Array Value} {i : Nat} {w : World} (h : St ae S L D C s w0 cs i w) {r : List UInt8} (hl : s.data.toList.drop i = 98 :: 61 :: r) :
    Calls Tryz.prog 202 #[.pointer (some ⟨L, 0, none⟩)] w fun e w' => e = .returned (.tuple #[.func (.func 209) #[] #[], .nilIface]) ∧ St ae S L D C s w0 cs (i + 2) w' := by
  have H := Lib.hid (stage_ok h hl (by decide) call203 clos4_b)
  clear h hl
  go_enter Tryz.func202, Tryz.ntmps202
  go_wp2_with (go_at_call 127; refine H.out.mono ?_; rintro e w1 ⟨rfl, h1⟩; have H1 := Lib.hid h1; clear h1)
  go_ret2
  exact ⟨rfl, H1.out⟩
theorem s4_t {ae : Addr} {S : Nat → Prop} {L D C : Nat} {s : ByteArray} {w0 : World} {cs : Array Value} {i : Nat} {w : World} (h : St ae S L D C s w0 cs i w) {r : List UInt8} (hl : s.data.toList.drop i = 116 :: 61 :: r) :
    Calls Tryz.prog 202 #[.pointer (some ⟨L, 0, none⟩)] w fun e w' => e = .returned (.tuple #[.func (.func 210) #[] #[], .nilIface]) ∧ St ae S L D C s w0 cs (i + 2) w' := by
  have H := Lib.hid (stage_ok h hl (by decide) call203 clos4_t)
  clear h hl
  go_enter Tryz.func202, Tryz.ntmps202
  go_wp2_with (go_at_call 127; refine H.out.mono ?_; rintro e w1 ⟨rfl, h1⟩; have H1 := Lib.hid h1; clear h1)
  go_ret2
  exact ⟨rfl, H1.out⟩
theorem s4_no {ae : Addr} {S : Nat → Prop} {L D C : Nat} {s : ByteArray} {w0 : World} {cs : Array Value} {i : Nat} {w : World} (h : St ae S L D C s w0 cs i w) {c : UInt8} {r : List UInt8} (hl : s.data.toList.drop i = c :: 61 :: r) (hn : isNl c = false) (h0 : c ≠ 105) (h1 : c ≠ 117) (h2 : c ≠ 101) (h3 : c ≠ 112) (h4 : c ≠ 99) (h5 : c ≠ 98) (h6 : c ≠ 116) :
    Calls Tryz.prog 202 #[.pointer (some ⟨L, 0, none⟩)] w fun e w' => ∃ v, e = .returned (.tuple #[.nilFunc, .iface 304 v]) ∧ St ae S L D C s w0 cs (i + 2) w' := by
  have H := Lib.hid (stage_bad h hl hn call203 (fun W => clos4_no _ W (ne_int h0 (by decide)) (ne_int h1 (by decide)) (ne_int h2 (by decide)) (ne_int h3 (by decide)) (ne_int h4 (by decide)) (ne_int h5 (by decide)) (ne_int h6 (by decide))))
  clear h hl hn h0 h1 h2 h3 h4 h5 h6
  go_enter Tryz.func202, Tryz.ntmps202
  go_wp2_with (go_at_call 127; refine H.out.mono ?_; rintro e w1 ⟨v, rfl, h1⟩; have H1 := Lib.hid h1; clear h1)
  go_ret2
  exact ⟨_, rfl, H1.out⟩
theorem s4_end {ae : Addr} {S : Nat → Prop} {L D C : Nat} {s : ByteArray} {w0 : World} {cs : Array Value} {i : Nat} {w : World} (h : St ae S L D C s w0 cs i w) (hi : i = s.size) :
    Calls Tryz.prog 202 #[.pointer (some ⟨L, 0, none⟩)] w fun e w' => e = .returned (.tuple #[.nilFunc, .nilIface]) ∧ St ae S L D C s w0 cs i w' := by
  have H := Lib.hid (stage_end h hi (f := .func (.func 203) #[] #[]))
  clear h hi
  go_enter Tryz.func202, Tryz.ntmps202
  go_wp2_with (go_at_call 127; refine H.out.mono ?_; rintro e w1 ⟨rfl, h1⟩; have H1 := Lib.hid h1; clear h1)
  go_ret2
  exact ⟨rfl, H1.out⟩

theorem call223 (args : Array Value) (W : World) : (callFunc 223 args).run Tryz.prog W = .ok (.enter 223 args) W := by kernel_rfl
theorem clos9_z (W : World) : Calls Tryz.prog 223 #[.int .u8 122] W fun e w' => e = .returned (.func (.func 224) #[] #[]) ∧ W = w' := by
  go_enter Tryz.func223, Tryz.ntmps223
  go_wp2
  go_ret
  exact ⟨rfl, rfl⟩
theorem clos9_k (W : World) : Calls Tryz.prog 223 #[.int .u8 107] W fun e w' => e = .returned (.func (.func 225) #[] #[]) ∧ W = w' := by
  go_enter Tryz.func223, Tryz.ntmps223
  go_wp2
  go_ret
  exact ⟨rfl, rfl⟩
theorem clos9_a (W : World) : Calls Tryz.prog 223 #[.int .u8 97] W fun e w' => e = .returned (.func (.func 226) #[] #[]) ∧ W = w' := by
  go_enter Tryz.func223, Tryz.ntmps223
  go_wp2
  go_ret
  exact ⟨rfl, rfl⟩
theorem clos9_r (W : World) : Calls Tryz.prog 223 #[.int .u8 114] W fun e w' => e = .returned (.func (.func 227) #[] #[]) ∧ W = w' := by
  go_enter Tryz.func223, Tryz.ntmps223
  go_wp2
  go_ret
  exact ⟨rfl, rfl⟩
theorem clos9_t (W : World) : Calls Tryz.prog 223 #[.int .u8 116] W fun e w' => e = .returned (.func (.func 210) #[] #[]) ∧ W = w' := by
  go_enter Tryz.func223, Tryz.ntmps223
  go_wp2
  go_ret
  exact ⟨rfl, rfl⟩
theorem clos9_m (W : World) : Calls Tryz.prog 223 #[.int .u8 109] W fun e w' => e = .returned (.func (.func 228) #[] #[]) ∧ W = w' := by
  go_enter Tryz.func223, Tryz.ntmps223
  go_wp2
  go_ret
  exact ⟨rfl, rfl⟩
theorem clos9_no (c : Int) (W : World) (h0 : (c == 122) = false) (h1 : (c == 107) = false) (h2 : (c == 97) = false) (h3 : (c == 114) = false) (h4 : (c == 116) = false) (h5 : (c == 109) = false) : Calls Tryz.prog 223 #[.int .u8 c] W fun e w' => e = .returned .nilFunc ∧ W = w' := by
  go_enter Tryz.func223, Tryz.ntmps223
  go_wp2
  go_ret
  exact ⟨rfl, rfl⟩
theorem s9_z {ae : Addr} {S : Nat → Prop} {L D C : Nat} {s : ByteArray} {w0 : World} {cs : Array Value} {i : Nat} {w : World} (h : St ae S L D C s w0 cs i w) {r : List UInt8} (hl : s.data.toList.drop i = 122 :: 61 :: r) :
    Calls Tryz.prog 217 #[.pointer (some ⟨L, 0, none⟩)] w fun e w' => e = .returned (.tuple #[.func (.func 224) #[] #[], .nilIface]) ∧ St ae S L D C s w0 cs (i + 2) w' := by
  have H := Lib.hid (stage_ok h hl (by decide) call223 clos9_z)
  clear h hl
  go_enter Tryz.func217, Tryz.ntmps217
  go_wp2_with (go_at_call 127; refine H.out.mono ?_; rintro e w1 ⟨rfl, h1⟩; have H1 := Lib.hid h1; clear h1)
  go_ret2
  exact ⟨rfl, H1.out⟩
theorem s9_k {ae : Addr} {S : Nat → Prop} {L D C : Nat} {s : ByteArray} {w0 : World} {cs : Array Value} {i : Nat} {w : World} (h : St ae S L D C s w0 cs i w) {r : List UInt8} (hl : s.data.toList.drop i = 107 :: 61 :: r) :
    Calls Tryz.prog 217 #[.pointer (some ⟨L, 0, none⟩)] w fun e w' => e = .returned (.tuple #[.func (.func 225) #[] #[], .nilIface]) ∧ St ae S L D C s w0 cs (i + 2) w' := by
  have H := Lib.hid (stage_ok h hl (by decide) call223 clos9_k)
  clear h hl
  go_enter Tryz.func217, Tryz.ntmps217
  go_wp2_with (go_at_call 127; refine H.out.mono ?_; rintro e w1 ⟨rfl, h1⟩; have H1 := Lib.hid h1; clear h1)
  go_ret2
  exact ⟨rfl, H1.out⟩
theorem s9_a {ae : Addr} {S : Nat → Prop} {L D C : Nat} {s : ByteArray} {w0 : World} {cs : Array Value} {i : Nat} {w : World} (h : St ae S L D C s w0 cs i w) {r : List UInt8} (hl : s.data.toList.drop i = 97 :: 61 :: r) :
    Calls Tryz.prog 217 #[.pointer (some ⟨L, 0, none⟩)] w fun e w' => e = .returned (.tuple #[.func (.func 226) #[] #[], .nilIface]) ∧ St ae S L D C s w0 cs (i + 2) w' := by
  have H := Lib.hid (stage_ok h hl (by decide) call223 clos9_a)
  clear h hl
  go_enter Tryz.func217, Tryz.ntmps217
  go_wp2_with (go_at_call 127; refine H.out.mono ?_; rintro e w1 ⟨rfl, h1⟩; have H1 := Lib.hid h1; clear h1)
  go_ret2
  exact ⟨rfl, H1.out⟩
theorem s9_r {ae : Addr} {S : Nat → Prop} {L D C : Nat} {s : ByteArray} {w0 : World} {cs : Array Value} {i : Nat} {w : World} (h : St ae S L D C s w0 cs i w) {r : List UInt8} (hl : s.data.toList.drop i = 114 :: 61 :: r) :
    Calls Tryz.prog 217 #[.pointer (some ⟨L, 0, none⟩)] w fun e w' => e = .returned (.tuple #[.func (.func 227) #[] #[], .nilIface]) ∧ St ae S L D C s w0 cs (i + 2) w' := by
  have H := Lib.hid (stage_ok h hl (by decide) call223 clos9_r)
  clear h hl
  go_enter Tryz.func217, Tryz.ntmps217
  go_wp2_with (go_at_call 127; refine H.out.mono ?_; rintro e w1 ⟨rfl, h1⟩; have H1 := Lib.hid h1; clear h1)
  go_ret2
  exact ⟨rfl, H1.out⟩
theorem s9_t {ae : Addr} {S : Nat → Prop} {L D C : Nat} {s : ByteArray} {w0 : World} {cs : Array Value} {i : Nat} {w : World} (h : St ae S L D C s w0 cs i w) {r : List UInt8} (hl : s.data.toList.drop i = 116 :: 61 :: r) :
    Calls Tryz.prog 217 #[.pointer (some ⟨L, 0, none⟩)] w fun e w' => e = .returned (.tuple #[.func (.func 210) #[] #[], .nilIface]) ∧ St ae S L D C s w0 cs (i + 2) w' := by
  have H := Lib.hid (stage_ok h hl (by decide) call223 clos9_t)
  clear h hl
  go_enter Tryz.func217, Tryz.ntmps217
  go_wp2_with (go_at_call 127; refine H.out.mono ?_; rintro e w1 ⟨rfl, h1⟩; have H1 := Lib.hid h1; clear h1)
  go_ret2
  exact ⟨rfl, H1.out⟩
theorem s9_m {ae : Addr} {S : Nat → Prop} {L D C : Nat} {s : ByteArray} {w0 : World} {cs : Array Value} {i : Nat} {w : World} (h : St ae S L D C s w0 cs i w) {r : List UInt8} (hl : s.data.toList.drop i = 109 :: 61 :: r) :
    Calls Tryz.prog 217 #[.pointer (some ⟨L, 0, none⟩)] w fun e w' => e = .returned (.tuple #[.func (.func 228) #[] #[], .nilIface]) ∧ St ae S L D C s w0 cs (i + 2) w' := by
  have H := Lib.hid (stage_ok h hl (by decide) call223 clos9_m)
  clear h hl
  go_enter Tryz.func217, Tryz.ntmps217
  go_wp2_with (go_at_call 127; refine H.out.mono ?_; rintro e w1 ⟨rfl, h1⟩; have H1 := Lib.hid h1; clear h1)
  go_ret2
  exact ⟨rfl, H1.out⟩
theorem s9_no {ae : Addr} {S : Nat → Prop} {L D C : Nat} {s : ByteArray} {w0 : World} {cs : Array Value} {i : Nat} {w : World} (h : St ae S L D C s w0 cs i w) {c : UInt8} {r : List UInt8} (hl : s.data.toList.drop i = c :: 61 :: r) (hn : isNl c = false) (h0 : c ≠ 122) (h1 : c ≠ 107) (h2 : c ≠ 97) (h3 : c ≠ 114) (h4 : c ≠ 116) (h5 : c ≠ 109) :
    Calls Tryz.prog 217 #[.pointer (some ⟨L, 0, none⟩)] w fun e w' => ∃ v, e = .returned (.tuple #[.nilFunc, .iface 304 v]) ∧ St ae S L D C s w0 cs (i + 2) w' := by
  have H := Lib.hid (stage_bad h hl hn call223 (fun W => clos9_no _ W (ne_int h0 (by decide)) (ne_int h1 (by decide)) (ne_int h2 (by decide)) (ne_int h3 (by decide)) (ne_int h4 (by decide)) (ne_int h5 (by decide))))
  clear h hl hn h0 h1 h2 h3 h4 h5
  go_enter Tryz.func217, Tryz.ntmps217
  go_wp2_with (go_at_call 127; refine H.out.mono ?_; rintro e w1 ⟨v, rfl, h1⟩; have H1 := Lib.hid h1; clear h1)
  go_ret2
  exact ⟨_, rfl, H1.out⟩
theorem s9_end {ae : Addr} {S : Nat → Prop} {L D C : Nat} {s : ByteArray} {w0 : World} {cs : Array Value} {i : Nat} {w : World} (h : St ae S L D C s w0 cs i w) (hi : i = s.size) :
    Calls Tryz.prog 217 #[.pointer (some ⟨L, 0, none⟩)] w fun e w' => e = .returned (.tuple #[.nilFunc, .nilIface]) ∧ St ae S L D C s w0 cs i w' := by
  have H := Lib.hid (stage_end h hi (f := .func (.func 223) #[] #[]))
  clear h hi
  go_enter Tryz.func217, Tryz.ntmps217
  go_wp2_with (go_at_call 127; refine H.out.mono ?_; rintro e w1 ⟨rfl, h1⟩; have H1 := Lib.hid h1; clear h1)
  go_ret2
  exact ⟨rfl, H1.out⟩
end Go.Proofs.YtimonhimfioohaaGreatDoor
