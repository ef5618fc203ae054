/- handleType (package sdp), at whatever choice of a state for a type. -/
import Derived.Test.YtimonhimfioohaaGreatDoorLine
import Derived.Deep.Cut
namespace Go.Proofs.YtimonhimfioohaaGreatDoor
open Go.RowKit

theorem func_neq (G : Nat) (w : World) : (binOp .neq 174 (.func (.func G) #[] #[]) .nilFunc).run Tryz.prog w = .ok (.bool true) w := by kernel_rfl
theorem nilFunc_neq (w : World) : (binOp .neq 174 .nilFunc .nilFunc).run Tryz.prog w = .ok (.bool false) w := by kernel_rfl

theorem handle_ok {ae : Addr} {b : Nat} {s : ByteArray} {i : Nat} {w : World} {C G : Nat} (h : Lx ae b 2 s i w) (hi : i + 1 < s.size) (hn : isNl s[i] = false) (he : s[i + 1] = 61)
    (hcall : ∀ (args : Array Value) (W : World), (callFunc C args).run Tryz.prog W = .ok (.enter C args) W)
    (hC : ∀ W : World, Calls Tryz.prog C #[.int .u8 s[i].toNat] W fun e w' => e = .returned (.func (.func G) #[] #[]) ∧ W = w') :
    Calls Tryz.prog 127 #[.pointer (some ⟨b, 0, none⟩), .func (.func C) #[] #[]] w fun e w' => e = .returned (.tuple #[.func (.func G) #[] #[], .nilIface]) ∧ Mv b (2 + 1) (i + 1 + 1) w w' := by
  have H := Lib.hid h
  have HN := Lib.hid hn
  have HE := Lib.hid he
  have HC := Lib.hid hC
  clear h hn he hC
  go_enter Tryz.func127, Tryz.ntmps127
  go_wp2_with fail
  refine (type_ok H.out hi HN.out HE.out).mono ?_
  rintro e w1 ⟨rfl, hm1⟩
  have HM1 := Lib.hid hm1
  have heof1 := (H.out.mv hm1 (by omega)).eof
  clear hm1
  go_wp2_with fail
  refine (is_nil _ _).mono ?_
  rintro e w2 ⟨rfl, rfl⟩
  go_upto_region 6 with fail
  iterate 9 go_step
  (with_reducible refine (HC.out _).mono ?_); rintro e w4 ⟨rfl, rfl⟩; clear hcall HC HN HE
  have hq := func_neq G
  go_wp2_with fail
  go_ret2
  exact ⟨rfl, HM1.out⟩

theorem handle_bad {ae : Addr} {b : Nat} {s : ByteArray} {i : Nat} {w : World} {C : Nat} (h : Lx ae b 2 s i w) (hi : i + 1 < s.size) (hn : isNl s[i] = false) (he : s[i + 1] = 61)
    (hcall : ∀ (args : Array Value) (W : World), (callFunc C args).run Tryz.prog W = .ok (.enter C args) W)
    (hC : ∀ W : World, Calls Tryz.prog C #[.int .u8 s[i].toNat] W fun e w' => e = .returned .nilFunc ∧ W = w') :
    Calls Tryz.prog 127 #[.pointer (some ⟨b, 0, none⟩), .func (.func C) #[] #[]] w fun e w' => ∃ v, e = .returned (.tuple #[.nilFunc, .iface 304 v]) ∧ Mv b (2 + 1) (i + 1 + 1) w w' := by
  have H := Lib.hid h
  have HN := Lib.hid hn
  have HE := Lib.hid he
  have HC := Lib.hid hC
  clear h hn he hC
  go_enter Tryz.func127, Tryz.ntmps127
  go_wp2_with fail
  refine (type_ok H.out hi HN.out HE.out).mono ?_
  rintro e w1 ⟨rfl, hm1⟩
  have HM1 := Lib.hid hm1
  have HL1 := Lib.hid (H.out.mv hm1 (by omega))
  have heof1 := HL1.out.eof
  clear hm1
  go_wp2_with fail
  refine (is_nil _ _).mono ?_
  rintro e w2 ⟨rfl, rfl⟩
  go_upto_region 6 with fail
  iterate 9 go_step
  (with_reducible refine (HC.out _).mono ?_); rintro e w4 ⟨rfl, rfl⟩; clear hcall HC HN HE
  have hq := nilFunc_neq
  go_wp2_with (go_at_call 149; refine (syntaxError_any HL1.out).mono ?_; rintro e w3 ⟨⟨v, rfl⟩, hm3⟩; have HM3 := Lib.hid (HM1.out.trans hm3); clear hm3)
  go_ret2
  exact ⟨_, rfl, HM3.out⟩

theorem handle_eof {ae : Addr} {b : Nat} {s : ByteArray} {i : Nat} {w : World} {f : Value} (h : Lx ae b 2 s i w) (hi : i = s.size) :
    Calls Tryz.prog 127 #[.pointer (some ⟨b, 0, none⟩), f] w fun e w' => e = .returned (.tuple #[.nilFunc, .nilIface]) ∧ Mv b (2 + 1) i w w' := by
  have H := Lib.hid h
  have HI := Lib.hid hi
  have HLE := Lib.hid h.le
  clear h hi
  go_enter Tryz.func127, Tryz.ntmps127
  go_wp2_with fail
  refine (type_eof H.out HI.out).mono ?_
  rintro e w1 ⟨rfl, hm1⟩
  have HM1 := Lib.hid hm1
  have heof1 := (H.out.mv hm1 HLE.out).eof
  clear hm1
  go_wp2_with (go_at_call 148; refine (is_same _ _).mono ?_; rintro e w2 ⟨rfl, rfl⟩)
  go_ret2
  exact ⟨rfl, HM1.out⟩
end Go.Proofs.YtimonhimfioohaaGreatDoor
