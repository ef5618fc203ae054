/- The lexer's readers of lines and types (package sdp), each by its walk. -/
import Derived.Test.YtimonhimfioohaaGreatDoorField
import Derived.Carry
import Derived.Deep.Cut
namespace Go.Proofs.YtimonhimfioohaaGreatDoor
open Go.RowKit

def notLf (c : UInt8) : Bool := !(c == 10)
def isCr (c : UInt8) : Bool := c == 13

theorem copyString_same (p : Value) (s : ByteArray) (w : World) : Calls Tryz.prog 197 #[p, .string s] w fun e w' => e = .returned (.string s) ∧ w' = w :=
  (copyString_any p s w).mono fun _ _ ⟨h, h'⟩ => ⟨h, h'.symm⟩

theorem notLf_true {c : UInt8} (h : notLf c = true) : (((c.toNat : Nat) : Int) == 10) = false := by
  unfold notLf at h
  have e1 := beq_int c 10 (by decide)
  exact e1.trans (by simpa using h)
theorem notLf_false {c : UInt8} (h : notLf c = false) : ((c.toNat : Nat) : Int) = 10 := by
  unfold notLf at h; simp at h; simp [h]
theorem isCr_true {c : UInt8} (h : isCr c = true) : ((c.toNat : Nat) : Int) = 13 := by
  unfold isCr at h; simp at h; simp [h]
theorem isCr_false {c : UInt8} (h : isCr c = false) : (((c.toNat : Nat) : Int) == 13) = false := by
  unfold isCr at h
  have e1 := beq_int c 13 (by decide)
  exact e1.trans h

/-- How many carriage returns stand in the m bytes of s from i on. -/
def crs (s : ByteArray) (i m : Nat) : Nat := ((s.data.toList.drop i).take m).countP isCr

theorem crs_succ {s : ByteArray} {i j : Nat} (hij : i ≤ j) (hlt : j < s.size) : crs s i (j + 1 - i) = crs s i (j - i) + if isCr s[j] then 1 else 0 := by
  unfold crs
  have e : j + 1 - i = (j - i) + 1 := by omega
  have hl : j - i < (s.data.toList.drop i).length := by simp; omega
  rw [e, List.take_succ_eq_append_getElem hl, List.countP_append]
  have h2 : (s.data.toList.drop i)[j - i] = s[j] := by
    rw [List.getElem_drop]; congr 1; omega
  rw [h2, List.countP_singleton]
theorem crs_le {s : ByteArray} {i m : Nat} : crs s i m ≤ m := by
  unfold crs
  exact Nat.le_trans List.countP_le_length (by simp; omega)
theorem crs_zero {s : ByteArray} {i : Nat} : crs s i 0 = 0 := by simp [crs]

set_option maxRecDepth 100000 in
set_option maxHeartbeats 800000 in
/-- A line up to its line feed: n bytes ahead of it; the text has its last bytes cut off, one for each carriage return of the line. -/
theorem line_ok {ae : Addr} {b o : Nat} {s : ByteArray} {i n : Nat} {w : World} (h : Lx ae b o s i w) (hn : lead notLf (s.data.toList.drop i) = n) (hlf : i + n < s.size) :
    Calls Tryz.prog 201 #[.pointer (some ⟨b, o, none⟩)] w fun e w' => e = .returned (.tuple #[.string ⟨((s.data.toList.drop i).take (n - crs s i n)).toArray⟩, .nilIface]) ∧ Mv b (o + 1) (i + n + 1) w w' := by
  have H := Lib.hid h
  have HM := Lib.hid h.refl
  have h1 := h.pos
  have HN := Lib.hid hn
  clear h hn
  go_enter Tryz.func201, Tryz.ntmps201
  go_wp2
  go_loopg [5] (s.size - i) (fun k x wr => ∃ j t : Nat, k = s.size - j ∧ i ≤ j ∧ j ≤ i + n ∧ j + lead notLf (s.data.toList.drop j) = i + n ∧ t = 1 + crs s i (j - i) ∧ t ≤ 1 + j - i ∧ x = .int .i64 t ∧ Lx ae b o s j wr ∧ Mv b (o + 1) j w wr)
  case atStart => exact ⟨i, 1, rfl, Nat.le_refl _, by omega, by rw [HN.out], by simp [crs_zero], by omega, rfl, H.out, HM.out⟩
  case round =>
    obtain ⟨j, t, hk, hij, hjs, hlead, ht, htle, rfl, hl, hm⟩ := hrel
    have hlt : j < s.size := by omega
    have HL := Lib.hid hl
    have HM' := Lib.hid hm
    have HK := Lib.hid hk
    have HT := Lib.hid ht
    have HLead := Lib.hid hlead
    have hsz := hl.sz
    clear hk hlead h1 hl hm ht
    have HD := Lib.hid (drop_cons hlt)
    have HC := Lib.hid (crs_succ hij hlt)
    cases hc : notLf s[j] with
    | true =>
      have HN1 := Lib.hid hc
      have hb := notLf_true hc
      clear hc
      cases hr : isCr s[j] with
      | true =>
        have HR := Lib.hid hr
        have hcr := isCr_true hr
        clear hr hb
        go_wp2_with fail
        refine (readByte_ok HL.out hlt).mono ?_
        rw [hcr]
        clear hcr
        rintro e w1 ⟨rfl, hm1⟩
        have HL1 := Lib.hid (HL.out.mv hm1 hlt)
        have HM1 := Lib.hid (HM'.out.trans hm1)
        clear hm1
        go_wp2
        go_roundg (s.size - (j + 1))
        case measure => have := HK.out; omega
        case rel =>
          have h1 := HLead.out
          rw [HD.out, lead_cons_yes HN1.out] at h1
          have h2 := HC.out
          rw [HR.out, if_pos rfl] at h2
          have h3 := HT.out
          exact ⟨j + 1, t + 1, rfl, by omega, by omega, by omega, by omega, by omega, by go_num, HL1.out, HM1.out⟩
      | false =>
        have HR := Lib.hid hr
        have hcr := isCr_false hr
        clear hr
        go_wp2_with fail
        refine (readByte_ok HL.out hlt).mono ?_
        rintro e w1 ⟨rfl, hm1⟩
        have HL1 := Lib.hid (HL.out.mv hm1 hlt)
        have HM1 := Lib.hid (HM'.out.trans hm1)
        clear hm1
        go_wp2
        go_roundg (s.size - (j + 1))
        case measure => have := HK.out; omega
        case rel =>
          have h1 := HLead.out
          rw [HD.out, lead_cons_yes HN1.out] at h1
          have h2 := HC.out
          rw [HR.out] at h2
          simp only [Bool.false_eq_true, if_false] at h2
          have h3 := HT.out
          exact ⟨j + 1, t, rfl, by omega, by omega, by omega, by omega, by omega, rfl, HL1.out, HM1.out⟩
    | false =>
      have hb := notLf_false hc
      have hjn : j = i + n := by have h1 := HLead.out; rw [HD.out, lead_cons_no hc] at h1; omega
      have HJ := Lib.hid hjn
      have hsl : s.extract i (j + 1 - t) = ⟨((s.data.toList.drop i).take (n - crs s i n)).toArray⟩ := by
        rw [extract_list]
        have h3 := HT.out
        have e1 : j - i = n := by omega
        have e2 : j + 1 - t - i = n - crs s i n := by rw [e1] at h3; omega
        rw [e2]
      have HS := Lib.hid hsl
      clear hc hjn hsl
      go_wp2_with fail
      refine (readByte_ok HL.out hlt).mono ?_
      rw [hb]
      clear hb
      rintro e w1 ⟨rfl, hm1⟩
      have hl1 := HL.out.mv hm1 hlt
      have hp1 := hl1.pos
      have hs1 := hl1.str
      have HM1 := Lib.hid (HM'.out.trans hm1)
      clear hm1 hl1
      have k0 : (0 : Int) ≤ ((j + 1 : Nat) : Int) - t := by omega
      have k1 : (i : Int) ≤ ((j + 1 : Nat) : Int) - t := by omega
      have k2 : ((j + 1 : Nat) : Int) - t ≤ (s.size : Int) := by omega
      have k3 : (((j + 1 : Nat) : Int) - t).toNat = j + 1 - t := by omega
      go_wp2
      go_quiet ((go_at_call 197; exact Calls.quiet_of_same (copyString_same _ _ _)))
      go_wp2
      go_ret2
      have hj := HJ.out
      rw [HS.out, ← hj]
      exact ⟨rfl, HM1.out.os, HM1.out.tape, HM1.out.output, HM1.out.heap⟩

theorem ne61 {c : UInt8} (h : c = 61) : ((c.toNat : Nat) : Int) = 61 := by simp [h]

set_option maxHeartbeats 400000 in
/-- The type of the next line: a byte that ends no line, and an equals sign behind it. -/
theorem type_ok {ae : Addr} {b o : Nat} {s : ByteArray} {i : Nat} {w : World} (h : Lx ae b o s i w) (hi : i + 1 < s.size) (hn : isNl s[i] = false) (he : s[i + 1] = 61) :
    Calls Tryz.prog 147 #[.pointer (some ⟨b, o, none⟩)] w fun e w' => e = .returned (.tuple #[.int .u8 s[i].toNat, .nilIface]) ∧ Mv b (o + 1) (i + 1 + 1) w w' := by
  have H := Lib.hid h
  have HN := Lib.hid hn
  have HE := Lib.hid (ne61 he)
  have hlt : i < s.size := by omega
  clear h hn he
  go_enter Tryz.func147, Tryz.ntmps147
  go_wp2
  refine wp_loop_rounds 1 ?_
  rw [rounds_succ]
  go_wp2_with fail
  refine (readByte_ok H.out hlt).mono ?_
  rintro e w1 ⟨rfl, hm1⟩
  have HL1 := Lib.hid (H.out.mv hm1 hlt)
  have HM1 := Lib.hid hm1
  clear hm1
  go_wp2_with (first | (go_at_call 171; refine (newline_no _ _ (nl_no HN.out).1 (nl_no HN.out).2).mono ?_; rintro e w2 ⟨rfl, rfl⟩))
  refine (readByte_ok HL1.out hi).mono ?_
  rw [HE.out]
  rintro e w2 ⟨rfl, hm2⟩
  have HM2 := Lib.hid (HM1.out.trans hm2)
  clear hm2
  go_wp2
  go_ret2
  exact ⟨rfl, HM2.out⟩

/-- At the text's end there is no type. -/
theorem type_eof {ae : Addr} {b o : Nat} {s : ByteArray} {i : Nat} {w : World} (h : Lx ae b o s i w) (hi : i = s.size) :
    Calls Tryz.prog 147 #[.pointer (some ⟨b, o, none⟩)] w fun e w' => e = .returned (.tuple #[.int .u8 0, .iface 342 (.pointer (some ae))]) ∧ Mv b (o + 1) i w w' := by
  have H := Lib.hid h
  have HI := Lib.hid hi
  clear h hi
  go_enter Tryz.func147, Tryz.ntmps147
  go_wp2
  refine wp_loop_rounds 1 ?_
  rw [rounds_succ]
  go_wp2_with fail
  refine (readByte_eof H.out HI.out).mono ?_
  rintro e w1 ⟨rfl, hm1⟩
  have HM1 := Lib.hid hm1
  clear hm1
  go_wp2
  go_ret2
  exact ⟨rfl, HM1.out⟩

/-- A field that is there. -/
theorem required_ok {ae : Addr} {b : Nat} {s : ByteArray} {i : Nat} {w : World} (h : Lx ae b 2 s i w) (hne : 0 < (fieldF (s.data.toList.drop i)).1) :
    Calls Tryz.prog 198 #[.pointer (some ⟨b, 0, none⟩)] w fun e w' => e = .returned (.tuple #[.string ⟨((s.data.toList.drop i).take (fieldF (s.data.toList.drop i)).1).toArray⟩, .nilIface]) ∧ Mv b (2 + 1) (i + (fieldF (s.data.toList.drop i)).2) w w' := by
  have hl : s.data.toList.drop i ≠ [] := by
    intro h0; rw [h0] at hne; simp [fieldF, lead] at hne
  have H := Lib.hid h
  have HL := Lib.hid hl
  have hem : ((s.data.toList.drop i).take (fieldF (s.data.toList.drop i)).1).isEmpty = false := by
    cases hh : s.data.toList.drop i with
    | nil => exact absurd hh hl
    | cons c r => rw [hh] at hne; cases hk : (fieldF (c :: r)).1 with
      | zero => omega
      | succ k => rfl
  clear h hne hl
  generalize hx : (s.data.toList.drop i).take (fieldF (s.data.toList.drop i)).1 = x at *
  have HX := Lib.hid hx
  clear hx
  generalize hm : i + (fieldF (s.data.toList.drop i)).2 = m at *
  have HMM := Lib.hid hm
  clear hm
  have hf := field_ok H.out HL.out
  rw [HX.out, HMM.out] at hf
  have HF := Lib.hid hf
  clear hf
  go_enter Tryz.func198, Tryz.ntmps198
  go_wp2_with (go_at_call 191; refine HF.out.mono ?_; rintro e w1 ⟨rfl, hm1⟩; have HM1 := Lib.hid hm1; clear hm1)
  go_ret2
  exact ⟨rfl, HM1.out⟩

end Go.Proofs.YtimonhimfioohaaGreatDoor
