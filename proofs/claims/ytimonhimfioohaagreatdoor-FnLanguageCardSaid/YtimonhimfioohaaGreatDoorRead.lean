/- The lexer's readers (package sdp), each by its walk: what they read of the text is told by plain functions on lists of bytes. -/
import Derived.Test.YtimonhimfioohaaGreatDoorLex
namespace Go.Proofs.YtimonhimfioohaaGreatDoor
open Go.RowKit

def isNl (c : UInt8) : Bool := c == 10 || c == 13
def isWs (c : UInt8) : Bool := c == 32 || c == 9

/-- How many leading bytes of a list meet p. -/
def lead (p : UInt8 → Bool) : List UInt8 → Nat
  | [] => 0
  | c :: r => if p c then lead p r + 1 else 0

theorem drop_cons {s : ByteArray} {i : Nat} (hi : i < s.size) : s.data.toList.drop i = s[i] :: s.data.toList.drop (i + 1) := by
  have h' : i < s.data.toList.length := by simpa using hi
  rw [List.drop_eq_getElem_cons h']; rfl
theorem drop_nil {s : ByteArray} : s.data.toList.drop s.size = [] := by
  apply List.drop_eq_nil_of_le; simp
theorem lead_le (p : UInt8 → Bool) : ∀ l, lead p l ≤ l.length
  | [] => Nat.le_refl _
  | c :: r => by unfold lead; split <;> simp [lead_le p r]
theorem lead_cons_yes {p : UInt8 → Bool} {c : UInt8} {r : List UInt8} (h : p c = true) : lead p (c :: r) = lead p r + 1 := by simp [lead, h]
theorem lead_cons_no {p : UInt8 → Bool} {c : UInt8} {r : List UInt8} (h : p c = false) : lead p (c :: r) = 0 := by simp [lead, h]
theorem beq_int (c : UInt8) (n : Nat) (hn : n < 256) : (((c.toNat : Nat) : Int) == (n : Int)) = (c == UInt8.ofNat n) := by
  rw [Bool.eq_iff_iff]
  simp only [beq_iff_eq, Int.ofNat_inj]
  constructor
  · intro h; subst h; simp
  · intro h; subst h; simp; omega
theorem nl_yes {c : UInt8} (h : isNl c = true) : ((c.toNat : Nat) : Int) = 10 ∨ ((c.toNat : Nat) : Int) = 13 := by
  unfold isNl at h; simp at h; rcases h with h | h <;> simp [h]
theorem nl_no {c : UInt8} (h : isNl c = false) : (((c.toNat : Nat) : Int) == 10) = false ∧ (((c.toNat : Nat) : Int) == 13) = false := by
  unfold isNl at h
  have e1 := beq_int c 10 (by decide)
  have e2 := beq_int c 13 (by decide)
  simp only [Bool.or_eq_false_iff] at h
  exact ⟨e1.trans h.1, e2.trans h.2⟩
theorem ws_yes {c : UInt8} (h : isWs c = true) : ((c.toNat : Nat) : Int) = 32 ∨ ((c.toNat : Nat) : Int) = 9 := by
  unfold isWs at h; simp at h; rcases h with h | h <;> simp [h]
theorem ws_no {c : UInt8} (h : isWs c = false) : (((c.toNat : Nat) : Int) == 32) = false ∧ (((c.toNat : Nat) : Int) == 9) = false := by
  unfold isWs at h
  have e1 := beq_int c 32 (by decide)
  have e2 := beq_int c 9 (by decide)
  simp only [Bool.or_eq_false_iff] at h
  exact ⟨e1.trans h.1, e2.trans h.2⟩

set_option maxHeartbeats 400000 in
theorem nextLine_ok {ae : Addr} {b o : Nat} {s : ByteArray} {i : Nat} {w : World} (h : Lx ae b o s i w) :
    Calls Tryz.prog 151 #[.pointer (some ⟨b, o, none⟩)] w fun e w' => e = .returned .nilIface ∧ Mv b (o + 1) (i + lead isNl (s.data.toList.drop i)) w w' := by
  have H := Lib.hid h
  have HM := Lib.hid h.refl
  clear h
  go_enter Tryz.func151, Tryz.ntmps151
  go_wp2
  go_loopg [] (s.size - i) (fun k wr => ∃ j, k = s.size - j ∧ i ≤ j ∧ j ≤ s.size ∧ j + lead isNl (s.data.toList.drop j) = i + lead isNl (s.data.toList.drop i) ∧ Lx ae b o s j wr ∧ Mv b (o + 1) j w wr)
  case atStart => exact ⟨i, rfl, Nat.le_refl _, H.out.le, rfl, H.out, HM.out⟩
  case round =>
    obtain ⟨j, hk, hij, hjs, hlead, hl, hm⟩ := hrel
    have HL := Lib.hid hl
    have HM' := Lib.hid hm
    have HK := Lib.hid hk
    have HLead := Lib.hid hlead
    clear hk hlead
    have heof := hl.eof
    clear hl hm
    by_cases hlt : j < s.size
    · have HD := Lib.hid (drop_cons hlt)
      cases hn : isNl s[j] with
      | true =>
        have HN := Lib.hid hn
        clear hn
        go_wp2_with fail
        refine (readByte_ok HL.out hlt).mono ?_
        rintro e w1 ⟨rfl, hm1⟩
        have HL1 := Lib.hid (HL.out.mv hm1 hlt)
        have HM1 := Lib.hid (HM'.out.trans hm1)
        have heof1 := HL1.out.eof
        clear hm1 heof
        go_wp2_with (first | (go_at_call 148; refine (is_nil _ _).mono ?_; rintro e w2 ⟨rfl, rfl⟩) | (go_at_call 171; refine (newline_yes _ _ (nl_yes HN.out)).mono ?_; rintro e w2 ⟨rfl, rfl⟩))
        go_roundg (s.size - (j + 1))
        case measure => have := HK.out; omega
        case rel => exact ⟨j + 1, rfl, by omega, hlt, by have h1 := HLead.out; rw [HD.out, lead_cons_yes HN.out] at h1; omega, HL1.out, HM1.out⟩
      | false =>
        have HN := Lib.hid hn
        clear hn
        go_wp2_with fail
        refine (readByte_ok HL.out hlt).mono ?_
        rintro e w1 ⟨rfl, hm1⟩
        have HL1 := Lib.hid (HL.out.mv hm1 hlt)
        have HM1 := Lib.hid (HM'.out.trans hm1)
        have heof1 := HL1.out.eof
        clear hm1 heof
        go_wp2_with (first | (go_at_call 148; refine (is_nil _ _).mono ?_; rintro e w2 ⟨rfl, rfl⟩) | (go_at_call 171; refine (newline_no _ _ (nl_no HN.out).1 (nl_no HN.out).2).mono ?_; rintro e w2 ⟨rfl, rfl⟩) | (go_at_call 174; refine (unread_ok HL1.out).mono ?_; rintro e w3 ⟨rfl, hm3⟩; have HM3 := Lib.hid (HM1.out.trans hm3); clear hm3))
        go_ret
        have h1 := HLead.out
        rw [HD.out, lead_cons_no HN.out] at h1
        rw [← h1]
        exact ⟨rfl, HM3.out⟩
    · have hj : j = s.size := by omega
      have HJ := Lib.hid hj
      clear hj
      go_wp2_with fail
      refine (readByte_eof HL.out HJ.out).mono ?_
      rintro e w1 ⟨rfl, hm1⟩
      have HL1 := Lib.hid (HL.out.mv hm1 hjs)
      have HM1 := Lib.hid (HM'.out.trans hm1)
      have heof1 := HL1.out.eof
      clear hm1 heof
      go_wp2_with (first | (go_at_call 148; refine (is_same _ _).mono ?_; rintro e w2 ⟨rfl, rfl⟩))
      go_ret
      have h1 := HLead.out
      have h2 : lead isNl (s.data.toList.drop j) = 0 := by rw [HJ.out, drop_nil]; rfl
      rw [← h1, h2]
      exact ⟨rfl, HM1.out⟩

set_option maxHeartbeats 400000 in
theorem whitespace_ok {ae : Addr} {b o : Nat} {s : ByteArray} {i : Nat} {w : World} (h : Lx ae b o s i w) :
    Calls Tryz.prog 176 #[.pointer (some ⟨b, o, none⟩)] w fun e w' => e = .returned .nilIface ∧ Mv b (o + 1) (i + lead isWs (s.data.toList.drop i)) w w' := by
  have H := Lib.hid h
  have HM := Lib.hid h.refl
  clear h
  go_enter Tryz.func176, Tryz.ntmps176
  go_wp2
  go_loopg [] (s.size - i) (fun k wr => ∃ j, k = s.size - j ∧ i ≤ j ∧ j ≤ s.size ∧ j + lead isWs (s.data.toList.drop j) = i + lead isWs (s.data.toList.drop i) ∧ Lx ae b o s j wr ∧ Mv b (o + 1) j w wr)
  case atStart => exact ⟨i, rfl, Nat.le_refl _, H.out.le, rfl, H.out, HM.out⟩
  case round =>
    obtain ⟨j, hk, hij, hjs, hlead, hl, hm⟩ := hrel
    have HL := Lib.hid hl
    have HM' := Lib.hid hm
    have HK := Lib.hid hk
    have HLead := Lib.hid hlead
    clear hk hlead
    have heof := hl.eof
    clear hl hm
    by_cases hlt : j < s.size
    · have HD := Lib.hid (drop_cons hlt)
      cases hn : isWs s[j] with
      | true =>
        have HN := Lib.hid hn
        clear hn
        go_wp2_with fail
        refine (readByte_ok HL.out hlt).mono ?_
        rintro e w1 ⟨rfl, hm1⟩
        have HL1 := Lib.hid (HL.out.mv hm1 hlt)
        have HM1 := Lib.hid (HM'.out.trans hm1)
        have heof1 := HL1.out.eof
        clear hm1 heof
        go_wp2_with (first | (go_at_call 148; refine (is_nil _ _).mono ?_; rintro e w2 ⟨rfl, rfl⟩) | (go_at_call 175; refine (blank_yes _ _ (ws_yes HN.out)).mono ?_; rintro e w2 ⟨rfl, rfl⟩))
        go_roundg (s.size - (j + 1))
        case measure => have := HK.out; omega
        case rel => exact ⟨j + 1, rfl, by omega, hlt, by have h1 := HLead.out; rw [HD.out, lead_cons_yes HN.out] at h1; omega, HL1.out, HM1.out⟩
      | false =>
        have HN := Lib.hid hn
        clear hn
        go_wp2_with fail
        refine (readByte_ok HL.out hlt).mono ?_
        rintro e w1 ⟨rfl, hm1⟩
        have HL1 := Lib.hid (HL.out.mv hm1 hlt)
        have HM1 := Lib.hid (HM'.out.trans hm1)
        have heof1 := HL1.out.eof
        clear hm1 heof
        go_wp2_with (first | (go_at_call 148; refine (is_nil _ _).mono ?_; rintro e w2 ⟨rfl, rfl⟩) | (go_at_call 175; refine (blank_no _ _ (ws_no HN.out).1 (ws_no HN.out).2).mono ?_; rintro e w2 ⟨rfl, rfl⟩) | (go_at_call 174; refine (unread_ok HL1.out).mono ?_; rintro e w3 ⟨rfl, hm3⟩; have HM3 := Lib.hid (HM1.out.trans hm3); clear hm3))
        go_ret
        have h1 := HLead.out
        rw [HD.out, lead_cons_no HN.out] at h1
        rw [← h1]
        exact ⟨rfl, HM3.out⟩
    · have hj : j = s.size := by omega
      have HJ := Lib.hid hj
      clear hj
      go_wp2_with fail
      refine (readByte_eof HL.out HJ.out).mono ?_
      rintro e w1 ⟨rfl, hm1⟩
      have HL1 := Lib.hid (HL.out.mv hm1 hjs)
      have HM1 := Lib.hid (HM'.out.trans hm1)
      have heof1 := HL1.out.eof
      clear hm1 heof
      go_wp2_with (first | (go_at_call 148; refine (is_same _ _).mono ?_; rintro e w2 ⟨rfl, rfl⟩))
      go_ret
      have h1 := HLead.out
      have h2 : lead isWs (s.data.toList.drop j) = 0 := by rw [HJ.out, drop_nil]; rfl
      rw [← h1, h2]
      exact ⟨rfl, HM1.out⟩

/-- A number's digits up to a blank or a line's end: its value and how many bytes are read. -/
def uintF : List UInt8 → Nat → Option (Nat × Nat)
  | [], acc => if 0 < acc then some (acc, 0) else none
  | c :: r, acc => if isNl c then some (acc, 0) else if isWs c then some (acc, 1 + lead isWs r) else
    if 48 ≤ c.toNat ∧ c.toNat ≤ 57 ∧ acc < 1000000 then (uintF r (acc * 10 + (c.toNat - 48))).map fun p => (p.1, p.2 + 1) else none

theorem uint_digit {c : UInt8} {r : List UInt8} {acc : Nat} {q : Nat × Nat} (h1 : isNl c = false) (h2 : isWs c = false) (h : uintF (c :: r) acc = some q) :
    48 ≤ c.toNat ∧ c.toNat ≤ 57 ∧ acc < 1000000 ∧ ∃ n, uintF r (acc * 10 + (c.toNat - 48)) = some (q.1, n) ∧ q.2 = n + 1 := by
  rw [uintF, h1, h2] at h
  simp only [Bool.false_eq_true, if_false] at h
  split at h
  · rename_i hd
    refine ⟨hd.1, hd.2.1, hd.2.2, ?_⟩
    obtain ⟨p, hp, hq⟩ := Option.map_eq_some_iff.1 h
    subst hq
    exact ⟨p.2, hp, rfl⟩
  · cases h

theorem digit_cases {n : Nat} (h : 48 ≤ n) (h' : n ≤ 57) : (n = 48 ∧ ((n : Nat) : Int) = 48) ∨ (n = 49 ∧ ((n : Nat) : Int) = 49) ∨ (n = 50 ∧ ((n : Nat) : Int) = 50) ∨ (n = 51 ∧ ((n : Nat) : Int) = 51) ∨ (n = 52 ∧ ((n : Nat) : Int) = 52) ∨ (n = 53 ∧ ((n : Nat) : Int) = 53) ∨ (n = 54 ∧ ((n : Nat) : Int) = 54) ∨ (n = 55 ∧ ((n : Nat) : Int) = 55) ∨ (n = 56 ∧ ((n : Nat) : Int) = 56) ∨ (n = 57 ∧ ((n : Nat) : Int) = 57) := by omega

set_option maxRecDepth 100000 in
set_option maxHeartbeats 1600000 in
theorem uint_ok {ae : Addr} {b o : Nat} {s : ByteArray} {i v n : Nat} {w : World} (h : Lx ae b o s i w) (hu : uintF (s.data.toList.drop i) 0 = some (v, n)) :
    Calls Tryz.prog 150 #[.pointer (some ⟨b, o, none⟩)] w fun e w' => e = .returned (.tuple #[.int .u64 v, .nilIface]) ∧ Mv b (o + 1) (i + n) w w' := by
  have H := Lib.hid h
  have HU := Lib.hid hu
  have HM := Lib.hid h.refl
  clear h hu
  go_enter Tryz.func150, Tryz.ntmps150
  go_wp2
  go_loopg [2] (s.size - i) (fun k x wr => ∃ j acc m : Nat, k = s.size - j ∧ i ≤ j ∧ j ≤ s.size ∧ j + m = i + n ∧ uintF (s.data.toList.drop j) acc = some (v, m) ∧ x = .int .u64 acc ∧ Lx ae b o s j wr ∧ Mv b (o + 1) j w wr)
  case atStart => exact ⟨i, 0, n, rfl, Nat.le_refl _, H.out.le, rfl, HU.out, rfl, H.out, HM.out⟩
  case round =>
    obtain ⟨j, acc, m, hk, hij, hjs, hjm, hu, rfl, hl, hm⟩ := hrel
    have HL := Lib.hid hl
    have HM' := Lib.hid hm
    have HK := Lib.hid hk
    have HJM := Lib.hid hjm
    have HU' := Lib.hid hu
    clear hk hu hjm
    have heof := hl.eof
    clear hl hm
    by_cases hlt : j < s.size
    · have HD := Lib.hid (drop_cons hlt)
      cases hn : isNl s[j] with
      | true =>
        have HN := Lib.hid hn
        clear hn
        go_wp2_with fail
        refine (readByte_ok HL.out hlt).mono ?_
        rintro e w1 ⟨rfl, hm1⟩
        have HL1 := Lib.hid (HL.out.mv hm1 hlt)
        have HM1 := Lib.hid (HM'.out.trans hm1)
        have heof1 := HL1.out.eof
        clear hm1 heof
        go_wp2_with (first | (go_at_call 148; refine (is_nil _ _).mono ?_; rintro e w2 ⟨rfl, rfl⟩) | (go_at_call 171; refine (newline_yes _ _ (nl_yes HN.out)).mono ?_; rintro e w2 ⟨rfl, rfl⟩) | (go_at_call 174; refine (unread_ok HL1.out).mono ?_; rintro e w3 ⟨rfl, hm3⟩; have HM3 := Lib.hid (HM1.out.trans hm3); clear hm3))
        go_ret2
        have h1 := HU'.out
        rw [HD.out, uintF, HN.out] at h1
        simp only [if_true, Option.some.injEq, Prod.mk.injEq] at h1
        have h2 := HJM.out
        obtain ⟨h3, h4⟩ := h1
        have h5 : i + n = j := by omega
        rw [h5, ← h3]
        exact ⟨rfl, HM3.out⟩
      | false =>
        have HN := Lib.hid hn
        clear hn
        cases hw : isWs s[j] with
        | true =>
          have HW := Lib.hid hw
          clear hw
          go_wp2_with fail
          refine (readByte_ok HL.out hlt).mono ?_
          rintro e w1 ⟨rfl, hm1⟩
          have HL1 := Lib.hid (HL.out.mv hm1 hlt)
          have HM1 := Lib.hid (HM'.out.trans hm1)
          have heof1 := HL1.out.eof
          clear hm1 heof
          go_wp2_with (first | (go_at_call 148; refine (is_nil _ _).mono ?_; rintro e w2 ⟨rfl, rfl⟩) | (go_at_call 171; refine (newline_no _ _ (nl_no HN.out).1 (nl_no HN.out).2).mono ?_; rintro e w2 ⟨rfl, rfl⟩) | (go_at_call 175; refine (blank_yes _ _ (ws_yes HW.out)).mono ?_; rintro e w2 ⟨rfl, rfl⟩) | (go_at_call 176; refine (whitespace_ok HL1.out).mono ?_; rintro e w3 ⟨rfl, hm3⟩; have HM3 := Lib.hid (HM1.out.trans hm3); clear hm3))
          go_ret2
          have h1 := HU'.out
          rw [HD.out, uintF, HN.out, HW.out] at h1
          simp only [if_true, Bool.false_eq_true, if_false, Option.some.injEq, Prod.mk.injEq] at h1
          have h2 := HJM.out
          obtain ⟨h3, h4⟩ := h1
          have h5 : i + n = j + 1 + lead isWs (s.data.toList.drop (j + 1)) := by omega
          rw [h5, ← h3]
          exact ⟨rfl, HM3.out⟩
        | false =>
          have HW := Lib.hid hw
          clear hw
          have h1 := HU'.out
          rw [HD.out] at h1
          obtain ⟨hd1, hd2, hacc, m', hm', hmm⟩ := uint_digit HN.out HW.out h1
          have HM2 := Lib.hid hm'
          have HMM := Lib.hid hmm
          clear h1 hm' hmm
          have nl := nl_no HN.out
          have ws := ws_no HW.out
          rcases digit_cases hd1 hd2 with ⟨hc, hcb⟩ | ⟨hc, hcb⟩ | ⟨hc, hcb⟩ | ⟨hc, hcb⟩ | ⟨hc, hcb⟩ | ⟨hc, hcb⟩ | ⟨hc, hcb⟩ | ⟨hc, hcb⟩ | ⟨hc, hcb⟩ | ⟨hc, hcb⟩
          all_goals
            have HC := Lib.hid hc
            clear nl ws hd1 hd2
            clear hc
            go_wp2_with fail
            refine (readByte_ok HL.out hlt).mono ?_
            rw [hcb]
            rintro e w1 ⟨rfl, hm1⟩
            have HL1 := Lib.hid (HL.out.mv hm1 hlt)
            have HM1 := Lib.hid (HM'.out.trans hm1)
            have heof1 := HL1.out.eof
            clear hm1 heof
            clear hcb
            go_wp2_with (first | (go_at_call 148; refine (is_nil _ _).mono ?_; rintro e w2 ⟨rfl, rfl⟩) | (go_at_call 171; refine (newline_no _ _ (by decide) (by decide)).mono ?_; rintro e w2 ⟨rfl, rfl⟩) | (go_at_call 175; refine (blank_no _ _ (by decide) (by decide)).mono ?_; rintro e w2 ⟨rfl, rfl⟩))
            go_roundg (s.size - (j + 1))
            case measure => have := HK.out; omega
            case rel =>
              have e1 := HM2.out
              rw [HC.out] at e1
              exact ⟨j + 1, _, m', rfl, by omega, hlt, by have := HJM.out; have := HMM.out; omega, e1, by go_num, HL1.out, HM1.out⟩
    · have hj : j = s.size := by omega
      have HJ := Lib.hid hj
      clear hj
      have h1 := HU'.out
      rw [HJ.out, drop_nil, uintF] at h1
      have hp : 0 < acc := by
        by_cases h : 0 < acc
        · exact h
        · rw [if_neg h] at h1; cases h1
      rw [if_pos hp] at h1
      simp only [Option.some.injEq, Prod.mk.injEq] at h1
      have HQ := Lib.hid h1
      clear h1
      have hp' : (0 : Int) < (acc : Int) := by omega
      go_wp2_with fail
      refine (readByte_eof HL.out HJ.out).mono ?_
      rintro e w1 ⟨rfl, hm1⟩
      have HL1 := Lib.hid (HL.out.mv hm1 hjs)
      have HM1 := Lib.hid (HM'.out.trans hm1)
      have heof1 := HL1.out.eof
      clear hm1 heof
      go_wp2_with (first | (go_at_call 148; refine (is_same _ _).mono ?_; rintro e w2 ⟨rfl, rfl⟩))
      go_ret2
      obtain ⟨h3, h4⟩ := HQ.out
      have h2 := HJM.out
      have h5 : i + n = j := by omega
      rw [h5, ← h3]
      exact ⟨rfl, HM1.out⟩
end Go.Proofs.YtimonhimfioohaaGreatDoor
