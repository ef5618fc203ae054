/- The lexer's readers of fields, lines and types (package sdp), each by its walk. -/
import Derived.Test.YtimonhimfioohaaGreatDoorRead
namespace Go.Proofs.YtimonhimfioohaaGreatDoor
open Go.RowKit

def isWord (c : UInt8) : Bool := !isNl c && !isWs c

/-- A field: its length and how many bytes are read. -/
def fieldF (l : List UInt8) : Nat × Nat :=
  (lead isWord l, match List.drop (lead isWord l) l with | [] => lead isWord l | c :: r => if isNl c then lead isWord l else lead isWord l + 1 + lead isWs r)

theorem isWord_true {c : UInt8} (h : isWord c = true) : isNl c = false ∧ isWs c = false := by
  unfold isWord at h; simpa using h

theorem isWord_false {c : UInt8} (h : isWord c = false) : isNl c = true ∨ (isNl c = false ∧ isWs c = true) := by
  unfold isWord at h
  cases h1 : isNl c <;> cases h2 : isWs c <;> simp_all

theorem extract_list (s : ByteArray) (i j : Nat) : s.extract i j = ⟨((s.data.toList.drop i).take (j - i)).toArray⟩ := by
  apply ByteArray.ext
  rw [ByteArray.data_extract]
  apply Array.ext'
  simp

theorem slice_len {s : ByteArray} {i j m : Nat} (h : j = i + m) : s.extract i j = ⟨((s.data.toList.drop i).take m).toArray⟩ := by
  rw [extract_list]; congr; omega

theorem adv_le {s : ByteArray} {p : UInt8 → Bool} {i : Nat} (h : i ≤ s.size) : i + lead p (s.data.toList.drop i) ≤ s.size := by
  have h1 := lead_le p (s.data.toList.drop i)
  rw [List.length_drop] at h1
  have : s.data.toList.length = s.size := by simp
  omega

theorem drop_drop_eq {l : List UInt8} {i j m : Nat} (h : j = i + m) : (l.drop i).drop m = l.drop j := by rw [List.drop_drop, h]

set_option maxRecDepth 100000 in
set_option maxHeartbeats 800000 in
theorem field_ok {ae : Addr} {b o : Nat} {s : ByteArray} {i : Nat} {w : World} (h : Lx ae b o s i w) (hne : s.data.toList.drop i ≠ []) :
    Calls Tryz.prog 191 #[.pointer (some ⟨b, o, none⟩)] w fun e w' => e = .returned (.tuple #[.string ⟨((s.data.toList.drop i).take (fieldF (s.data.toList.drop i)).1).toArray⟩, .nilIface]) ∧ Mv b (o + 1) (i + (fieldF (s.data.toList.drop i)).2) w w' := by
  have H := Lib.hid h
  have HM := Lib.hid h.refl
  have h1 := h.pos
  have h2 := h.str
  have HNE := Lib.hid hne
  clear h hne
  go_enter Tryz.func191, Tryz.ntmps191
  go_wp2
  go_loopg [5] (s.size - i) (fun k x wr => ∃ j : Nat, k = s.size - j ∧ i ≤ j ∧ j ≤ s.size ∧ j + lead isWord (s.data.toList.drop j) = i + lead isWord (s.data.toList.drop i) ∧ Lx ae b o s j wr ∧ Mv b (o + 1) j w wr)
  case atStart => exact ⟨i, rfl, Nat.le_refl _, H.out.le, rfl, H.out, HM.out⟩
  case round =>
    obtain ⟨j, hk, hij, hjs, hlead, hl, hm⟩ := hrel
    have HL := Lib.hid hl
    have HM' := Lib.hid hm
    have HK := Lib.hid hk
    have HLead := Lib.hid hlead
    clear hk hlead h1 h2
    have heof := hl.eof
    have hpos := hl.pos
    have hsz := hl.sz
    clear hl hm
    by_cases hlt : j < s.size
    · have HD := Lib.hid (drop_cons hlt)
      cases hn : isWord s[j] with
      | true =>
        have HN := Lib.hid hn
        have hw := isWord_true hn
        have HN1 := Lib.hid hw.1
        have HN2 := Lib.hid hw.2
        clear hn hw
        go_wp2_with fail
        refine (readByte_ok HL.out hlt).mono ?_
        rintro e w1 ⟨rfl, hm1⟩
        have HL1 := Lib.hid (HL.out.mv hm1 hlt)
        have HM1 := Lib.hid (HM'.out.trans hm1)
        have heof1 := HL1.out.eof
        clear hm1 heof hpos
        go_wp2_with (first | (go_at_call 148; refine (is_nil _ _).mono ?_; rintro e w2 ⟨rfl, rfl⟩) | (go_at_call 171; refine (newline_no _ _ (nl_no HN1.out).1 (nl_no HN1.out).2).mono ?_; rintro e w2 ⟨rfl, rfl⟩) | (go_at_call 175; refine (blank_no _ _ (ws_no HN2.out).1 (ws_no HN2.out).2).mono ?_; rintro e w2 ⟨rfl, rfl⟩))
        go_roundg (s.size - (j + 1))
        case measure => have := HK.out; omega
        case rel => exact ⟨j + 1, rfl, by omega, hlt, by have h1 := HLead.out; rw [HD.out, lead_cons_yes HN.out] at h1; omega, HL1.out, HM1.out⟩
      | false =>
        have HLe := Lib.hid (show j = i + lead isWord (s.data.toList.drop i) from by have h1 := HLead.out; rw [HD.out, lead_cons_no hn] at h1; omega)
        rcases isWord_false hn with hw | ⟨hw1, hw2⟩
        · have HN := Lib.hid hw
          have hF : (fieldF (s.data.toList.drop i)).2 = lead isWord (s.data.toList.drop i) := by
            unfold fieldF; dsimp only; rw [drop_drop_eq HLe.out, HD.out]; dsimp only; rw [hw, if_pos rfl]
          have HF := Lib.hid hF
          clear hn hw hF
          go_wp2_with fail
          refine (readByte_ok HL.out hlt).mono ?_
          rintro e w1 ⟨rfl, hm1⟩
          have HL1 := Lib.hid (HL.out.mv hm1 hlt)
          have HM1 := Lib.hid (HM'.out.trans hm1)
          have heof1 := HL1.out.eof
          clear hm1 heof hpos
          go_wp2_with (first | (go_at_call 148; refine (is_nil _ _).mono ?_; rintro e w2 ⟨rfl, rfl⟩) | (go_at_call 171; refine (newline_yes _ _ (nl_yes HN.out)).mono ?_; rintro e w2 ⟨rfl, rfl⟩) | (go_at_call 174; refine (unread_ok HL1.out).mono ?_; rintro e w3 ⟨rfl, hm3⟩; have HM3 := Lib.hid (HM1.out.trans hm3); have hstr3 := (HL1.out.mv hm3 hjs).str; clear hm3) | (go_at_call 197; refine (copyString_any _ _ _).mono ?_; rintro e w4 ⟨rfl, rfl⟩))
          go_ret2
          rw [HF.out, slice_len HLe.out, ← HLe.out]
          exact ⟨rfl, HM3.out⟩
        · have HN := Lib.hid hw1
          have HW := Lib.hid hw2
          have hF : i + (fieldF (s.data.toList.drop i)).2 = j + 1 + lead isWs (s.data.toList.drop (j + 1)) := by
            unfold fieldF; dsimp only; rw [drop_drop_eq HLe.out, HD.out]; dsimp only; rw [hw1, if_neg (by decide)]; have := HLe.out; omega
          have HF := Lib.hid hF
          clear hn hw1 hw2 hF
          go_wp2_with fail
          refine (readByte_ok HL.out hlt).mono ?_
          rintro e w1 ⟨rfl, hm1⟩
          have HL1 := Lib.hid (HL.out.mv hm1 hlt)
          have HM1 := Lib.hid (HM'.out.trans hm1)
          have heof1 := HL1.out.eof
          clear hm1 heof hpos
          go_wp2_with (first | (go_at_call 148; refine (is_nil _ _).mono ?_; rintro e w2 ⟨rfl, rfl⟩) | (go_at_call 171; refine (newline_no _ _ (nl_no HN.out).1 (nl_no HN.out).2).mono ?_; rintro e w2 ⟨rfl, rfl⟩) | (go_at_call 175; refine (blank_yes _ _ (ws_yes HW.out)).mono ?_; rintro e w2 ⟨rfl, rfl⟩) | (go_at_call 176; refine (whitespace_ok HL1.out).mono ?_; rintro e w3 ⟨rfl, hm3⟩; have HM3 := Lib.hid (HM1.out.trans hm3); have hstr3 := (HL1.out.mv hm3 (adv_le HL1.out.le)).str; clear hm3) | (go_at_call 197; refine (copyString_any _ _ _).mono ?_; rintro e w4 ⟨rfl, rfl⟩))
          go_ret2
          rw [HF.out, slice_len HLe.out]
          exact ⟨rfl, HM3.out⟩
    · have hj : j = s.size := by omega
      have HJ := Lib.hid hj
      have HLe := Lib.hid (show j = i + lead isWord (s.data.toList.drop i) from by
        have h1 := HLead.out
        have h2 : lead isWord (s.data.toList.drop j) = 0 := by rw [hj, drop_nil]; rfl
        omega)
      have hF : (fieldF (s.data.toList.drop i)).2 = lead isWord (s.data.toList.drop i) := by
        unfold fieldF; dsimp only; rw [drop_drop_eq HLe.out, hj, drop_nil]
      have HF := Lib.hid hF
      have hij' : (i : Int) < (j : Int) := by
        by_cases hc : i < j
        · omega
        · exfalso; apply HNE.out; have : i = s.size := by omega
          rw [this, drop_nil]
      clear hj hF
      go_wp2_with fail
      refine (readByte_eof HL.out HJ.out).mono ?_
      rintro e w1 ⟨rfl, hm1⟩
      have HL1 := Lib.hid (HL.out.mv hm1 hjs)
      have HM1 := Lib.hid (HM'.out.trans hm1)
      have heof1 := HL1.out.eof
      have hstr1 := HL1.out.str
      clear hm1 heof hpos
      go_wp2_with (first | (go_at_call 148; refine (is_same _ _).mono ?_; rintro e w2 ⟨rfl, rfl⟩) | (go_at_call 197; refine (copyString_any _ _ _).mono ?_; rintro e w4 ⟨rfl, rfl⟩))
      go_ret2
      rw [HF.out, slice_len HLe.out, ← HLe.out]
      exact ⟨rfl, HM1.out⟩
end Go.Proofs.YtimonhimfioohaaGreatDoor
