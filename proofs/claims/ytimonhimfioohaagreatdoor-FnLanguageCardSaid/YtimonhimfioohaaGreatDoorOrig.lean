/- unmarshalProtocolVersion, unmarshalOrigin, unmarshalSessionName (package sdp), by their walks. -/
import Derived.Test.YtimonhimfioohaaGreatDoorDesc
namespace Go.Proofs.YtimonhimfioohaaGreatDoor
open Go.RowKit

theorem anyOf_any (b off n c : Nat) (zs : List ByteArray) (x : ByteArray) (w : World) (hz : n ≤ zs.length) (hbig : n ≤ 9223372036854775807) (hc : ∀ j, j < zs.length → w.cell? ⟨b, off + j, none⟩ = some (.string (zs.getD j ByteArray.empty))) :
    Calls Tryz.prog 135 #[.string x, .slice (some ⟨b, off, none⟩) n c] w fun e w' => e = .returned (.bool (Lib.containsS (zs.take n) x)) ∧ w = w' := by
  have H := Lib.hid (Tryz.slices_Contains_string b off n c zs x w hz hbig hc)
  clear hc hz hbig
  go_enter Tryz.func135, Tryz.ntmps135
  go_wp2_with (go_at_call 156; refine H.out.mono ?_; rintro e w1 ⟨rfl, rfl⟩)
  go_ret
  exact ⟨rfl, rfl⟩

section
variable {ae : Addr} {S : Nat → Prop} {L D C : Nat} {s : ByteArray} {w0 : World} {cs : Array Value} {i : Nat} {w : World}

/-- 'v=0'. -/
theorem version_line (h : St ae S L D C s w0 cs i w) {r : List UInt8} (hl : s.data.toList.drop i = 48 :: 13 :: 10 :: r) (hr : lead isNl r = 0) :
    Calls Tryz.prog 129 #[.pointer (some ⟨L, 0, none⟩)] w fun e w' => e = .returned (.tuple #[.func (.func 152) #[] #[], .nilIface]) ∧ St ae S L D C s w0 cs (i + 3) w' := by
  have hu : uintF (s.data.toList.drop i) 0 = some (0, 1) := by rw [hl]; rfl
  have h1 : s.data.toList.drop (i + 1) = 13 :: 10 :: r := step_drop hl rfl
  have hlen : i + 3 ≤ s.size := drop_len hl (by simp) h.le
  have hm : i + 1 + lead isNl (s.data.toList.drop (i + 1)) = i + 3 := by
    rw [h1]
    have e1 : lead isNl (13 :: 10 :: r) = lead isNl r + 1 + 1 := rfl
    rw [e1, hr]
  have H := Lib.hid h
  have HU := Lib.hid hu
  have HM := Lib.hid hm
  clear h hu hl hr h1 hm
  go_enter Tryz.func129, Tryz.ntmps129
  go_wp2_with (first | (go_at_call 150; refine (uint_ok H.out.lx HU.out).mono ?_; rintro e w1 ⟨rfl, hm1⟩; have H1 := Lib.hid (H.out.mv hm1 (by omega)); clear hm1) | (go_at_call 151; refine (nextLine_ok H1.out.lx).mono ?_; rw [HM.out]; rintro e w2 ⟨rfl, hm2⟩; have H2 := Lib.hid (H1.out.mv hm2 hlen); clear hm2))
  go_ret2
  exact ⟨rfl, H2.out⟩

/-- 's=x'. -/
theorem name_line (h : St ae S L D C s w0 cs i w) {r : List UInt8} (hl : s.data.toList.drop i = 120 :: 13 :: 10 :: r) :
    Calls Tryz.prog 200 #[.pointer (some ⟨L, 0, none⟩)] w fun e w' => e = .returned (.tuple #[.func (.func 202) #[] #[], .nilIface]) ∧ St ae S L D C s w0 (cs.setIfInBounds 7 (.string ⟨#[120]⟩)) (i + 3) w' := by
  have hn : lead notLf (s.data.toList.drop i) = 2 := by rw [hl]; rfl
  have hlen : i + 3 ≤ s.size := drop_len hl (by simp) h.le
  have hst : (⟨((s.data.toList.drop i).take (2 - crs s i 2)).toArray⟩ : ByteArray) = ⟨#[120]⟩ := by
    unfold crs; rw [hl]; rfl
  have hline := line_ok h.lx hn (by omega)
  rw [hst] at hline
  have H := Lib.hid h
  have HLine := Lib.hid hline
  clear h hn hl hst hline
  go_enter Tryz.func200, Tryz.ntmps200
  go_wp2_with (go_at_call 201; refine HLine.out.mono ?_; rintro e w1 ⟨rfl, hm1⟩; have h1 := H.out.mv hm1 hlen; have hp := h1.p0; have hf := h1.fz 7; obtain ⟨v7, hc⟩ := h1.dc 7 (by decide); have H1 := Lib.hid h1; clear hm1 h1)
  go_ret2
  exact ⟨rfl, H1.out.set 7 _⟩
theorem World.cell?_drew' (w : World) (a : Addr) : w.drew.cell? a = w.cell? a := rfl

theorem field_at {l : List UInt8} {n m j : Nat} {t : ByteArray} (h : St ae S L D C s w0 cs i w) (hl : s.data.toList.drop i = l) (hne : l ≠ []) (hf : fieldF l = (n, m)) (ht : (⟨(l.take n).toArray⟩ : ByteArray) = t) (hj : i + m = j) :
    Calls Tryz.prog 191 #[.pointer (some ⟨L, 2, none⟩)] w fun e w' => e = .returned (.tuple #[.string t, .nilIface]) ∧ Mv L (2 + 1) j w w' := by
  have h1 := field_ok h.lx (by rw [hl]; exact hne)
  rw [hl, hf] at h1
  dsimp only at h1
  rw [ht, hj] at h1
  exact h1

theorem St.got {k : Nat} {v : Value} (h : St ae S L D C s w0 (cs.setIfInBounds k v) i w) (hk : k < 19) : w.cell? ⟨D, k, none⟩ = some v := by
  have h1 := h.csz
  rw [Array.size_setIfInBounds] at h1
  exact blk_cell h.desc (by rw [Array.getElem?_setIfInBounds_self_of_lt (by omega)])

theorem uint_at {l : List UInt8} {v m j : Nat} (h : St ae S L D C s w0 cs i w) (hl : s.data.toList.drop i = l) (hf : uintF l 0 = some (v, m)) (hj : i + m = j) :
    Calls Tryz.prog 150 #[.pointer (some ⟨L, 2, none⟩)] w fun e w' => e = .returned (.tuple #[.int .u64 v, .nilIface]) ∧ Mv L (2 + 1) j w w' := by
  have h1 := uint_ok h.lx (by rw [hl]; exact hf)
  rw [hj] at h1
  exact h1
theorem required_at {l : List UInt8} {n m j : Nat} {t : ByteArray} (h : St ae S L D C s w0 cs i w) (hl : s.data.toList.drop i = l) (hn : 0 < n) (hf : fieldF l = (n, m)) (ht : (⟨(l.take n).toArray⟩ : ByteArray) = t) (hj : i + m = j) :
    Calls Tryz.prog 198 #[.pointer (some ⟨L, 0, none⟩)] w fun e w' => e = .returned (.tuple #[.string t, .nilIface]) ∧ Mv L (2 + 1) j w w' := by
  have h1 := required_ok h.lx (by rw [hl, hf]; exact hn)
  rw [hl, hf] at h1
  dsimp only at h1
  rw [ht, hj] at h1
  exact h1

theorem anyOf_one (a x : ByteArray) (w : World) (B : Nat) (hB : w.heap[B]? = some (.cells #[.string a] 9 (0, 0))) :
    Calls Tryz.prog 135 #[.string x, .slice (some ⟨B, 0, none⟩) 1 1] w fun e w' => e = .returned (.bool (Lib.containsS [a] x)) ∧ w = w' :=
  anyOf_any B 0 1 1 [a] x w (by simp) (by omega) (fun j hj => by
    have : j = 0 := by simpa using hj
    subst this
    exact blk_cell hB rfl)
theorem anyOf_two (a b x : ByteArray) (w : World) (B : Nat) (hB : w.heap[B]? = some (.cells #[.string a, .string b] 9 (0, 0))) :
    Calls Tryz.prog 135 #[.string x, .slice (some ⟨B, 0, none⟩) 2 2] w fun e w' => e = .returned (.bool (Lib.containsS [a, b] x)) ∧ w = w' :=
  anyOf_any B 0 2 2 [a, b] x w (by simp) (by omega) (fun j hj => by
    have : j = 0 ∨ j = 1 := by have : j < 2 := hj; omega
    rcases this with rfl | rfl
    · exact blk_cell hB rfl
    · exact blk_cell hB rfl)
theorem heap_new (w : World) (o : Obj) : (w.alloc o).heap[w.heap.size]? = some o := heap_alloc_new w o

theorem addrType_at {l : List UInt8} {n m j : Nat} {t : ByteArray} (h : St ae S L D C s w0 cs i w) (hl : s.data.toList.drop i = l) (hn : 0 < n) (hf : fieldF l = (n, m)) (ht : (⟨(l.take n).toArray⟩ : ByteArray) = t) (hj : i + m = j) (hjs : j ≤ s.size) :
    Calls Tryz.prog 192 #[.pointer (some ⟨L, 0, none⟩)] w fun e w' => e = .returned .nilIface ∧ St ae S L D C s w0 (cs.setIfInBounds 5 (.string t)) j w' := by
  have H := Lib.hid h
  have F := Lib.hid (required_at h hl hn hf ht hj)
  clear h hl hn hf ht hj
  go_enter Tryz.func192, Tryz.ntmps192
  go_wp2_with (go_at_call 198; refine F.out.mono ?_; rintro e w1 ⟨rfl, hm1⟩; have h1 := H.out.mv hm1 hjs; have hp := h1.p0; have hz := h1.fz 5; obtain ⟨v7, hc⟩ := h1.dc 5 (by decide); have H1 := Lib.hid h1; clear hm1 h1)
  go_ret
  exact ⟨rfl, H1.out.set 5 _⟩
theorem addr_at {l : List UInt8} {n m j : Nat} {t : ByteArray} (h : St ae S L D C s w0 cs i w) (hl : s.data.toList.drop i = l) (hn : 0 < n) (hf : fieldF l = (n, m)) (ht : (⟨(l.take n).toArray⟩ : ByteArray) = t) (hj : i + m = j) (hjs : j ≤ s.size) :
    Calls Tryz.prog 193 #[.pointer (some ⟨L, 0, none⟩)] w fun e w' => e = .returned .nilIface ∧ St ae S L D C s w0 (cs.setIfInBounds 6 (.string t)) j w' := by
  have H := Lib.hid h
  have F := Lib.hid (required_at h hl hn hf ht hj)
  clear h hl hn hf ht hj
  go_enter Tryz.func193, Tryz.ntmps193
  go_wp2_with (go_at_call 198; refine F.out.mono ?_; rintro e w1 ⟨rfl, hm1⟩; have h1 := H.out.mv hm1 hjs; have hp := h1.p0; have hz := h1.fz 6; obtain ⟨v7, hc⟩ := h1.dc 6 (by decide); have H1 := Lib.hid h1; clear hm1 h1)
  go_ret
  exact ⟨rfl, H1.out.set 6 _⟩

set_option maxRecDepth 100000 in
set_option maxHeartbeats 1600000 in
/-- 'o=- 1 1 IN IP4 a'. -/
theorem origin_line (h : St ae S L D C s w0 cs i w) {r : List UInt8} (hl : s.data.toList.drop i = 45 :: 32 :: 49 :: 32 :: 49 :: 32 :: 73 :: 78 :: 32 :: 73 :: 80 :: 52 :: 32 :: 97 :: 13 :: 10 :: r) (hr : lead isNl r = 0) :
    Calls Tryz.prog 178 #[.pointer (some ⟨L, 0, none⟩)] w fun e w' => e = .returned (.tuple #[.func (.func 194) #[] #[], .nilIface]) ∧ St ae S L D C s w0 ((((((cs.setIfInBounds 1 (.string ⟨#[45]⟩)).setIfInBounds 2 (.int .u64 1)).setIfInBounds 3 (.int .u64 1)).setIfInBounds 4 (.string ⟨#[73, 78]⟩)).setIfInBounds 5 (.string ⟨#[73, 80, 52]⟩)).setIfInBounds 6 (.string ⟨#[97]⟩)) (i + 16) w' := by
  have hlen : i + 16 ≤ s.size := drop_len hl (by simp) h.le
  have HL := Lib.hid hl
  have HR := Lib.hid hr
  have hld : ¬ (D = L) := fun e => h.ld e.symm
  have H0 := Lib.hid h
  have HX := Lib.hid (show lead isNl (s.data.toList.drop (i + 14)) = 2 from by rw [step_drop hl rfl]; show lead isNl r + 1 + 1 = 2; rw [hr])
  clear h hl hr
  go_enter Tryz.func178, Tryz.ntmps178
  have F1 := Lib.hid (field_at (H0.out).drew HL.out (by simp) (n := 1) (m := 2) rfl (t := ⟨#[45]⟩) rfl (j := i + 2) rfl)
  have hp1 := (H0.out).p0
  have hz1 := (H0.out).fz 1
  go_wp2_with fail
  go_region_held3 (fun w' => w'.cell? ⟨L, 0, none⟩ = some (.pointer (some ⟨D, 0, none⟩))) (first | (simp [go_sem, *]; done)) (first | (go_at_call 191; refine F1.out.mono ?_; rintro e w1 ⟨rfl, hm1⟩; have h1 := (H0.out).drew.mv hm1 (by omega); have hq1 := h1.p0; have hy1 := h1.fz 1; obtain ⟨v1, hc1⟩ := h1.dc 1 (by decide); have H1a := Lib.hid h1; clear hm1 h1))
  have h1b := (H1a.out).set 1 (.string ⟨#[45]⟩)
  clear hp1 hz1 hq1 hy1 hc1
  generalize w1.setCell ⟨D, 1, none⟩ (.string ⟨#[45]⟩) = W1 at *
  have H1 := Lib.hid h1b
  clear h1b
  have F2 := Lib.hid (uint_at (H1.out).drew (step_drop HL.out rfl) (v := 1) (m := 2) rfl (j := i + 4) rfl)
  have hp2 := (H1.out).p0
  have hz2 := (H1.out).fz 2
  go_wp2_with fail
  go_region_held3 (fun w' => w'.cell? ⟨L, 0, none⟩ = some (.pointer (some ⟨D, 0, none⟩))) (first | (simp [go_sem, *]; done)) (first | (go_at_call 150; refine F2.out.mono ?_; rintro e w2 ⟨rfl, hm2⟩; have h2 := (H1.out).drew.mv hm2 (by omega); have hq2 := h2.p0; have hy2 := h2.fz 2; obtain ⟨v2, hc2⟩ := h2.dc 2 (by decide); have H2a := Lib.hid h2; clear hm2 h2))
  have h2b := (H2a.out).set 2 (.int .u64 1)
  clear hp2 hz2 hq2 hy2 hc2
  generalize w2.setCell ⟨D, 2, none⟩ (.int .u64 1) = W2 at *
  have H2 := Lib.hid h2b
  clear h2b
  have F3 := Lib.hid (uint_at (H2.out).drew (step_drop HL.out rfl) (v := 1) (m := 2) rfl (j := i + 6) rfl)
  have hp3 := (H2.out).p0
  have hz3 := (H2.out).fz 3
  go_wp2_with fail
  go_region_held3 (fun w' => w'.cell? ⟨L, 0, none⟩ = some (.pointer (some ⟨D, 0, none⟩))) (first | (simp [go_sem, *]; done)) (first | (go_at_call 150; refine F3.out.mono ?_; rintro e w3 ⟨rfl, hm3⟩; have h3 := (H2.out).drew.mv hm3 (by omega); have hq3 := h3.p0; have hy3 := h3.fz 3; obtain ⟨v3, hc3⟩ := h3.dc 3 (by decide); have H3a := Lib.hid h3; clear hm3 h3))
  have h3b := (H3a.out).set 3 (.int .u64 1)
  clear hp3 hz3 hq3 hy3 hc3
  generalize w3.setCell ⟨D, 3, none⟩ (.int .u64 1) = W3 at *
  have H3 := Lib.hid h3b
  clear h3b
  have F4 := Lib.hid (field_at (H3.out).drew (step_drop HL.out rfl) (by simp) (n := 2) (m := 3) rfl (t := ⟨#[73, 78]⟩) rfl (j := i + 9) rfl)
  have hp4 := (H3.out).p0
  have hz4 := (H3.out).fz 4
  go_wp2_with fail
  go_region_held3 (fun w' => w'.cell? ⟨L, 0, none⟩ = some (.pointer (some ⟨D, 0, none⟩))) (first | (simp [go_sem, *]; done)) (first | (go_at_call 191; refine F4.out.mono ?_; rintro e w4 ⟨rfl, hm4⟩; have h4 := (H3.out).drew.mv hm4 (by omega); have hq4 := h4.p0; have hy4 := h4.fz 4; obtain ⟨v4, hc4⟩ := h4.dc 4 (by decide); have H4a := Lib.hid h4; clear hm4 h4))
  have h4b := (H4a.out).set 4 (.string ⟨#[73, 78]⟩)
  clear hp4 hz4 hq4 hy4 hc4
  generalize w4.setCell ⟨D, 4, none⟩ (.string ⟨#[73, 78]⟩) = W4 at *
  have H4 := Lib.hid h4b
  clear h4b
  have hp5 := (H4.out).p0
  have hg5 := (H4.out).got (by decide)
  have ha5 := anyOf_one ⟨#[73, 78]⟩ ⟨#[73, 78]⟩ (W4.alloc (.cells #[.string ⟨#[73, 78]⟩] 9)) W4.heap.size (heap_new _ _)
  rw [show Lib.containsS [⟨#[73, 78]⟩] ⟨#[73, 78]⟩ = true from by decide +kernel] at ha5
  have HA5 := Lib.hid ha5
  clear ha5
  go_wp2_with (first | (go_at_call 135; refine HA5.out.mono ?_; rintro e w5 ⟨rfl, rfl⟩) | (go_at_call 192; refine Hid.out ?_))
  refine Lib.hid ?_
  clear hp5 hg5
  have H5 := Lib.hid ((H4.out).alloc (.cells #[.string ⟨#[73, 78]⟩] 9))
  generalize W4.alloc (.cells #[.string ⟨#[73, 78]⟩] 9) = W5 at *
  refine (addrType_at H5.out (step_drop HL.out rfl) (n := 3) (m := 4) (by decide) rfl (t := ⟨#[73, 80, 52]⟩) rfl (j := i + 13) rfl (by omega)).mono ?_
  rintro e W6 ⟨rfl, h6⟩
  have H6 := Lib.hid h6
  have hp6 := h6.p0
  have hg6 := h6.got (by decide)
  clear h6
  have ha6 := anyOf_two ⟨#[73, 80, 52]⟩ ⟨#[73, 80, 54]⟩ ⟨#[73, 80, 52]⟩ (W6.alloc (.cells #[.string ⟨#[73, 80, 52]⟩, .string ⟨#[73, 80, 54]⟩] 9)) W6.heap.size (heap_new _ _)
  rw [show Lib.containsS [⟨#[73, 80, 52]⟩, ⟨#[73, 80, 54]⟩] ⟨#[73, 80, 52]⟩ = true from by decide +kernel] at ha6
  have HA6 := Lib.hid ha6
  clear ha6
  go_wp2_with (first | (go_at_call 135; refine HA6.out.mono ?_; rintro e w5 ⟨rfl, rfl⟩) | (go_at_call 193; refine Hid.out ?_))
  refine Lib.hid ?_
  clear hp6 hg6
  have H7 := Lib.hid ((H6.out).alloc (.cells #[.string ⟨#[73, 80, 52]⟩, .string ⟨#[73, 80, 54]⟩] 9))
  generalize W6.alloc (.cells #[.string ⟨#[73, 80, 52]⟩, .string ⟨#[73, 80, 54]⟩] 9) = W7 at *
  refine (addr_at H7.out (step_drop HL.out rfl) (n := 1) (m := 1) (by decide) rfl (t := ⟨#[97]⟩) rfl (j := i + 14) rfl (by omega)).mono ?_
  rintro e W8 ⟨rfl, h8⟩
  have H8 := Lib.hid h8
  clear h8
  go_wp2_with (go_at_call 151; refine (nextLine_ok H8.out.lx).mono ?_; rw [HX.out]; rintro e w9 ⟨rfl, hm9⟩; have H9 := Lib.hid (H8.out.mv hm9 hlen); clear hm9)
  go_ret2
  exact ⟨rfl, H9.out⟩
end
end Go.Proofs.YtimonhimfioohaaGreatDoor
