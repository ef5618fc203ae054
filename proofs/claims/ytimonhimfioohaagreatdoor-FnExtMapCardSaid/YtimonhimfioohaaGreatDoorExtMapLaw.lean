/- FnExtMap's walk. -/
import Derived.Test.YtimonhimfioohaaGreatDoorExtG
import Derived.Test.YtimonhimfioohaaGreatDoorLinesEq
import Derived.Deep.CutRange
namespace Go.Proofs.YtimonhimfioohaaGreatDoor
open Go.RowKit

set_option maxRecDepth 100000 in
set_option maxHeartbeats 8000000 in
theorem fnExtMap_walk {ae : Addr} {z0 d : Int} {uri av : ByteArray} {w : World} (hT : AsciiT w) (htab : Lib.TabIs Tryz.prog w "internal/strconv.uint64pow10" .u64 Lib.pow10Tab) (h6 : w.cell? ⟨6, 0, none⟩ = some (.iface 342 (.pointer (some ae)))) :
    Calls Tryz.prog 11 #[.int .i64 z0, .int .i64 d, .string uri, .string av] w fun e w' => e = .returned (.bool true) ∧ Ch (fun _ => False) w w' := by
  have HT := Lib.hid hT
  have HTB := Lib.hid htab
  have H6 := Lib.hid h6
  have h61l := World.block_lt_of_cell? _ _ h6
  have h61 := h6
  clear hT htab h6
  go_enter Tryz.func11, Tryz.ntmps11
  by_cases huz : 2147483647 < uri.size
  · go_wp2
    go_ret
    exact ⟨rfl, Ch.refl _ _⟩
  by_cases haz : 2147483647 < av.size
  · go_wp2
    go_ret
    exact ⟨rfl, Ch.refl _ _⟩
  by_cases hva : z0 < 1
  · go_wp2_with (go_at_call 13; refine (works_true h61 h61l).mono ?_; rintro e w1 ⟨rfl, hc⟩)
    go_ret
    exact ⟨rfl, hc⟩
  by_cases hvb : 246 < z0
  · go_wp2_with (go_at_call 13; refine (works_true h61 h61l).mono ?_; rintro e w1 ⟨rfl, hc⟩)
    go_ret
    exact ⟨rfl, hc⟩
  by_cases hda : d < 0
  · go_wp2_with (go_at_call 13; refine (works_true h61 h61l).mono ?_; rintro e w1 ⟨rfl, hc⟩)
    go_ret
    exact ⟨rfl, hc⟩
  by_cases hdb : 4 < d
  · go_wp2_with (go_at_call 13; refine (works_true h61 h61l).mono ?_; rintro e w1 ⟨rfl, hc⟩)
    go_ret
    exact ⟨rfl, hc⟩
  have HL := Lib.hid (line_any (s := uri) (by omega) w)
  have HB := Lib.hid (blanks_any (s := uri) (by omega) w)
  have HLa := Lib.hid (line_any (s := av) (by omega) w)
  have HBa := Lib.hid (blanks_any (s := av) (by omega) w)
  go_wp2_with fail
  refine HL.out.mono ?_
  rintro e w1 ⟨⟨r, rfl, hr⟩, rfl⟩
  cases r with
  | false =>
    go_wp2_with (go_at_call 13; refine (works_true h61 h61l).mono ?_; rintro e w1 ⟨rfl, hc⟩)
    go_ret
    exact ⟨rfl, hc⟩
  | true =>
  have HRU := Lib.hid (hr rfl)
  clear hr
  go_wp2_with fail
  refine HB.out.mono ?_
  rintro e w1 ⟨⟨r, rfl, hr⟩, rfl⟩
  cases r with
  | true =>
    go_wp2_with (go_at_call 13; refine (works_true h61 h61l).mono ?_; rintro e w1 ⟨rfl, hc⟩)
    go_ret
    exact ⟨rfl, hc⟩
  | false =>
  have HGU := Lib.hid (show good uri from ⟨HRU.out.1, fun c hc => by have h1 := HRU.out.2 c hc; have h2 := hr rfl c hc; omega⟩)
  clear hr HRU HL HB
  obtain ⟨v, rfl⟩ := Int.eq_ofNat_of_zero_le (show 0 ≤ z0 by omega)
  have hv1 : 1 ≤ v := by omega
  have hv2' : v ≤ 246 := by omega
  have hv2 : v ≤ 246 := hv2'
  cases hfe : av.toList.isEmpty with
  | true =>
    clear HLa HBa h61 h61l
    have hal : Ch (fun _ => False) w ((w.alloc (.cells #[.string uri] 9)).alloc (.cells #[.int .i64 0, .int .i64 0, .slice none 0 0, .slice none 0 0] 85)) := (Ch.grown (World.grownBy_alloc _ _ none) (by simp)).trans (Ch.grown (World.grownBy_alloc _ _ none) (by simp))
    have hk0 : ((w.alloc (.cells #[.string uri] 9)).alloc (.cells #[.int .i64 0, .int .i64 0, .slice none 0 0, .slice none 0 0] 85)).heap[w.heap.size]? = some (.cells #[.string uri] 9 (0, 0)) := (Below.heap_alloc _ _ _ (by simp)).trans (heap_alloc_new w _)
    have hr0 : ((w.alloc (.cells #[.string uri] 9)).alloc (.cells #[.int .i64 0, .int .i64 0, .slice none 0 0, .slice none 0 0] 85)).heap[w.heap.size + 1]? = some (.cells #[.int .i64 0, .int .i64 0, .slice none 0 0, .slice none 0 0] 85 (0, 0)) := by
      have h1 := heap_alloc_new (w.alloc (.cells #[.string uri] 9)) (.cells #[.int .i64 0, .int .i64 0, .slice none 0 0, .slice none 0 0] 85)
      rw [World.size_alloc] at h1
      exact h1
    have HR0 := Lib.hid hr0
    have HZ := Lib.hid (show (#[.int .i64 v, .int .i64 d, .slice (some ⟨w.heap.size, 0, none⟩) 1 1, .slice none 0 0] : Array Value).all (·.oneCell') = true by as_aux_lemma => kernel_rfl)
    have HCA := Lib.hid hal
    have HK0 := Lib.hid hk0
    clear hal hr0 hk0
    go_wp2_with (refine wpList_store_row rfl 85 (.tmp 9) (.tmp 62) rfl (w.heap.size + 1) #[.int .i64 v, .int .i64 d, .slice (some ⟨w.heap.size, 0, none⟩) 1 1, .slice none 0 0] #[.int .i64 0, .int .i64 0, .slice none 0 0, .slice none 0 0] 85 rfl rfl HR0.out Tryz.size85 rfl HZ.out ?_; refine Hid.out ?_)
    have HE1 := Lib.hid (setRow_heap _ _ _ #[.int .i64 v, .int .i64 d, .slice (some ⟨w.heap.size, 0, none⟩) 1 1, .slice none 0 0] _ _ HR0.out)
    have HC1 := Lib.hid (show Ch (fun _ => False) w (((w.alloc (.cells #[.string uri] 9)).alloc (.cells #[.int .i64 0, .int .i64 0, .slice none 0 0, .slice none 0 0] 85)).setRow (w.heap.size + 1) #[.int .i64 v, .int .i64 d, .slice (some ⟨w.heap.size, 0, none⟩) 1 1, .slice none 0 0]) from HCA.out.setRow (.inl (by omega)) _)
    have HK1 := Lib.hid ((setRow_other ((w.alloc (.cells #[.string uri] 9)).alloc (.cells #[.int .i64 0, .int .i64 0, .slice none 0 0, .slice none 0 0] 85)) (w.heap.size + 1) w.heap.size #[.int .i64 v, .int .i64 d, .slice (some ⟨w.heap.size, 0, none⟩) 1 1, .slice none 0 0] (by omega)).trans HK0.out)
    clear HR0 HZ HCA HK0
    have HEG := Lib.hid (show w.heap.size ≤ w.heap.size + 1 ∧ w.heap.size ≠ w.heap.size + 1 by omega)
    generalize ((w.alloc (.cells #[.string uri] 9)).alloc (.cells #[.int .i64 0, .int .i64 0, .slice none 0 0, .slice none 0 0] 85)).setRow (w.heap.size + 1) #[.int .i64 v, .int .i64 d, .slice (some ⟨w.heap.size, 0, none⟩) 1 1, .slice none 0 0] = W1 at *
    obtain ⟨EB, hEB⟩ : ∃ EB, w.heap.size + 1 = EB := ⟨_, rfl⟩
    rw [hEB] at HE1 HEG ⊢
    clear hEB
    obtain ⟨k1, hk1⟩ : ∃ k1, w.heap.size = k1 := ⟨_, rfl⟩
    rw [hk1] at HE1 HK1 HEG
    have HKW := Lib.hid hk1
    clear hk1
    refine Lib.hid ?_
    obtain ⟨D, hD⟩ : ∃ D : ByteArray, (ByteArray.mk (Lib.decDigits v).toArray) = D := ⟨_, rfl⟩
    have hd20 : D.size ≤ 20 := by rw [← hD]; exact dec_len 19 v (Nat.lt_of_le_of_lt hv2 (by decide))
    have HF := Lib.hid (fun W => decimal_ok v (by omega) W)
    rw [hD] at HF
    have HD := Lib.hid hD
    clear hD
    have hw1 : IntKind.u64.wrap (v : Int) = v := by rw [IntKind.wrap_u64]; omega
    have y0 : (ByteArray.mk #[101, 120, 116, 109, 97, 112, 58]).size = 7 := rfl
    have y1 : (ByteArray.mk #[32]).size = 1 := rfl
    have y2 : (ByteArray.mk #[47]).size = 1 := rfl
    have z0 : ((ByteArray.mk #[101, 120, 116, 109, 97, 112, 58]) ++ D).size = (ByteArray.mk #[101, 120, 116, 109, 97, 112, 58]).size + D.size := ByteArray.size_append
    have z1 : ((ByteArray.mk #[47]) ++ directionText d).size = (ByteArray.mk #[47]).size + (directionText d).size := ByteArray.size_append
    have z2 : ((ByteArray.mk #[101, 120, 116, 109, 97, 112, 58]) ++ D ++ ((ByteArray.mk #[47]) ++ directionText d)).size = ((ByteArray.mk #[101, 120, 116, 109, 97, 112, 58]) ++ D).size + ((ByteArray.mk #[47]) ++ directionText d).size := ByteArray.size_append
    have z3 : ((ByteArray.mk #[32]) ++ uri).size = (ByteArray.mk #[32]).size + uri.size := ByteArray.size_append
    go_wp2_with fail
    refine (HF.out W1).mono ?_
    rintro e W2 ⟨rfl, hc2⟩
    have HC2 := Lib.hid (HC1.out.trans hc2)
    have HE2 := Lib.hid ((hc2.block _ (blk_lt HE1.out) id).trans HE1.out)
    have HK2 := Lib.hid ((hc2.block _ (blk_lt HK1.out) id).trans HK1.out)
    clear hc2 HC1 HE1 HK1 HF
    go_upto_if 68 with fail
    go_cut [10] from 13 to 76 (fun s10 wx => ∃ PT, s10 = .string PT ∧ PT.size ≤ 60 ∧ ((d = 0 ∧ PT = (ByteArray.mk #[101, 120, 116, 109, 97, 112, 58]) ++ D) ∨ (1 ≤ d ∧ PT = (ByteArray.mk #[101, 120, 116, 109, 97, 112, 58]) ++ D ++ ((ByteArray.mk #[47]) ++ directionText d))) ∧ Ch (fun _ => False) w wx ∧ wx.heap[EB]? = some (.cells #[.int .i64 v, .int .i64 d, .slice (some ⟨k1, 0, none⟩) 1 1, .slice none 0 0] 85 (0, 0)) ∧ wx.heap[k1]? = some (.cells #[.string uri] 9 (0, 0)))
    case first =>
      by_cases hd0 : d = 0
      · have hdz : ¬ ((0 : Int) < d) := by omega
        have HD0 := Lib.hid hd0
        clear hd0
        go_wp2_with fail
        go_meet
        exact ⟨_, rfl, by omega, .inl ⟨HD0.out, rfl⟩, HC2.out, HE2.out, HK2.out⟩
      · have hdp : (0 : Int) < d := by omega
        have hd8 : (directionText d).size = 8 := (dir_slash (by omega) (by omega)).2.1
        obtain ⟨j, hj⟩ : ∃ j : Nat, d = (j : Int) + 1 := ⟨(d - 1).toNat, by omega⟩
        have hj4 : j < 4 := by omega
        have hw2 : IntKind.i64.wrap (d - 1) = (j : Int) := by rw [IntWalk.i64_in _ (by omega)]; omega
        have hw3 : d - 1 = (j : Int) := by omega
        have hal : Ch (fun _ => False) W2 (W2.alloc (.cells #[.string (ByteArray.mk #[115, 101, 110, 100, 114, 101, 99, 118]), .string (ByteArray.mk #[115, 101, 110, 100, 111, 110, 108, 121]), .string (ByteArray.mk #[114, 101, 99, 118, 111, 110, 108, 121]), .string (ByteArray.mk #[105, 110, 97, 99, 116, 105, 118, 101])] 9)) := Ch.grown (World.grownBy_alloc _ _ none) (by simp)
        have hcd : (W2.alloc (.cells #[.string (ByteArray.mk #[115, 101, 110, 100, 114, 101, 99, 118]), .string (ByteArray.mk #[115, 101, 110, 100, 111, 110, 108, 121]), .string (ByteArray.mk #[114, 101, 99, 118, 111, 110, 108, 121]), .string (ByteArray.mk #[105, 110, 97, 99, 116, 105, 118, 101])] 9)).cell? ⟨W2.heap.size, j, none⟩ = some (.string (directionText d)) := by
          have hb : (W2.alloc (.cells #[.string (ByteArray.mk #[115, 101, 110, 100, 114, 101, 99, 118]), .string (ByteArray.mk #[115, 101, 110, 100, 111, 110, 108, 121]), .string (ByteArray.mk #[114, 101, 99, 118, 111, 110, 108, 121]), .string (ByteArray.mk #[105, 110, 97, 99, 116, 105, 118, 101])] 9)).heap[W2.heap.size]? = some (.cells #[.string (ByteArray.mk #[115, 101, 110, 100, 114, 101, 99, 118]), .string (ByteArray.mk #[115, 101, 110, 100, 111, 110, 108, 121]), .string (ByteArray.mk #[114, 101, 99, 118, 111, 110, 108, 121]), .string (ByteArray.mk #[105, 110, 97, 99, 116, 105, 118, 101])] 9 (0, 0)) := heap_alloc_new _ _
          subst hj
          have : j = 0 ∨ j = 1 ∨ j = 2 ∨ j = 3 := by omega
          rcases this with rfl | rfl | rfl | rfl <;> exact blk_cell hb rfl
        have HC3 := Lib.hid (HC2.out.trans hal)
        have HE3 := Lib.hid ((hal.block _ (blk_lt HE2.out) id).trans HE2.out)
        have HK3 := Lib.hid ((hal.block _ (blk_lt HK2.out) id).trans HK2.out)
        have HJ := Lib.hid hj
        clear hal hj
        go_wp2_with fail
        go_meet
        exact ⟨_, rfl, by omega, .inr ⟨by omega, rfl⟩, HC3.out, HE3.out, HK3.out⟩
    case rest =>
    obtain ⟨PT, rfl, hPs, hPT, hcw, hew, hkw⟩ := hcut
    have z4 : (PT ++ ((ByteArray.mk #[32]) ++ uri)).size = PT.size + ((ByteArray.mk #[32]) ++ uri).size := ByteArray.size_append
    have HX := Lib.hid (show extW D d uri ([] : List ByteArray) (PT ++ ((ByteArray.mk #[32]) ++ uri)) from ⟨PT, hPT, .inl ⟨rfl, rfl⟩⟩)
    have hXs : (PT ++ ((ByteArray.mk #[32]) ++ uri)).size ≤ 8589934592 := by omega
    rw [← HD.out] at HX
    have HPT := Lib.hid hPT
    clear hPT HC2 HE2 HK2 HD
    have HEw := Lib.hid hew
    have HKw := Lib.hid hkw
    have HCw := Lib.hid hcw
    clear hcw hew hkw
    go_wp2_with fail
    generalize wc = W3 at *
    have HPA := Lib.hid (parseExt_any (w := W3) (v := v) (d := d) (raw := PT ++ ((ByteArray.mk #[32]) ++ uri)) (U := uri) (ax := ([] : List ByteArray)) (by simp) (fun E W hE hc => want_reads HX.out hv1 hv2' (by omega) HGU.out (fun A hA => by simp at hA) hXs hE (HT.out.ch (HCw.out.trans hc))))
    refine HPA.out.mono ?_
    rintro e W4 ⟨A, c, B, cc, rfl, hla, hlb, hc4⟩
    have hal4 : Ch (fun _ => False) W4 (W4.alloc (.cells #[.int .i64 0, .int .i64 0, .slice none 0 0, .slice none 0 0] 85)) := Ch.grown (World.grownBy_alloc _ _ none) (by simp)
    have HR4 := Lib.hid (show (W4.alloc (.cells #[.int .i64 0, .int .i64 0, .slice none 0 0, .slice none 0 0] 85)).heap[W4.heap.size]? = some (.cells #[.int .i64 0, .int .i64 0, .slice none 0 0, .slice none 0 0] 85 (0, 0)) from heap_alloc_new _ _)
    have HZ4 := Lib.hid (show (#[.int .i64 v, .int .i64 d, .slice A 1 c, .slice B (List.length ([] : List ByteArray)) cc] : Array Value).all (·.oneCell') = true by as_aux_lemma => kernel_rfl)
    have HL4 := Lib.hid hal4
    have HLA := Lib.hid hla
    have HLB := Lib.hid hlb
    have HC4 := Lib.hid hc4
    clear hal4 hla hlb hc4 HPA
    go_wp2_with (refine wpList_store_row rfl 85 (.tmp 11) (.tmp 93) rfl W4.heap.size #[.int .i64 v, .int .i64 d, .slice A 1 c, .slice B (List.length ([] : List ByteArray)) cc] #[.int .i64 0, .int .i64 0, .slice none 0 0, .slice none 0 0] 85 rfl rfl HR4.out Tryz.size85 rfl HZ4.out ?_; refine Hid.out ?_)
    have hG5 := setRow_heap _ _ _ #[.int .i64 v, .int .i64 d, .slice A 1 c, .slice B (List.length ([] : List ByteArray)) cc] _ _ HR4.out
    have hc45 : Ch (fun _ => False) W4 ((W4.alloc (.cells #[.int .i64 0, .int .i64 0, .slice none 0 0, .slice none 0 0] 85)).setRow W4.heap.size #[.int .i64 v, .int .i64 d, .slice A 1 c, .slice B (List.length ([] : List ByteArray)) cc]) := HL4.out.setRow (.inl (Nat.le_refl _)) _
    have HG5 := Lib.hid hG5
    have hc35 := HC4.out.trans hc45
    have HC5 := Lib.hid (HCw.out.trans hc35)
    have HE5 := Lib.hid ((hc35.block _ (blk_lt HEw.out) id).trans HEw.out)
    have HK5 := Lib.hid ((hc35.block _ (blk_lt HKw.out) id).trans HKw.out)
    skip
    have HLA5 := Lib.hid (HLA.out.ch hc45)
    have HLB5 := Lib.hid (HLB.out.ch hc45)
    clear hG5 hc45 hc35 HLA HLB HC4 HL4 HR4 HZ4 HCw HEw HKw 
    generalize (W4.alloc (.cells #[.int .i64 0, .int .i64 0, .slice none 0 0, .slice none 0 0] 85)).setRow W4.heap.size #[.int .i64 v, .int .i64 d, .slice A 1 c, .slice B (List.length ([] : List ByteArray)) cc] = W5 at *
    obtain ⟨G, hG⟩ : ∃ G, W4.heap.size = G := ⟨_, rfl⟩
    rw [hG] at HG5 ⊢
    clear hG
    refine Lib.hid ?_
    go_wp2_with (refine wpList_load_row rfl 85 (.tmp 9) rfl EB rfl 85 #[.int .i64 v, .int .i64 d, .slice (some ⟨k1, 0, none⟩) 1 1, .slice none 0 0] (0, 0) _ HE5.out Tryz.underlying85 rfl Tryz.size85 ?_)
    refine (formatExt_any (w := W5) (v := v) (d := d) (U := uri) (X := PT ++ ((ByteArray.mk #[32]) ++ uri)) (ax := ([] : List ByteArray)) (lst_block (size := 1) (f := strC) (l := [uri]) (fun _ => rfl) HK5.out rfl) (fun k a ha => by simp at ha) (by simp) (fun k p q W hk hp hq hc => want_prints HX.out hv2' (by omega) (by omega) (fun A hA => by simp at hA) hk hp hq (tab_ch HTB.out (HC5.out.trans hc) id))).mono ?_
    rintro e W6 ⟨rfl, hc6⟩
    have HC6 := Lib.hid (HC5.out.trans hc6)
    have hG6 := (hc6.block _ (blk_lt HG5.out) id).trans HG5.out
    have hE6 := (hc6.block _ (blk_lt HE5.out) id).trans HE5.out
    have hK6 := (hc6.block _ (blk_lt HK5.out) id).trans HK5.out
    have g0 : W6.cell? ⟨G, 0, none⟩ = some (.int .i64 v) := blk_cell hG6 rfl
    have g1 : W6.cell? ⟨G, 1, none⟩ = some (.int .i64 d) := blk_cell hG6 rfl
    have g2 : W6.cell? ⟨G, 2, none⟩ = some (.slice A 1 c) := blk_cell hG6 rfl
    have g3 : W6.cell? ⟨G, 3, none⟩ = some (.slice B 0 cc) := blk_cell hG6 rfl
    have e2 : W6.cell? ⟨EB, 2, none⟩ = some (.slice (some ⟨k1, 0, none⟩) 1 1) := blk_cell hE6 rfl
    have e3 : W6.cell? ⟨EB, 3, none⟩ = some (.slice none 0 0) := blk_cell hE6 rfl
    have HG6 := Lib.hid hG6
    have HE6 := Lib.hid hE6
    have HN1 := Lib.hid (lines_any (l := [uri]) (c := c) (d := 1) (HLA5.out.ch hc6) (lst_block (size := 1) (f := strC) (l := [uri]) (fun _ => rfl) hK6 rfl) (by simp))
    have HLB6 := Lib.hid (HLB5.out.ch hc6)
    skip
    clear hG6 hE6 hK6 hc6
    go_wp2_with fail
    refine HN1.out.mono ?_
    rintro e W7 ⟨rfl, hc7⟩
    have HC7 := Lib.hid (HC6.out.trans hc7)
    have hG7 := (hc7.block _ (blk_lt HG6.out) id).trans HG6.out
    have hE7 := (hc7.block _ (blk_lt HE6.out) id).trans HE6.out
    have g3' : W7.cell? ⟨G, 3, none⟩ = some (.slice B 0 cc) := blk_cell hG7 rfl
    have e3' : W7.cell? ⟨EB, 3, none⟩ = some (.slice none 0 0) := blk_cell hE7 rfl
    have HN2 := Lib.hid (lines_any (l := ([] : List ByteArray)) (A := B) (B := none) (c := cc) (d := 0) (HLB6.out.ch hc7) (fun k a ha => by simp at ha) (by simp))
    clear hG7 hE7 hc7 g0 g1 g2 g3 e2 e3
    go_wp2_with fail
    refine HN2.out.mono ?_
    rintro e W8 ⟨rfl, hc8⟩
    have h61 := (HC7.out.trans hc8).cell H6.out id
    have h61l := World.block_lt_of_cell? _ _ h61
    have HC8 := Lib.hid (HC7.out.trans hc8)
    clear hc8
    go_wp2_with (go_at_call 13; refine (works_true h61 h61l).mono ?_; rintro e w9 ⟨rfl, hc⟩)
    go_ret
    exact ⟨rfl, HC8.out.trans hc⟩
  | false =>
    go_wp2_with fail
    refine HLa.out.mono ?_
    rintro e w1 ⟨⟨r, rfl, hr⟩, rfl⟩
    cases r with
    | false =>
      go_wp2_with (go_at_call 13; refine (works_true h61 h61l).mono ?_; rintro e w1 ⟨rfl, hc⟩)
      go_ret
      exact ⟨rfl, hc⟩
    | true =>
    have HRA := Lib.hid (hr rfl)
    clear hr
    go_wp2_with fail
    refine HBa.out.mono ?_
    rintro e w1 ⟨⟨r, rfl, hr⟩, rfl⟩
    cases r with
    | true =>
      go_wp2_with (go_at_call 13; refine (works_true h61 h61l).mono ?_; rintro e w1 ⟨rfl, hc⟩)
      go_ret
      exact ⟨rfl, hc⟩
    | false =>
    have HGA := Lib.hid (show good av from ⟨HRA.out.1, fun c hc => by have h1 := HRA.out.2 c hc; have h2 := hr rfl c hc; omega⟩)
    clear hr HRA HLa HBa h61 h61l
    have hal : Ch (fun _ => False) w ((w.alloc (.cells #[.string uri] 9)).alloc (.cells #[.int .i64 0, .int .i64 0, .slice none 0 0, .slice none 0 0] 85)) := (Ch.grown (World.grownBy_alloc _ _ none) (by simp)).trans (Ch.grown (World.grownBy_alloc _ _ none) (by simp))
    have hk0 : ((w.alloc (.cells #[.string uri] 9)).alloc (.cells #[.int .i64 0, .int .i64 0, .slice none 0 0, .slice none 0 0] 85)).heap[w.heap.size]? = some (.cells #[.string uri] 9 (0, 0)) := (Below.heap_alloc _ _ _ (by simp)).trans (heap_alloc_new w _)
    have hr0 : ((w.alloc (.cells #[.string uri] 9)).alloc (.cells #[.int .i64 0, .int .i64 0, .slice none 0 0, .slice none 0 0] 85)).heap[w.heap.size + 1]? = some (.cells #[.int .i64 0, .int .i64 0, .slice none 0 0, .slice none 0 0] 85 (0, 0)) := by
      have h1 := heap_alloc_new (w.alloc (.cells #[.string uri] 9)) (.cells #[.int .i64 0, .int .i64 0, .slice none 0 0, .slice none 0 0] 85)
      rw [World.size_alloc] at h1
      exact h1
    have HR0 := Lib.hid hr0
    have HZ := Lib.hid (show (#[.int .i64 v, .int .i64 d, .slice (some ⟨w.heap.size, 0, none⟩) 1 1, .slice none 0 0] : Array Value).all (·.oneCell') = true by as_aux_lemma => kernel_rfl)
    have HCA := Lib.hid hal
    have HK0 := Lib.hid hk0
    clear hal hr0 hk0
    go_wp2_with (refine wpList_store_row rfl 85 (.tmp 9) (.tmp 62) rfl (w.heap.size + 1) #[.int .i64 v, .int .i64 d, .slice (some ⟨w.heap.size, 0, none⟩) 1 1, .slice none 0 0] #[.int .i64 0, .int .i64 0, .slice none 0 0, .slice none 0 0] 85 rfl rfl HR0.out Tryz.size85 rfl HZ.out ?_; refine Hid.out ?_)
    have HE1 := Lib.hid (setRow_heap _ _ _ #[.int .i64 v, .int .i64 d, .slice (some ⟨w.heap.size, 0, none⟩) 1 1, .slice none 0 0] _ _ HR0.out)
    have HC1 := Lib.hid (show Ch (fun _ => False) w (((w.alloc (.cells #[.string uri] 9)).alloc (.cells #[.int .i64 0, .int .i64 0, .slice none 0 0, .slice none 0 0] 85)).setRow (w.heap.size + 1) #[.int .i64 v, .int .i64 d, .slice (some ⟨w.heap.size, 0, none⟩) 1 1, .slice none 0 0]) from HCA.out.setRow (.inl (by omega)) _)
    have HK1 := Lib.hid ((setRow_other ((w.alloc (.cells #[.string uri] 9)).alloc (.cells #[.int .i64 0, .int .i64 0, .slice none 0 0, .slice none 0 0] 85)) (w.heap.size + 1) w.heap.size #[.int .i64 v, .int .i64 d, .slice (some ⟨w.heap.size, 0, none⟩) 1 1, .slice none 0 0] (by omega)).trans HK0.out)
    clear HR0 HZ HCA HK0
    have HEG := Lib.hid (show w.heap.size ≤ w.heap.size + 1 ∧ w.heap.size ≠ w.heap.size + 1 by omega)
    generalize ((w.alloc (.cells #[.string uri] 9)).alloc (.cells #[.int .i64 0, .int .i64 0, .slice none 0 0, .slice none 0 0] 85)).setRow (w.heap.size + 1) #[.int .i64 v, .int .i64 d, .slice (some ⟨w.heap.size, 0, none⟩) 1 1, .slice none 0 0] = W1 at *
    obtain ⟨EB, hEB⟩ : ∃ EB, w.heap.size + 1 = EB := ⟨_, rfl⟩
    rw [hEB] at HE1 HEG ⊢
    clear hEB
    obtain ⟨k1, hk1⟩ : ∃ k1, w.heap.size = k1 := ⟨_, rfl⟩
    rw [hk1] at HE1 HK1 HEG
    have HKW := Lib.hid hk1
    clear hk1
    refine Lib.hid ?_
    obtain ⟨D, hD⟩ : ∃ D : ByteArray, (ByteArray.mk (Lib.decDigits v).toArray) = D := ⟨_, rfl⟩
    have hd20 : D.size ≤ 20 := by rw [← hD]; exact dec_len 19 v (Nat.lt_of_le_of_lt hv2 (by decide))
    have HF := Lib.hid (fun W => decimal_ok v (by omega) W)
    rw [hD] at HF
    have HD := Lib.hid hD
    clear hD
    have hw1 : IntKind.u64.wrap (v : Int) = v := by rw [IntKind.wrap_u64]; omega
    have y0 : (ByteArray.mk #[101, 120, 116, 109, 97, 112, 58]).size = 7 := rfl
    have y1 : (ByteArray.mk #[32]).size = 1 := rfl
    have y2 : (ByteArray.mk #[47]).size = 1 := rfl
    have z0 : ((ByteArray.mk #[101, 120, 116, 109, 97, 112, 58]) ++ D).size = (ByteArray.mk #[101, 120, 116, 109, 97, 112, 58]).size + D.size := ByteArray.size_append
    have z1 : ((ByteArray.mk #[47]) ++ directionText d).size = (ByteArray.mk #[47]).size + (directionText d).size := ByteArray.size_append
    have z2 : ((ByteArray.mk #[101, 120, 116, 109, 97, 112, 58]) ++ D ++ ((ByteArray.mk #[47]) ++ directionText d)).size = ((ByteArray.mk #[101, 120, 116, 109, 97, 112, 58]) ++ D).size + ((ByteArray.mk #[47]) ++ directionText d).size := ByteArray.size_append
    have z3 : ((ByteArray.mk #[32]) ++ uri).size = (ByteArray.mk #[32]).size + uri.size := ByteArray.size_append
    go_wp2_with fail
    refine (HF.out W1).mono ?_
    rintro e W2 ⟨rfl, hc2⟩
    have HC2 := Lib.hid (HC1.out.trans hc2)
    have HE2 := Lib.hid ((hc2.block _ (blk_lt HE1.out) id).trans HE1.out)
    have HK2 := Lib.hid ((hc2.block _ (blk_lt HK1.out) id).trans HK1.out)
    clear hc2 HC1 HE1 HK1 HF
    go_upto_if 68 with fail
    go_cut [10] from 13 to 76 (fun s10 wx => ∃ PT, s10 = .string PT ∧ PT.size ≤ 60 ∧ ((d = 0 ∧ PT = (ByteArray.mk #[101, 120, 116, 109, 97, 112, 58]) ++ D) ∨ (1 ≤ d ∧ PT = (ByteArray.mk #[101, 120, 116, 109, 97, 112, 58]) ++ D ++ ((ByteArray.mk #[47]) ++ directionText d))) ∧ Ch (fun _ => False) w wx ∧ wx.heap[EB]? = some (.cells #[.int .i64 v, .int .i64 d, .slice (some ⟨k1, 0, none⟩) 1 1, .slice none 0 0] 85 (0, 0)) ∧ wx.heap[k1]? = some (.cells #[.string uri] 9 (0, 0)))
    case first =>
      by_cases hd0 : d = 0
      · have hdz : ¬ ((0 : Int) < d) := by omega
        have HD0 := Lib.hid hd0
        clear hd0
        go_wp2_with fail
        go_meet
        exact ⟨_, rfl, by omega, .inl ⟨HD0.out, rfl⟩, HC2.out, HE2.out, HK2.out⟩
      · have hdp : (0 : Int) < d := by omega
        have hd8 : (directionText d).size = 8 := (dir_slash (by omega) (by omega)).2.1
        obtain ⟨j, hj⟩ : ∃ j : Nat, d = (j : Int) + 1 := ⟨(d - 1).toNat, by omega⟩
        have hj4 : j < 4 := by omega
        have hw2 : IntKind.i64.wrap (d - 1) = (j : Int) := by rw [IntWalk.i64_in _ (by omega)]; omega
        have hw3 : d - 1 = (j : Int) := by omega
        have hal : Ch (fun _ => False) W2 (W2.alloc (.cells #[.string (ByteArray.mk #[115, 101, 110, 100, 114, 101, 99, 118]), .string (ByteArray.mk #[115, 101, 110, 100, 111, 110, 108, 121]), .string (ByteArray.mk #[114, 101, 99, 118, 111, 110, 108, 121]), .string (ByteArray.mk #[105, 110, 97, 99, 116, 105, 118, 101])] 9)) := Ch.grown (World.grownBy_alloc _ _ none) (by simp)
        have hcd : (W2.alloc (.cells #[.string (ByteArray.mk #[115, 101, 110, 100, 114, 101, 99, 118]), .string (ByteArray.mk #[115, 101, 110, 100, 111, 110, 108, 121]), .string (ByteArray.mk #[114, 101, 99, 118, 111, 110, 108, 121]), .string (ByteArray.mk #[105, 110, 97, 99, 116, 105, 118, 101])] 9)).cell? ⟨W2.heap.size, j, none⟩ = some (.string (directionText d)) := by
          have hb : (W2.alloc (.cells #[.string (ByteArray.mk #[115, 101, 110, 100, 114, 101, 99, 118]), .string (ByteArray.mk #[115, 101, 110, 100, 111, 110, 108, 121]), .string (ByteArray.mk #[114, 101, 99, 118, 111, 110, 108, 121]), .string (ByteArray.mk #[105, 110, 97, 99, 116, 105, 118, 101])] 9)).heap[W2.heap.size]? = some (.cells #[.string (ByteArray.mk #[115, 101, 110, 100, 114, 101, 99, 118]), .string (ByteArray.mk #[115, 101, 110, 100, 111, 110, 108, 121]), .string (ByteArray.mk #[114, 101, 99, 118, 111, 110, 108, 121]), .string (ByteArray.mk #[105, 110, 97, 99, 116, 105, 118, 101])] 9 (0, 0)) := heap_alloc_new _ _
          subst hj
          have : j = 0 ∨ j = 1 ∨ j = 2 ∨ j = 3 := by omega
          rcases this with rfl | rfl | rfl | rfl <;> exact blk_cell hb rfl
        have HC3 := Lib.hid (HC2.out.trans hal)
        have HE3 := Lib.hid ((hal.block _ (blk_lt HE2.out) id).trans HE2.out)
        have HK3 := Lib.hid ((hal.block _ (blk_lt HK2.out) id).trans HK2.out)
        have HJ := Lib.hid hj
        clear hal hj
        go_wp2_with fail
        go_meet
        exact ⟨_, rfl, by omega, .inr ⟨by omega, rfl⟩, HC3.out, HE3.out, HK3.out⟩
    case rest =>
    obtain ⟨PT, rfl, hPs, hPT, hcw, hew, hkw⟩ := hcut
    have z4 : (PT ++ ((ByteArray.mk #[32]) ++ uri)).size = PT.size + ((ByteArray.mk #[32]) ++ uri).size := ByteArray.size_append
    have z5 : ((ByteArray.mk #[32]) ++ av).size = (ByteArray.mk #[32]).size + av.size := ByteArray.size_append
    have z6 : (PT ++ ((ByteArray.mk #[32]) ++ uri) ++ ((ByteArray.mk #[32]) ++ av)).size = (PT ++ ((ByteArray.mk #[32]) ++ uri)).size + ((ByteArray.mk #[32]) ++ av).size := ByteArray.size_append
    have HX := Lib.hid (show extW D d uri [av] (PT ++ ((ByteArray.mk #[32]) ++ uri) ++ ((ByteArray.mk #[32]) ++ av)) from ⟨PT, hPT, .inr ⟨av, rfl, rfl⟩⟩)
    have hXs : (PT ++ ((ByteArray.mk #[32]) ++ uri) ++ ((ByteArray.mk #[32]) ++ av)).size ≤ 8589934592 := by omega
    rw [← HD.out] at HX
    have HPT := Lib.hid hPT
    clear hPT HC2 HE2 HK2 HD
    have hal : Ch (fun _ => False) wc (wc.alloc (.cells #[.string av] 9)) := Ch.grown (World.grownBy_alloc _ _ none) (by simp)
    have hb2 : (wc.alloc (.cells #[.string av] 9)).heap[wc.heap.size]? = some (.cells #[.string av] 9 (0, 0)) := heap_alloc_new _ _
    have hew2 := (hal.block _ (blk_lt hew) id).trans hew
    have hkw2 := (hal.block _ (blk_lt hkw) id).trans hkw
    have hne2 : wc.heap.size ≠ EB := by have := blk_lt hew; omega
    have c3 : (wc.alloc (.cells #[.string av] 9)).cell? ⟨EB, 3, none⟩ = some (.slice none 0 0) := blk_cell hew2 rfl
    have z3' : (wc.alloc (.cells #[.string av] 9)).frozen? ⟨EB, 3, none⟩ = false := blk_frozen hew2
    have HEw := Lib.hid (show ((wc.alloc (.cells #[.string av] 9)).setCell ⟨EB, 3, none⟩ (.slice (some ⟨wc.heap.size, 0, none⟩) 1 1)).heap[EB]? = some (.cells #[.int .i64 v, .int .i64 d, .slice (some ⟨k1, 0, none⟩) 1 1, .slice (some ⟨wc.heap.size, 0, none⟩) 1 1] 85 (0, 0)) from blk_set (j := 3) _ hew2)
    have HKw := Lib.hid (show ((wc.alloc (.cells #[.string av] 9)).setCell ⟨EB, 3, none⟩ (.slice (some ⟨wc.heap.size, 0, none⟩) 1 1)).heap[k1]? = some (.cells #[.string uri] 9 (0, 0)) from (blk_set_other _ (fun e => HEG.out.2 e.symm)).trans hkw2)
    have HAw := Lib.hid (show ((wc.alloc (.cells #[.string av] 9)).setCell ⟨EB, 3, none⟩ (.slice (some ⟨wc.heap.size, 0, none⟩) 1 1)).heap[wc.heap.size]? = some (.cells #[.string av] 9 (0, 0)) from (blk_set_other _ (Ne.symm hne2)).trans hb2)
    have HCw := Lib.hid (show Ch (fun _ => False) w ((wc.alloc (.cells #[.string av] 9)).setCell ⟨EB, 3, none⟩ (.slice (some ⟨wc.heap.size, 0, none⟩) 1 1)) from (hcw.trans hal).fresh (Ch.set (S := fun k => k = EB) (k := EB) _ rfl _) (fun i hi => .inl (by rw [hi, HKW.out]; exact HEG.out.1)))
    clear hal hb2 hew2 hkw2 hne2 hcw hew hkw
    go_wp2_with fail
    obtain ⟨k2, hk2⟩ : ∃ k2, wc.heap.size = k2 := ⟨_, rfl⟩
    rw [hk2] at HEw HKw HAw HCw ⊢
    generalize ((wc.alloc (.cells #[.string av] 9)).setCell ⟨EB, 3, none⟩ (.slice (some ⟨k2, 0, none⟩) 1 1)) = W3 at *
    clear c3 z3' hk2
    have HPA := Lib.hid (parseExt_any (w := W3) (v := v) (d := d) (raw := PT ++ ((ByteArray.mk #[32]) ++ uri) ++ ((ByteArray.mk #[32]) ++ av)) (U := uri) (ax := [av]) (by simp) (fun E W hE hc => want_reads HX.out hv1 hv2' (by omega) HGU.out (fun A hA => (List.mem_singleton.1 hA) ▸ HGA.out) hXs hE (HT.out.ch (HCw.out.trans hc))))
    refine HPA.out.mono ?_
    rintro e W4 ⟨A, c, B, cc, rfl, hla, hlb, hc4⟩
    have hal4 : Ch (fun _ => False) W4 (W4.alloc (.cells #[.int .i64 0, .int .i64 0, .slice none 0 0, .slice none 0 0] 85)) := Ch.grown (World.grownBy_alloc _ _ none) (by simp)
    have HR4 := Lib.hid (show (W4.alloc (.cells #[.int .i64 0, .int .i64 0, .slice none 0 0, .slice none 0 0] 85)).heap[W4.heap.size]? = some (.cells #[.int .i64 0, .int .i64 0, .slice none 0 0, .slice none 0 0] 85 (0, 0)) from heap_alloc_new _ _)
    have HZ4 := Lib.hid (show (#[.int .i64 v, .int .i64 d, .slice A 1 c, .slice B (List.length [av]) cc] : Array Value).all (·.oneCell') = true by as_aux_lemma => kernel_rfl)
    have HL4 := Lib.hid hal4
    have HLA := Lib.hid hla
    have HLB := Lib.hid hlb
    have HC4 := Lib.hid hc4
    clear hal4 hla hlb hc4 HPA
    go_wp2_with (refine wpList_store_row rfl 85 (.tmp 11) (.tmp 93) rfl W4.heap.size #[.int .i64 v, .int .i64 d, .slice A 1 c, .slice B (List.length [av]) cc] #[.int .i64 0, .int .i64 0, .slice none 0 0, .slice none 0 0] 85 rfl rfl HR4.out Tryz.size85 rfl HZ4.out ?_; refine Hid.out ?_)
    have hG5 := setRow_heap _ _ _ #[.int .i64 v, .int .i64 d, .slice A 1 c, .slice B (List.length [av]) cc] _ _ HR4.out
    have hc45 : Ch (fun _ => False) W4 ((W4.alloc (.cells #[.int .i64 0, .int .i64 0, .slice none 0 0, .slice none 0 0] 85)).setRow W4.heap.size #[.int .i64 v, .int .i64 d, .slice A 1 c, .slice B (List.length [av]) cc]) := HL4.out.setRow (.inl (Nat.le_refl _)) _
    have HG5 := Lib.hid hG5
    have hc35 := HC4.out.trans hc45
    have HC5 := Lib.hid (HCw.out.trans hc35)
    have HE5 := Lib.hid ((hc35.block _ (blk_lt HEw.out) id).trans HEw.out)
    have HK5 := Lib.hid ((hc35.block _ (blk_lt HKw.out) id).trans HKw.out)
    have HA5 := Lib.hid ((hc35.block _ (blk_lt HAw.out) id).trans HAw.out)
    have HLA5 := Lib.hid (HLA.out.ch hc45)
    have HLB5 := Lib.hid (HLB.out.ch hc45)
    clear hG5 hc45 hc35 HLA HLB HC4 HL4 HR4 HZ4 HCw HEw HKw HAw
    generalize (W4.alloc (.cells #[.int .i64 0, .int .i64 0, .slice none 0 0, .slice none 0 0] 85)).setRow W4.heap.size #[.int .i64 v, .int .i64 d, .slice A 1 c, .slice B (List.length [av]) cc] = W5 at *
    obtain ⟨G, hG⟩ : ∃ G, W4.heap.size = G := ⟨_, rfl⟩
    rw [hG] at HG5 ⊢
    clear hG
    refine Lib.hid ?_
    go_wp2_with (refine wpList_load_row rfl 85 (.tmp 9) rfl EB rfl 85 #[.int .i64 v, .int .i64 d, .slice (some ⟨k1, 0, none⟩) 1 1, .slice (some ⟨k2, 0, none⟩) 1 1] (0, 0) _ HE5.out Tryz.underlying85 rfl Tryz.size85 ?_)
    refine (formatExt_any (w := W5) (v := v) (d := d) (U := uri) (X := PT ++ ((ByteArray.mk #[32]) ++ uri) ++ ((ByteArray.mk #[32]) ++ av)) (ax := [av]) (lst_block (size := 1) (f := strC) (l := [uri]) (fun _ => rfl) HK5.out rfl) (lst_block (size := 1) (f := strC) (l := [av]) (fun _ => rfl) HA5.out rfl) (by simp) (fun k p q W hk hp hq hc => want_prints HX.out hv2' (by omega) (by omega) (fun A hA => (List.mem_singleton.1 hA) ▸ Nat.le_of_not_lt haz) hk hp hq (tab_ch HTB.out (HC5.out.trans hc) id))).mono ?_
    rintro e W6 ⟨rfl, hc6⟩
    have HC6 := Lib.hid (HC5.out.trans hc6)
    have hG6 := (hc6.block _ (blk_lt HG5.out) id).trans HG5.out
    have hE6 := (hc6.block _ (blk_lt HE5.out) id).trans HE5.out
    have hK6 := (hc6.block _ (blk_lt HK5.out) id).trans HK5.out
    have g0 : W6.cell? ⟨G, 0, none⟩ = some (.int .i64 v) := blk_cell hG6 rfl
    have g1 : W6.cell? ⟨G, 1, none⟩ = some (.int .i64 d) := blk_cell hG6 rfl
    have g2 : W6.cell? ⟨G, 2, none⟩ = some (.slice A 1 c) := blk_cell hG6 rfl
    have g3 : W6.cell? ⟨G, 3, none⟩ = some (.slice B 1 cc) := blk_cell hG6 rfl
    have e2 : W6.cell? ⟨EB, 2, none⟩ = some (.slice (some ⟨k1, 0, none⟩) 1 1) := blk_cell hE6 rfl
    have e3 : W6.cell? ⟨EB, 3, none⟩ = some (.slice (some ⟨k2, 0, none⟩) 1 1) := blk_cell hE6 rfl
    have HG6 := Lib.hid hG6
    have HE6 := Lib.hid hE6
    have HN1 := Lib.hid (lines_any (l := [uri]) (c := c) (d := 1) (HLA5.out.ch hc6) (lst_block (size := 1) (f := strC) (l := [uri]) (fun _ => rfl) hK6 rfl) (by simp))
    have HLB6 := Lib.hid (HLB5.out.ch hc6)
    have HA6 := Lib.hid ((hc6.block _ (blk_lt HA5.out) id).trans HA5.out)
    clear hG6 hE6 hK6 hc6
    go_wp2_with fail
    refine HN1.out.mono ?_
    rintro e W7 ⟨rfl, hc7⟩
    have HC7 := Lib.hid (HC6.out.trans hc7)
    have hG7 := (hc7.block _ (blk_lt HG6.out) id).trans HG6.out
    have hE7 := (hc7.block _ (blk_lt HE6.out) id).trans HE6.out
    have g3' : W7.cell? ⟨G, 3, none⟩ = some (.slice B 1 cc) := blk_cell hG7 rfl
    have e3' : W7.cell? ⟨EB, 3, none⟩ = some (.slice (some ⟨k2, 0, none⟩) 1 1) := blk_cell hE7 rfl
    have HN2 := Lib.hid (lines_any (l := [av]) (A := B) (B := some ⟨k2, 0, none⟩) (c := cc) (d := 1) (HLB6.out.ch hc7) (lst_block (size := 1) (f := strC) (l := [av]) (fun _ => rfl) ((hc7.block _ (blk_lt HA6.out) id).trans HA6.out) rfl) (by simp))
    clear hG7 hE7 hc7 g0 g1 g2 g3 e2 e3
    go_wp2_with fail
    refine HN2.out.mono ?_
    rintro e W8 ⟨rfl, hc8⟩
    have h61 := (HC7.out.trans hc8).cell H6.out id
    have h61l := World.block_lt_of_cell? _ _ h61
    have HC8 := Lib.hid (HC7.out.trans hc8)
    clear hc8
    go_wp2_with (go_at_call 13; refine (works_true h61 h61l).mono ?_; rintro e w9 ⟨rfl, hc⟩)
    go_ret
    exact ⟨rfl, HC8.out.trans hc⟩

end Go.Proofs.YtimonhimfioohaaGreatDoor
