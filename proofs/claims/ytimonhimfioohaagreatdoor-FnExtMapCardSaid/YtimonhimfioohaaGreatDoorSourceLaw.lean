/- FnSource's walk. -/
import Derived.Test.YtimonhimfioohaaGreatDoorAppended
import Derived.Test.YtimonhimfioohaaGreatDoorReg3
import Derived.Test.YtimonhimfioohaaGreatDoorBand
namespace Go.Proofs.YtimonhimfioohaaGreatDoor
open Go.RowKit

theorem gTab : Tryz.prog.globalNamed "internal/strconv.uint64pow10" = some 8 := by kernel_rfl
theorem tab_ch {S : Nat → Prop} {w w' : World} (h : Lib.TabIs Tryz.prog w "internal/strconv.uint64pow10" .u64 Lib.pow10Tab) (hc : Ch S w w') (h8 : ¬ S 8) : Lib.TabIs Tryz.prog w' "internal/strconv.uint64pow10" .u64 Lib.pow10Tab := by
  unfold Lib.TabIs World.var? at *
  simp only [gTab, Option.bind_some] at h ⊢
  have hlt : 8 < w.heap.size := by
    rcases Nat.lt_or_ge 8 w.heap.size with h' | h'
    · exact h'
    · rw [Array.getElem?_eq_none h'] at h
      cases h
  rw [hc.block 8 hlt h8]
  exact h

theorem tab_lt {w : World} (h : Lib.TabIs Tryz.prog w "internal/strconv.uint64pow10" .u64 Lib.pow10Tab) : 8 < w.heap.size := by
  unfold Lib.TabIs World.var? at h
  simp only [gTab, Option.bind_some] at h
  rcases Nat.lt_or_ge 8 w.heap.size with h' | h'
  · exact h'
  · rw [Array.getElem?_eq_none h'] at h
    cases h

/-- A medium's own rows read. -/
theorem medOwn_reads {L b : Nat} {name : ByteArray} {port : Int} {lp lf : List ByteArray} {lb : List (Bool × ByteArray × Int)} {la : List (ByteArray × ByteArray)} {w : World} (h : MedOwn L b name port lp lf lb la w)
    (hlp : lp.length ≤ 2147483647) (hlf : lf.length ≤ 2147483647) (hlb : lb.length ≤ 2147483647) (hla : la.length ≤ 2147483647) : ∃ cs, At w b cs ∧ sMedia name port lf la w cs := by
  obtain ⟨p, SA, c, SB, d, q, r, SC, m, t, SD, f, _, hblk, h1, h2, h3, h4, h5, h6, h7, h8, _⟩ := h
  exact ⟨_, At.of hblk, p, q, r, t, SA, SB, SC, SD, c, d, m, f, lp, lb, rfl, ⟨hlp, hlf, hlb, hla⟩, h1, h4, h5, h7, Lst.of_slice (fun _ => rfl) h2 rfl, Lst.of_slice (fun _ => rfl) h3 rfl, Lst.of_slice (fun _ => rfl) h6 rfl, Lst.of_slice (fun _ => rfl) h8 rfl⟩

theorem MedOwn.ch {L b : Nat} {name : ByteArray} {port : Int} {lp lf : List ByteArray} {lb : List (Bool × ByteArray × Int)} {la : List (ByteArray × ByteArray)} {w w' : World} (h : MedOwn L b name port lp lf lb la w) (hc : Ch (fun _ => False) w w') : MedOwn L b name port lp lf lb la w' := by
  obtain ⟨p, SA, c, SB, d, q, r, SC, m, t, SD, f, hL, hblk, h1, h2, h3, h4, h5, h6, h7, h8, h9⟩ := h
  exact ⟨p, SA, c, SB, d, q, r, SC, m, t, SD, f, hL, (hc.block b (blk_lt hblk) id).trans hblk, h1.ch hc, own_ch h2 hc, own_ch h3 hc, h4.ch hc, (h5.ch hc).mono fun _ k => sConn.ch k hc, own_ch h6 hc, h7.ch hc, own_ch h8 hc, h9⟩

set_option maxRecDepth 100000 in
set_option maxHeartbeats 4000000 in
theorem withMediaSource_any {L b z : Nat} {name cn st lab : ByteArray} {port : Int} {lp lf : List ByteArray} {lb : List (Bool × ByteArray × Int)} {la : List (ByteArray × ByteArray)} {w : World} (h : MedOwn L b name port lp lf lb la w) (hL : 8 < L) (hz : z < 4294967296)
    (hcn : cn.size ≤ 2147483647) (hst : st.size ≤ 2147483647) (hlab : lab.size ≤ 2147483647) (hla : la.length ≤ 20) (htab : Lib.TabIs Tryz.prog w "internal/strconv.uint64pow10" .u64 Lib.pow10Tab) :
    Calls Tryz.prog 66 #[.pointer (some ⟨b, 0, none⟩), .int .u32 z, .string cn, .string st, .string lab] w fun e w' => e = .returned (.pointer (some ⟨b, 0, none⟩)) ∧
      MedOwn L b name port lp lf lb (la ++ [(⟨#[115, 115, 114, 99]⟩, (ByteArray.mk (Lib.decDigits z).toArray) ++ ⟨#[32, 99, 110, 97, 109, 101, 58]⟩ ++ cn), (⟨#[115, 115, 114, 99]⟩, (ByteArray.mk (Lib.decDigits z).toArray) ++ ⟨#[32, 109, 115, 105, 100, 58]⟩ ++ st ++ ⟨#[32]⟩ ++ lab), (⟨#[115, 115, 114, 99]⟩, (ByteArray.mk (Lib.decDigits z).toArray) ++ ⟨#[32, 109, 115, 108, 97, 98, 101, 108, 58]⟩ ++ st), (⟨#[115, 115, 114, 99]⟩, (ByteArray.mk (Lib.decDigits z).toArray) ++ ⟨#[32, 108, 97, 98, 101, 108, 58]⟩ ++ lab)]) w' ∧ Ch (fun j => L ≤ j) w w' := by
  have HM := Lib.hid h
  have HT := Lib.hid htab
  have HL8 := Lib.hid (show ¬ (L ≤ 8) by omega)
  have hd : (ByteArray.mk (Lib.decDigits z).toArray).size ≤ 20 := dec_len 19 z (Nat.lt_of_lt_of_le hz (by decide))
  have hz64 : z < 18446744073709551616 := by omega
  have HF := Lib.hid (fun W ht => formatUint_any z hz64 W ht)
  clear hz64 h htab
  generalize hD : (ByteArray.mk (Lib.decDigits z).toArray) = D at *
  go_enter Tryz.func66, Tryz.ntmps66
  go_wp2_with fail
  refine (HF.out _ HT.out).mono ?_
  rintro e W1 ⟨rfl, hc⟩
  have HM1 := Lib.hid (HM.out.ch hc)
  have HC1 := Lib.hid ((hc.mono (fun _ h => h.elim) : Ch (fun j => L ≤ j) w W1))
  have HT1 := Lib.hid (tab_ch HT.out hc id)
  clear hc
  have z0 : (D ++ (ByteArray.mk #[32, 99, 110, 97, 109, 101, 58])).size = D.size + (ByteArray.mk #[32, 99, 110, 97, 109, 101, 58]).size := ByteArray.size_append
  have y0 : (ByteArray.mk #[32, 99, 110, 97, 109, 101, 58]).size = 7 := rfl
  have z1 : ((D ++ (ByteArray.mk #[32, 99, 110, 97, 109, 101, 58])) ++ cn).size = (D ++ (ByteArray.mk #[32, 99, 110, 97, 109, 101, 58])).size + cn.size := ByteArray.size_append
  go_wp2_with fail
  clear z0 z1 y0
  refine (withValue_any HM1.out (by first | omega | (simp; omega))).mono ?_
  rintro e W2 ⟨rfl, hm, hc⟩
  have HM2 := Lib.hid hm
  have HC2 := Lib.hid (HC1.out.trans hc)
  have HT2 := Lib.hid (tab_ch HT1.out hc HL8.out)
  clear hm hc
  go_wp2_with fail
  refine (HF.out _ HT2.out).mono ?_
  rintro e W3 ⟨rfl, hc⟩
  have HM3 := Lib.hid (HM2.out.ch hc)
  have HC3 := Lib.hid (HC2.out.trans (hc.mono (fun _ h => h.elim)))
  have HT3 := Lib.hid (tab_ch HT2.out hc id)
  clear hc
  have z0 : (D ++ (ByteArray.mk #[32, 109, 115, 105, 100, 58])).size = D.size + (ByteArray.mk #[32, 109, 115, 105, 100, 58]).size := ByteArray.size_append
  have y0 : (ByteArray.mk #[32, 109, 115, 105, 100, 58]).size = 6 := rfl
  have z1 : ((D ++ (ByteArray.mk #[32, 109, 115, 105, 100, 58])) ++ st).size = (D ++ (ByteArray.mk #[32, 109, 115, 105, 100, 58])).size + st.size := ByteArray.size_append
  have z2 : (((D ++ (ByteArray.mk #[32, 109, 115, 105, 100, 58])) ++ st) ++ (ByteArray.mk #[32])).size = ((D ++ (ByteArray.mk #[32, 109, 115, 105, 100, 58])) ++ st).size + (ByteArray.mk #[32]).size := ByteArray.size_append
  have y2 : (ByteArray.mk #[32]).size = 1 := rfl
  have z3 : ((((D ++ (ByteArray.mk #[32, 109, 115, 105, 100, 58])) ++ st) ++ (ByteArray.mk #[32])) ++ lab).size = (((D ++ (ByteArray.mk #[32, 109, 115, 105, 100, 58])) ++ st) ++ (ByteArray.mk #[32])).size + lab.size := ByteArray.size_append
  go_wp2_with fail
  clear z0 z1 z2 z3 y0 y2
  refine (withValue_any HM3.out (by first | omega | (simp; omega))).mono ?_
  rintro e W4 ⟨rfl, hm, hc⟩
  have HM4 := Lib.hid hm
  have HC4 := Lib.hid (HC3.out.trans hc)
  have HT4 := Lib.hid (tab_ch HT3.out hc HL8.out)
  clear hm hc
  go_wp2_with fail
  refine (HF.out _ HT4.out).mono ?_
  rintro e W5 ⟨rfl, hc⟩
  have HM5 := Lib.hid (HM4.out.ch hc)
  have HC5 := Lib.hid (HC4.out.trans (hc.mono (fun _ h => h.elim)))
  have HT5 := Lib.hid (tab_ch HT4.out hc id)
  clear hc
  have z0 : (D ++ (ByteArray.mk #[32, 109, 115, 108, 97, 98, 101, 108, 58])).size = D.size + (ByteArray.mk #[32, 109, 115, 108, 97, 98, 101, 108, 58]).size := ByteArray.size_append
  have y0 : (ByteArray.mk #[32, 109, 115, 108, 97, 98, 101, 108, 58]).size = 9 := rfl
  have z1 : ((D ++ (ByteArray.mk #[32, 109, 115, 108, 97, 98, 101, 108, 58])) ++ st).size = (D ++ (ByteArray.mk #[32, 109, 115, 108, 97, 98, 101, 108, 58])).size + st.size := ByteArray.size_append
  go_wp2_with fail
  clear z0 z1 y0
  refine (withValue_any HM5.out (by first | omega | (simp; omega))).mono ?_
  rintro e W6 ⟨rfl, hm, hc⟩
  have HM6 := Lib.hid hm
  have HC6 := Lib.hid (HC5.out.trans hc)
  have HT6 := Lib.hid (tab_ch HT5.out hc HL8.out)
  clear hm hc
  go_wp2_with fail
  refine (HF.out _ HT6.out).mono ?_
  rintro e W7 ⟨rfl, hc⟩
  have HM7 := Lib.hid (HM6.out.ch hc)
  have HC7 := Lib.hid (HC6.out.trans (hc.mono (fun _ h => h.elim)))
  have HT7 := Lib.hid (tab_ch HT6.out hc id)
  clear hc
  have z0 : (D ++ (ByteArray.mk #[32, 108, 97, 98, 101, 108, 58])).size = D.size + (ByteArray.mk #[32, 108, 97, 98, 101, 108, 58]).size := ByteArray.size_append
  have y0 : (ByteArray.mk #[32, 108, 97, 98, 101, 108, 58]).size = 7 := rfl
  have z1 : ((D ++ (ByteArray.mk #[32, 108, 97, 98, 101, 108, 58])) ++ lab).size = (D ++ (ByteArray.mk #[32, 108, 97, 98, 101, 108, 58])).size + lab.size := ByteArray.size_append
  go_wp2_with fail
  clear z0 z1 y0
  refine (withValue_any HM7.out (by first | omega | (simp; omega))).mono ?_
  rintro e W8 ⟨rfl, hm, hc⟩
  have HM8 := Lib.hid hm
  have HC8 := Lib.hid (HC7.out.trans hc)
  have HT8 := Lib.hid (tab_ch HT7.out hc HL8.out)
  clear hm hc

  go_wp2
  refine bodyPost_ret (v := .pointer (some ⟨b, 0, none⟩)) (by simp [results, Tryz.results66]) rfl ?_
  refine ⟨rfl, ?_, HC8.out⟩
  have h8 := HM8.out
  simpa using h8

set_option maxRecDepth 100000 in
set_option maxHeartbeats 4000000 in
theorem withSource_any {name : ByteArray} {port : Int} {A1 A2 A3 A4 A5 A6 A7 A8 : Option Addr} {n1 n4 n5 n7 c1 c2 c3 c4 c5 c6 c7 c8 : Nat} {lp lf : List ByteArray} {lb : List (Bool × ByteArray × Int)} {la lg : List (ByteArray × ByteArray)} {z : Nat} {cn st lab : ByteArray} {w : World} (h : MedRd w A1 A2 A3 A4 A5 A6 A7 A8 n1 lp.length lf.length n4 n5 lb.length n7 la.length) (h2 : Lst w 1 strC A2 lp) (h3 : Lst w 1 strC A3 lf) (h6 : Lst w 3 bandC A6 lb) (h8 : Lst w 2 attrC A8 la)
    (hlp : lp.length ≤ 2147483647) (hlf : lf.length ≤ 2147483647) (hlb : lb.length ≤ 2147483647) (hla : la.length ≤ 20) (hz : z < 4294967296) (hcn : cn.size ≤ 2147483647) (hst : st.size ≤ 2147483647) (hlab : lab.size ≤ 2147483647) (htab : Lib.TabIs Tryz.prog w "internal/strconv.uint64pow10" .u64 Lib.pow10Tab)
    (hlg : lg = la ++ [(⟨#[115, 115, 114, 99]⟩, (ByteArray.mk (Lib.decDigits z).toArray) ++ ⟨#[32, 99, 110, 97, 109, 101, 58]⟩ ++ cn), (⟨#[115, 115, 114, 99]⟩, (ByteArray.mk (Lib.decDigits z).toArray) ++ ⟨#[32, 109, 115, 105, 100, 58]⟩ ++ st ++ ⟨#[32]⟩ ++ lab), (⟨#[115, 115, 114, 99]⟩, (ByteArray.mk (Lib.decDigits z).toArray) ++ ⟨#[32, 109, 115, 108, 97, 98, 101, 108, 58]⟩ ++ st), (⟨#[115, 115, 114, 99]⟩, (ByteArray.mk (Lib.decDigits z).toArray) ++ ⟨#[32, 108, 97, 98, 101, 108, 58]⟩ ++ lab)]) :
    Calls Tryz.prog 31 #[.agg #[.string name, .int .i64 port, .slice A1 n1 c1, .slice A2 lp.length c2, .slice A3 lf.length c3, .slice A4 n4 c4, .slice A5 n5 c5, .slice A6 lb.length c6, .slice A7 n7 c7, .slice A8 la.length c8], .int .u32 z, .string cn, .string st, .string lab] w (MedBack name port lf lg w) := by
  have hc0 : Ch (fun _ => False) w ((w.alloc (.cells #[.string name, .int .i64 port, .slice A1 n1 c1, .slice A2 lp.length c2, .slice A3 lf.length c3, .slice A4 n4 c4, .slice A5 n5 c5, .slice A6 lb.length c6, .slice A7 n7 c7, .slice A8 la.length c8] 66)).alloc (.cells #[.string ⟨#[]⟩, .int .i64 0, .slice none 0 0, .slice none 0 0, .slice none 0 0, .slice none 0 0, .slice none 0 0, .slice none 0 0, .slice none 0 0, .slice none 0 0] 66)) := (Ch.grown (World.grownBy_alloc _ _ none) (by simp)).trans (Ch.grown (World.grownBy_alloc _ _ none) (by simp))
  have hb0 : ((w.alloc (.cells #[.string name, .int .i64 port, .slice A1 n1 c1, .slice A2 lp.length c2, .slice A3 lf.length c3, .slice A4 n4 c4, .slice A5 n5 c5, .slice A6 lb.length c6, .slice A7 n7 c7, .slice A8 la.length c8] 66)).alloc (.cells #[.string ⟨#[]⟩, .int .i64 0, .slice none 0 0, .slice none 0 0, .slice none 0 0, .slice none 0 0, .slice none 0 0, .slice none 0 0, .slice none 0 0, .slice none 0 0] 66)).heap[w.heap.size]? = some (.cells #[.string name, .int .i64 port, .slice A1 n1 c1, .slice A2 lp.length c2, .slice A3 lf.length c3, .slice A4 n4 c4, .slice A5 n5 c5, .slice A6 lb.length c6, .slice A7 n7 c7, .slice A8 la.length c8] 66 (0, 0)) := (Below.heap_alloc _ _ _ (by simp)).trans (heap_alloc_new w _)
  have hr0 : ((w.alloc (.cells #[.string name, .int .i64 port, .slice A1 n1 c1, .slice A2 lp.length c2, .slice A3 lf.length c3, .slice A4 n4 c4, .slice A5 n5 c5, .slice A6 lb.length c6, .slice A7 n7 c7, .slice A8 la.length c8] 66)).alloc (.cells #[.string ⟨#[]⟩, .int .i64 0, .slice none 0 0, .slice none 0 0, .slice none 0 0, .slice none 0 0, .slice none 0 0, .slice none 0 0, .slice none 0 0, .slice none 0 0] 66)).heap[w.heap.size + 1]? = some (.cells #[.string ⟨#[]⟩, .int .i64 0, .slice none 0 0, .slice none 0 0, .slice none 0 0, .slice none 0 0, .slice none 0 0, .slice none 0 0, .slice none 0 0, .slice none 0 0] 66 (0, 0)) := by
    have h1 := heap_alloc_new (w.alloc (.cells #[.string name, .int .i64 port, .slice A1 n1 c1, .slice A2 lp.length c2, .slice A3 lf.length c3, .slice A4 n4 c4, .slice A5 n5 c5, .slice A6 lb.length c6, .slice A7 n7 c7, .slice A8 la.length c8] 66)) (.cells #[.string ⟨#[]⟩, .int .i64 0, .slice none 0 0, .slice none 0 0, .slice none 0 0, .slice none 0 0, .slice none 0 0, .slice none 0 0, .slice none 0 0, .slice none 0 0] 66)
    rw [World.size_alloc] at h1
    exact h1
  have HC0 := Lib.hid hc0
  have HB0 := Lib.hid hb0
  have HR0 := Lib.hid hr0
  have HM := Lib.hid (h.ch hc0)
  have H2 := Lib.hid (h2.ch hc0)
  have H3 := Lib.hid (h3.ch hc0)
  have H6 := Lib.hid (h6.ch hc0)
  have H8 := Lib.hid (h8.ch hc0)
  have HLG := Lib.hid hlg
  have HT0 := Lib.hid (tab_ch htab hc0 id)
  have h8W := Lib.hid (show 8 < w.heap.size from tab_lt htab)
  clear htab
  clear h h2 h3 h6 h8 hc0 hb0 hr0 hlg
  go_enter Tryz.func31, Tryz.ntmps31
  go_wp2_with (refine wpList_load_row rfl 66 (.tmp 5) rfl w.heap.size rfl 66 #[.string name, .int .i64 port, .slice A1 n1 c1, .slice A2 lp.length c2, .slice A3 lf.length c3, .slice A4 n4 c4, .slice A5 n5 c5, .slice A6 lb.length c6, .slice A7 n7 c7, .slice A8 la.length c8] (0, 0) _ HB0.out Tryz.underlying66 rfl Tryz.size66 ?_)
  generalize hk : w.heap.size = k at *
  generalize ((w.alloc (.cells #[.string name, .int .i64 port, .slice A1 n1 c1, .slice A2 lp.length c2, .slice A3 lf.length c3, .slice A4 n4 c4, .slice A5 n5 c5, .slice A6 lb.length c6, .slice A7 n7 c7, .slice A8 la.length c8] 66)).alloc (.cells #[.string ⟨#[]⟩, .int .i64 0, .slice none 0 0, .slice none 0 0, .slice none 0 0, .slice none 0 0, .slice none 0 0, .slice none 0 0, .slice none 0 0, .slice none 0 0] 66)) = W0 at *
  refine (media_any HM.out H2.out H3.out H6.out H8.out hlp hlf hlb (by omega)).mono ?_
  rintro e W1 ⟨b, rfl, hm, hc1⟩
  have HMO := Lib.hid hm
  have HC1 := Lib.hid hc1
  have HR1 := Lib.hid ((hc1.block _ (blk_lt HR0.out) id).trans HR0.out)
  have HT1 := Lib.hid (tab_ch HT0.out HC1.out id)
  have h8L := Lib.hid (show 8 < W0.heap.size by have := HC0.out.size; have := h8W.out; omega)
  clear hm hc1
  go_wp2_with fail
  refine (withMediaSource_any HMO.out h8L.out hz hcn hst hlab hla HT1.out).mono ?_
  rintro e W2 ⟨rfl, hm2, hc2⟩
  rw [← HLG.out] at hm2
  have hlgl : lg.length ≤ 2147483647 := by rw [HLG.out]; simp; omega
  obtain ⟨cs, hat, hs⟩ := medOwn_reads hm2 hlp hlf hlb hlgl
  have HR2 := Lib.hid ((hc2.block _ (blk_lt HR1.out) (fun hle => by have := blk_lt HR0.out; omega)).trans HR1.out)
  have HC2 := Lib.hid ((HC0.out.trans HC1.out).fresh hc2 (fun j hj => .inl (by have := HC0.out.size; omega)))
  have HAT := Lib.hid hat
  have HS := Lib.hid hs
  clear hm2 hat hs hc2 hlgl
  go_wp2_with fail
  refine (mediaOf_any HAT.out HS.out).mono ?_
  rintro e W3 ⟨S1, m1, d1, S2, d2, S3, d3, S4, m4, d4, S5, m5, d5, S6, d6, S7, m7, d7, S8, d8, m2, m6, rfl, ho3, ho8, hc3⟩
  have HR3 := Lib.hid ((hc3.block _ (blk_lt HR2.out) id).trans HR2.out)
  have HC3 := Lib.hid (HC2.out.trans hc3)
  have HO3 := Lib.hid ho3
  have HO8 := Lib.hid ho8
  have hz : (#[.string name, .int .i64 port, .slice S1 m1 d1, .slice S2 m2 d2, .slice S3 lf.length d3, .slice S4 m4 d4, .slice S5 m5 d5, .slice S6 m6 d6, .slice S7 m7 d7, .slice S8 lg.length d8] : Array Value).all (·.oneCell') = true := by as_aux_lemma => kernel_rfl
  have HZ := Lib.hid hz
  clear ho3 ho8 hc3 hz
  go_wp2_with (refine wpList_store_row rfl 66 (.tmp 10) (.tmp 18) rfl (k + 1) #[.string name, .int .i64 port, .slice S1 m1 d1, .slice S2 m2 d2, .slice S3 lf.length d3, .slice S4 m4 d4, .slice S5 m5 d5, .slice S6 m6 d6, .slice S7 m7 d7, .slice S8 lg.length d8] #[.string ⟨#[]⟩, .int .i64 0, .slice none 0 0, .slice none 0 0, .slice none 0 0, .slice none 0 0, .slice none 0 0, .slice none 0 0, .slice none 0 0, .slice none 0 0] 66 rfl rfl HR3.out Tryz.size66 rfl HZ.out ?_; refine Hid.out ?_)
  have HR4 := Lib.hid (setRow_heap _ _ _ #[.string name, .int .i64 port, .slice S1 m1 d1, .slice S2 m2 d2, .slice S3 lf.length d3, .slice S4 m4 d4, .slice S5 m5 d5, .slice S6 m6 d6, .slice S7 m7 d7, .slice S8 lg.length d8] _ _ HR3.out)
  have HC4 := Lib.hid (show Ch (fun _ => False) w (W3.setRow (k + 1) #[.string name, .int .i64 port, .slice S1 m1 d1, .slice S2 m2 d2, .slice S3 lf.length d3, .slice S4 m4 d4, .slice S5 m5 d5, .slice S6 m6 d6, .slice S7 m7 d7, .slice S8 lg.length d8]) from HC3.out.setRow (.inl (by rw [hk]; omega)) _)
  have HO34 := Lib.hid (own_row HO3.out HR3.out (by decide) #[.string name, .int .i64 port, .slice S1 m1 d1, .slice S2 m2 d2, .slice S3 lf.length d3, .slice S4 m4 d4, .slice S5 m5 d5, .slice S6 m6 d6, .slice S7 m7 d7, .slice S8 lg.length d8])
  have HO84 := Lib.hid (own_row HO8.out HR3.out (by decide) #[.string name, .int .i64 port, .slice S1 m1 d1, .slice S2 m2 d2, .slice S3 lf.length d3, .slice S4 m4 d4, .slice S5 m5 d5, .slice S6 m6 d6, .slice S7 m7 d7, .slice S8 lg.length d8])
  generalize W3.setRow (k + 1) #[.string name, .int .i64 port, .slice S1 m1 d1, .slice S2 m2 d2, .slice S3 lf.length d3, .slice S4 m4 d4, .slice S5 m5 d5, .slice S6 m6 d6, .slice S7 m7 d7, .slice S8 lg.length d8] = W4 at *
  refine Lib.hid ?_
  go_wp2
  refine bodyPost_ret (v := .agg #[.string name, .int .i64 port, .slice S1 m1 d1, .slice S2 m2 d2, .slice S3 lf.length d3, .slice S4 m4 d4, .slice S5 m5 d5, .slice S6 m6 d6, .slice S7 m7 d7, .slice S8 lg.length d8]) (results_cell_row Tryz.results31 _ _ (k + 1) 66 _ (0, 0) _ rfl HR4.out Tryz.underlying66 rfl Tryz.size66) rfl ?_
  exact ⟨S1, m1, d1, S2, d2, S3, d3, S4, m4, d4, S5, m5, d5, S6, d6, S7, m7, d7, S8, d8, m2, m6, rfl, HO34.out, HO84.out, HC4.out⟩

theorem app_lit (D a b c : ByteArray) (h : a ++ b = c) : D ++ a ++ b = D ++ c := by rw [ByteArray.append_assoc, h]
theorem lst_block {w : World} {k t size : Nat} {α : Type} {f : α → List Value} {l : List α} {cs : Array Value} {fr : Nat × Nat} (hf : ∀ a, (f a).length = size) (hb : w.heap[k]? = some (.cells cs t fr)) (hcs : cs.toList = l.flatMap f) : Lst w size f (some ⟨k, 0, none⟩) l := fun i a ha =>
  ⟨k, 0, rfl, fun j u hu => by
    rw [Nat.zero_add]
    refine blk_cell hb ?_
    have h1 := flat_at hf l i j a u ha hu
    rw [← hcs] at h1
    simpa using h1⟩
def srcT (z : Nat) (name cn st lab Q : ByteArray) (port : Int) (A1 A2 A3 A4 A5 A6 A7 A8 : Option Addr) (n1 n4 n5 n7 c1 c2 c3 c4 c5 c6 c7 c8 : Nat) (lp lf : List ByteArray) (lb : List (Bool × ByteArray × Int)) (la lg : List (ByteArray × ByteArray)) (d : Nat) (v : Value) (W : World) : Prop :=
  match d with
  | 54 => v = .agg #[.string name, .int .i64 port, .slice A1 n1 c1, .slice A2 lp.length c2, .slice A3 lf.length c3, .slice A4 n4 c4, .slice A5 n5 c5, .slice A6 lb.length c6, .slice A7 n7 c7, .slice A8 la.length c8]
  | 55 => v = .int .u32 z
  | 56 => v = .string cn
  | 57 => v = .string st
  | 58 => v = .string lab
  | 59 => ∃ (S1 : Option Addr) (m1 : Nat) (d1 : Nat) (S2 : Option Addr) (d2 : Nat) (S3 : Option Addr) (d3 : Nat) (S4 : Option Addr) (m4 : Nat) (d4 : Nat) (S5 : Option Addr) (m5 : Nat) (d5 : Nat) (S6 : Option Addr) (d6 : Nat) (S7 : Option Addr) (m7 : Nat) (d7 : Nat) (S8 : Option Addr) (d8 : Nat) (m2 : Nat) (m6 : Nat), v = .agg #[.string name, .int .i64 port, .slice S1 m1 d1, .slice S2 m2 d2, .slice S3 lf.length d3, .slice S4 m4 d4, .slice S5 m5 d5, .slice S6 m6 d6, .slice S7 m7 d7, .slice S8 lg.length d8] ∧ W.ownsRow 0 73 2 (.slice S8 lg.length d8) lg.length (lg.flatMap attrC)
  | 60 => v = .agg #[.string name, .int .i64 port, .slice A1 n1 c1, .slice A2 lp.length c2, .slice A3 lf.length c3, .slice A4 n4 c4, .slice A5 n5 c5, .slice A6 lb.length c6, .slice A7 n7 c7, .slice A8 la.length c8]
  | 61 => v = .string Q
  | 62 => v = .string (Q ++ (ByteArray.mk #[99, 110, 97, 109, 101, 58]))
  | 63 => v = .string cn
  | 64 => v = .string (Q ++ (ByteArray.mk #[99, 110, 97, 109, 101, 58]) ++ cn)
  | 65 => v = .agg #[.string ⟨#[115, 115, 114, 99]⟩, .string (Q ++ (ByteArray.mk #[99, 110, 97, 109, 101, 58]) ++ cn)]
  | 66 => v = .string Q
  | 67 => v = .string (Q ++ (ByteArray.mk #[109, 115, 105, 100, 58]))
  | 68 => v = .string st
  | 69 => v = .string (Q ++ (ByteArray.mk #[109, 115, 105, 100, 58]) ++ st)
  | 70 => v = .string (Q ++ (ByteArray.mk #[109, 115, 105, 100, 58]) ++ st ++ (ByteArray.mk #[32]))
  | 71 => v = .string lab
  | 72 => v = .string (Q ++ (ByteArray.mk #[109, 115, 105, 100, 58]) ++ st ++ (ByteArray.mk #[32]) ++ lab)
  | 73 => v = .agg #[.string ⟨#[115, 115, 114, 99]⟩, .string (Q ++ (ByteArray.mk #[109, 115, 105, 100, 58]) ++ st ++ (ByteArray.mk #[32]) ++ lab)]
  | 74 => v = .string Q
  | 75 => v = .string (Q ++ (ByteArray.mk #[109, 115, 108, 97, 98, 101, 108, 58]))
  | 76 => v = .string st
  | 77 => v = .string (Q ++ (ByteArray.mk #[109, 115, 108, 97, 98, 101, 108, 58]) ++ st)
  | 78 => v = .agg #[.string ⟨#[115, 115, 114, 99]⟩, .string (Q ++ (ByteArray.mk #[109, 115, 108, 97, 98, 101, 108, 58]) ++ st)]
  | 79 => v = .string Q
  | 80 => v = .string (Q ++ (ByteArray.mk #[108, 97, 98, 101, 108, 58]))
  | 81 => v = .string lab
  | 82 => v = .string (Q ++ (ByteArray.mk #[108, 97, 98, 101, 108, 58]) ++ lab)
  | 83 => v = .agg #[.string ⟨#[115, 115, 114, 99]⟩, .string (Q ++ (ByteArray.mk #[108, 97, 98, 101, 108, 58]) ++ lab)]
  | 84 => ∃ (k : Nat), v = .slice (some ⟨k, 0, none⟩) 4 4 ∧ W.heap[k]? = some (.cells #[.string ⟨#[115, 115, 114, 99]⟩, .string (Q ++ (ByteArray.mk #[99, 110, 97, 109, 101, 58]) ++ cn), .string ⟨#[115, 115, 114, 99]⟩, .string (Q ++ (ByteArray.mk #[109, 115, 105, 100, 58]) ++ st ++ (ByteArray.mk #[32]) ++ lab), .string ⟨#[115, 115, 114, 99]⟩, .string (Q ++ (ByteArray.mk #[109, 115, 108, 97, 98, 101, 108, 58]) ++ st), .string ⟨#[115, 115, 114, 99]⟩, .string (Q ++ (ByteArray.mk #[108, 97, 98, 101, 108, 58]) ++ lab)] 73 (0, 0))
  | 85 => v = .bool true
  | 86 => v = .bool true
  | 87 => v = .bool true
  | 88 => v = .bool true
  | _ => True

theorem srcT_stays {z : Nat} {name cn st lab Q : ByteArray} {port : Int} {A1 A2 A3 A4 A5 A6 A7 A8 : Option Addr} {n1 n4 n5 n7 c1 c2 c3 c4 c5 c6 c7 c8 : Nat} {lp lf : List ByteArray} {lb : List (Bool × ByteArray × Int)} {la lg : List (ByteArray × ByteArray)} {d : Nat} {v : Value} {W W' : World} (h : srcT z name cn st lab Q port A1 A2 A3 A4 A5 A6 A7 A8 n1 n4 n5 n7 c1 c2 c3 c4 c5 c6 c7 c8 lp lf lb la lg d v W) (hc : Ch (fun _ => False) W W') : srcT z name cn st lab Q port A1 A2 A3 A4 A5 A6 A7 A8 n1 n4 n5 n7 c1 c2 c3 c4 c5 c6 c7 c8 lp lf lb la lg d v W' := by
  unfold srcT at h ⊢
  split at h
  · exact h
  · exact h
  · exact h
  · exact h
  · exact h
  · obtain ⟨S1, m1, d1, S2, d2, S3, d3, S4, m4, d4, S5, m5, d5, S6, d6, S7, m7, d7, S8, d8, m2, m6, eq_, p0⟩ := h
    exact ⟨S1, m1, d1, S2, d2, S3, d3, S4, m4, d4, S5, m5, d5, S6, d6, S7, m7, d7, S8, d8, m2, m6, eq_, own_ch p0 hc⟩
  · exact h
  · exact h
  · exact h
  · exact h
  · exact h
  · exact h
  · exact h
  · exact h
  · exact h
  · exact h
  · exact h
  · exact h
  · exact h
  · exact h
  · exact h
  · exact h
  · exact h
  · exact h
  · exact h
  · exact h
  · exact h
  · exact h
  · exact h
  · exact h
  · obtain ⟨k, eq_, p0⟩ := h
    exact ⟨k, eq_, (hc.block _ (blk_lt p0) id).trans p0⟩
  · exact h
  · exact h
  · exact h
  · exact h
  · trivial

set_option maxRecDepth 100000 in
theorem src_frame (x0 x1 x2 x3 x4 x5 x6 x7 x8 x9 x10 x11 x12 x13 x14 x15 x16 x17 x18 x19 x20 x21 x22 x23 x24 x25 x26 x27 x28 x29 x30 x31 x32 x33 x34 x35 x36 x37 x38 x39 x40 x41 x42 x43 x44 x45 x46 x47 x48 x49 x50 x51 x52 x53 x54 x55 x56 x57 x58 x59 x60 x61 x62 x63 x64 x65 x66 x67 x68 x69 x70 x71 x72 x73 x74 x75 x76 x77 x78 x79 x80 x81 x82 x83 x84 x85 x86 x87 x88 : Value) (d : List Deferred) (u : Nat → Value) : frameOf ⟨#[x0, x1, x2, x3, x4, x5, x6, x7, x8, x9, x10, x11, x12, x13, x14, x15, x16, x17, x18, x19, x20, x21, x22, x23, x24, x25, x26, x27, x28, x29, x30, x31, x32, x33, x34, x35, x36, x37, x38, x39, x40, x41, x42, x43, x44, x45, x46, x47, x48, x49, x50, x51, x52, x53, x54, x55, x56, x57, x58, x59, x60, x61, x62, x63, x64, x65, x66, x67, x68, x69, x70, x71, x72, x73, x74, x75, x76, x77, x78, x79, x80, x81, x82, x83, x84, x85, x86, x87, x88], d⟩ [54, 55, 56, 57, 58, 59, 60, 61, 62, 63, 64, 65, 66, 67, 68, 69, 70, 71, 72, 73, 74, 75, 76, 77, 78, 79, 80, 81, 82, 83, 84, 85, 86, 87, 88] u = ⟨#[x0, x1, x2, x3, x4, x5, x6, x7, x8, x9, x10, x11, x12, x13, x14, x15, x16, x17, x18, x19, x20, x21, x22, x23, x24, x25, x26, x27, x28, x29, x30, x31, x32, x33, x34, x35, x36, x37, x38, x39, x40, x41, x42, x43, x44, x45, x46, x47, x48, x49, x50, x51, x52, x53, u 54, u 55, u 56, u 57, u 58, u 59, u 60, u 61, u 62, u 63, u 64, u 65, u 66, u 67, u 68, u 69, u 70, u 71, u 72, u 73, u 74, u 75, u 76, u 77, u 78, u 79, u 80, u 81, u 82, u 83, u 84, u 85, u 86, u 87, u 88], d⟩ := by kernel_rfl

set_option maxRecDepth 100000 in
set_option maxHeartbeats 4000000 in
theorem fnSource_walk {ae : Addr} {name : ByteArray} {port : Int} {A1 A2 A3 A4 A5 A6 A7 A8 : Option Addr} {n1 n4 n5 n7 c1 c2 c3 c4 c5 c6 c7 c8 : Nat} {lp lf : List ByteArray} {lb : List (Bool × ByteArray × Int)} {la : List (ByteArray × ByteArray)} {z : Nat} {cn st lab : ByteArray} {w : World} (h : MedRd w A1 A2 A3 A4 A5 A6 A7 A8 n1 lp.length lf.length n4 n5 lb.length n7 la.length) (h2 : Lst w 1 strC A2 lp) (h3 : Lst w 1 strC A3 lf) (h6b : Lst w 3 bandC A6 lb) (h8 : Lst w 2 attrC A8 la)
    (hz : z < 4294967296) (htab : Lib.TabIs Tryz.prog w "internal/strconv.uint64pow10" .u64 Lib.pow10Tab) (h6 : w.cell? ⟨6, 0, none⟩ = some (.iface 342 (.pointer (some ae)))) :
    Calls Tryz.prog 8 #[.agg #[.string name, .int .i64 port, .slice A1 n1 c1, .slice A2 lp.length c2, .slice A3 lf.length c3, .slice A4 n4 c4, .slice A5 n5 c5, .slice A6 lb.length c6, .slice A7 n7 c7, .slice A8 la.length c8], .int .u32 z, .string cn, .string st, .string lab] w fun e w' => e = .returned (.bool true) ∧ Ch (fun _ => False) w w' := by
  have hb0 : (w.alloc (.cells #[.string name, .int .i64 port, .slice A1 n1 c1, .slice A2 lp.length c2, .slice A3 lf.length c3, .slice A4 n4 c4, .slice A5 n5 c5, .slice A6 lb.length c6, .slice A7 n7 c7, .slice A8 la.length c8] 66)).heap[w.heap.size]? = some (.cells #[.string name, .int .i64 port, .slice A1 n1 c1, .slice A2 lp.length c2, .slice A3 lf.length c3, .slice A4 n4 c4, .slice A5 n5 c5, .slice A6 lb.length c6, .slice A7 n7 c7, .slice A8 la.length c8] 66 (0, 0)) := heap_alloc_new w _
  have hc0 : Ch (fun _ => False) w (w.alloc (.cells #[.string name, .int .i64 port, .slice A1 n1 c1, .slice A2 lp.length c2, .slice A3 lf.length c3, .slice A4 n4 c4, .slice A5 n5 c5, .slice A6 lb.length c6, .slice A7 n7 c7, .slice A8 la.length c8] 66)) := Ch.grown (World.grownBy_alloc _ _ none) (by simp)
  have HB0 := Lib.hid hb0
  have HC0 := Lib.hid hc0
  have HM := Lib.hid h
  have H2 := Lib.hid h2
  have H3 := Lib.hid h3
  have H6B := Lib.hid h6b
  have H8 := Lib.hid h8
  have HT := Lib.hid htab
  have H6 := Lib.hid h6
  have HZ := Lib.hid hz
  clear h h2 h3 h6b h8 htab h6 hb0 hc0 hz
  go_enter Tryz.func8, Tryz.ntmps8
  go_wp2_with (refine wpList_load_row rfl 66 (.tmp 5) rfl w.heap.size rfl 66 #[.string name, .int .i64 port, .slice A1 n1 c1, .slice A2 lp.length c2, .slice A3 lf.length c3, .slice A4 n4 c4, .slice A5 n5 c5, .slice A6 lb.length c6, .slice A7 n7 c7, .slice A8 la.length c8] (0, 0) _ HB0.out Tryz.underlying66 rfl Tryz.size66 ?_)
  generalize hB : w.heap.size = B at *
  generalize (w.alloc (.cells #[.string name, .int .i64 port, .slice A1 n1 c1, .slice A2 lp.length c2, .slice A3 lf.length c3, .slice A4 n4 c4, .slice A5 n5 c5, .slice A6 lb.length c6, .slice A7 n7 c7, .slice A8 la.length c8] 66)) = W0 at *
  refine (zzFits17_any (HM.out.ch HC0.out)).mono ?_
  rintro e W1 ⟨⟨r, rfl, hr⟩, hc1⟩
  have HB1 := Lib.hid ((hc1.block _ (blk_lt HB0.out) id).trans HB0.out)
  have HC1 := Lib.hid (HC0.out.trans hc1)
  clear hc1
  cases r with
  | false =>
    clear hr
    go_wp2
    go_ret
    exact ⟨rfl, HC1.out⟩
  | true =>
  obtain ⟨-, hlp, hlf, hlb, hla0⟩ := hr rfl
  clear hr
  by_cases hcn : 2147483647 < cn.size
  · go_wp2
    go_ret
    exact ⟨rfl, HC1.out⟩
  by_cases hst : 2147483647 < st.size
  · go_wp2
    go_ret
    exact ⟨rfl, HC1.out⟩
  by_cases hlab : 2147483647 < lab.size
  · go_wp2
    go_ret
    exact ⟨rfl, HC1.out⟩
  have k9 : W1.cell? ⟨B, 9, none⟩ = some (.slice A8 la.length c8) := blk_cell HB1.out rfl
  have h61 := HC1.out.cell H6.out id
  have h61l := World.block_lt_of_cell? _ _ h61
  by_cases hla : 20 < la.length
  · go_wp2_with (go_at_call 13; refine (works_true h61 h61l).mono ?_; rintro e w1 ⟨rfl, hc⟩)
    go_ret
    exact ⟨rfl, HC1.out.trans hc⟩
  have HW1 := Lib.hid (word_any (s := cn) (by omega) W1)
  have HW2 := Lib.hid (word_any (s := st) (by omega) W1)
  have HW3 := Lib.hid (word_any (s := lab) (by omega) W1)
  go_wp2_with fail
  refine HW1.out.mono ?_
  rintro e w1 ⟨⟨r, rfl, -⟩, rfl⟩
  cases r with
  | false =>
    go_wp2_with (go_at_call 13; refine (works_true h61 h61l).mono ?_; rintro e w1 ⟨rfl, hc⟩)
    go_ret
    exact ⟨rfl, HC1.out.trans hc⟩
  | true =>
  go_wp2_with fail
  refine HW2.out.mono ?_
  rintro e w1 ⟨⟨r, rfl, -⟩, rfl⟩
  cases r with
  | false =>
    go_wp2_with (go_at_call 13; refine (works_true h61 h61l).mono ?_; rintro e w1 ⟨rfl, hc⟩)
    go_ret
    exact ⟨rfl, HC1.out.trans hc⟩
  | true =>
  go_wp2_with fail
  refine HW3.out.mono ?_
  rintro e w1 ⟨⟨r, rfl, -⟩, rfl⟩
  cases r with
  | false =>
    go_wp2_with (go_at_call 13; refine (works_true h61 h61l).mono ?_; rintro e w1 ⟨rfl, hc⟩)
    go_ret
    exact ⟨rfl, HC1.out.trans hc⟩
  | true =>
  have hz := HZ.out
  go_wp2_with fail
  clear hz
  have hz64 : z < 18446744073709551616 := by have := HZ.out; omega
  refine (decimal_ok z hz64 W1).mono ?_
  rintro e W2 ⟨rfl, hc2⟩
  have HB2 := Lib.hid ((hc2.block _ (blk_lt HB1.out) id).trans HB1.out)
  have HC2 := Lib.hid (HC1.out.trans hc2)
  have hd : (ByteArray.mk (Lib.decDigits z).toArray).size ≤ 20 := dec_len 19 z (Nat.lt_of_lt_of_le hz64 (by decide))
  obtain ⟨lg, hlg⟩ : ∃ lg : List (ByteArray × ByteArray), lg = la ++ [(⟨#[115, 115, 114, 99]⟩, (ByteArray.mk (Lib.decDigits z).toArray) ++ ⟨#[32, 99, 110, 97, 109, 101, 58]⟩ ++ cn), (⟨#[115, 115, 114, 99]⟩, (ByteArray.mk (Lib.decDigits z).toArray) ++ ⟨#[32, 109, 115, 105, 100, 58]⟩ ++ st ++ ⟨#[32]⟩ ++ lab), (⟨#[115, 115, 114, 99]⟩, (ByteArray.mk (Lib.decDigits z).toArray) ++ ⟨#[32, 109, 115, 108, 97, 98, 101, 108, 58]⟩ ++ st), (⟨#[115, 115, 114, 99]⟩, (ByteArray.mk (Lib.decDigits z).toArray) ++ ⟨#[32, 108, 97, 98, 101, 108, 58]⟩ ++ lab)] := ⟨_, rfl⟩
  have HWS := Lib.hid (fun (W : World) (h1 : MedRd W A1 A2 A3 A4 A5 A6 A7 A8 n1 lp.length lf.length n4 n5 lb.length n7 la.length) (h2 : Lst W 1 strC A2 lp) (h3 : Lst W 1 strC A3 lf) (h4 : Lst W 3 bandC A6 lb) (h5 : Lst W 2 attrC A8 la) (ht : Lib.TabIs Tryz.prog W "internal/strconv.uint64pow10" .u64 Lib.pow10Tab) =>
    withSource_any (lg := lg) (name := name) (port := port) (c1 := c1) (c2 := c2) (c3 := c3) (c4 := c4) (c5 := c5) (c6 := c6) (c7 := c7) (c8 := c8) h1 h2 h3 h4 h5 hlp hlf hlb (by omega) HZ.out (by omega) (by omega) (by omega) ht hlg)
  clear hc2 hz64 k9 h61 h61l HW1 HW2 HW3
  generalize hD : (ByteArray.mk (Lib.decDigits z).toArray) = D at *
  have y0 : (ByteArray.mk #[32]).size = 1 := rfl
  have y1 : (D ++ (ByteArray.mk #[32])).size = D.size + (ByteArray.mk #[32]).size := ByteArray.size_append
  have hQs : (D ++ (ByteArray.mk #[32])).size ≤ 21 := by omega
  have e1 : D ++ (ByteArray.mk #[32]) ++ (ByteArray.mk #[99, 110, 97, 109, 101, 58]) = D ++ ⟨#[32, 99, 110, 97, 109, 101, 58]⟩ := app_lit D _ _ _ (by rfl)
  have e2 : D ++ (ByteArray.mk #[32]) ++ (ByteArray.mk #[109, 115, 105, 100, 58]) = D ++ ⟨#[32, 109, 115, 105, 100, 58]⟩ := app_lit D _ _ _ (by rfl)
  have e3 : D ++ (ByteArray.mk #[32]) ++ (ByteArray.mk #[109, 115, 108, 97, 98, 101, 108, 58]) = D ++ ⟨#[32, 109, 115, 108, 97, 98, 101, 108, 58]⟩ := app_lit D _ _ _ (by rfl)
  have e4 : D ++ (ByteArray.mk #[32]) ++ (ByteArray.mk #[108, 97, 98, 101, 108, 58]) = D ++ ⟨#[32, 108, 97, 98, 101, 108, 58]⟩ := app_lit D _ _ _ (by rfl)
  have hq : lg = la ++ [(⟨#[115, 115, 114, 99]⟩, D ++ (ByteArray.mk #[32]) ++ (ByteArray.mk #[99, 110, 97, 109, 101, 58]) ++ cn), (⟨#[115, 115, 114, 99]⟩, D ++ (ByteArray.mk #[32]) ++ (ByteArray.mk #[109, 115, 105, 100, 58]) ++ st ++ (ByteArray.mk #[32]) ++ lab), (⟨#[115, 115, 114, 99]⟩, D ++ (ByteArray.mk #[32]) ++ (ByteArray.mk #[109, 115, 108, 97, 98, 101, 108, 58]) ++ st), (⟨#[115, 115, 114, 99]⟩, D ++ (ByteArray.mk #[32]) ++ (ByteArray.mk #[108, 97, 98, 101, 108, 58]) ++ lab)] := by rw [hlg, e1, e2, e3, e4]
  have HLGQ := Lib.hid hq
  have HQS := Lib.hid hQs
  clear e1 e2 e3 e4 hq hlg hQs
  go_upto_region 6 with fail
  clear y1 y0
  generalize hQ : D ++ (ByteArray.mk #[32]) = Q at *
  refine wp_region_ops3 (by kernel_rfl) [54, 55, 56, 57, 58, 59, 60, 61, 62, 63, 64, 65, 66, 67, 68, 69, 70, 71, 72, 73, 74, 75, 76, 77, 78, 79, 80, 81, 82, 83, 84, 85, 86, 87, 88] 35 [(86, true)] (by kernel_rfl) (by kernel_rfl) (by kernel_rfl) (srcT z name cn st lab Q port A1 A2 A3 A4 A5 A6 A7 A8 n1 n4 n5 n7 c1 c2 c3 c4 c5 c6 c7 c8 lp lf lb la lg) (Ch (fun _ => False)) (Ch.refl _) (fun _ _ _ => Ch.trans) (fun _ _ _ _ => srcT_stays) ?_ ?_ ?_
  · intro pp hp v W' hT
    obtain rfl : pp = (86, true) := by simpa using hp
    exact hT
  · intro i oo hi ho A W' hR hr hx K hK
    have hR0 := (Ch.of_heap (Ch.refl _ W2) (w' := W2.drew) rfl rfl rfl rfl).trans hR
    have hRw := HC2.out.trans hR0
    have hB : W'.heap[B]? = some (.cells #[.string name, .int .i64 port, .slice A1 n1 c1, .slice A2 lp.length c2, .slice A3 lf.length c3, .slice A4 n4 c4, .slice A5 n5 c5, .slice A6 lb.length c6, .slice A7 n7 c7, .slice A8 la.length c8] 66 (0, 0)) := (hR0.block B (blk_lt HB2.out) id).trans HB2.out
    have hm := HM.out.ch hRw
    have hl2 := H2.out.ch hRw
    have hl3 := H3.out.ch hRw
    have hl6 := H6B.out.ch hRw
    have hl8 := H8.out.ch hRw
    have ht := tab_ch HT.out hRw id
    have h6 := hRw.cell H6.out id
    have h6l := World.block_lt_of_cell? _ _ h6
    have hla : la.length ≤ 20 := by omega
    have hqs := HQS.out
    have zl0 : (ByteArray.mk #[99, 110, 97, 109, 101, 58]).size = 6 := rfl
    have zl1 : (ByteArray.mk #[109, 115, 105, 100, 58]).size = 5 := rfl
    have zl2 : (ByteArray.mk #[32]).size = 1 := rfl
    have zl3 : (ByteArray.mk #[109, 115, 108, 97, 98, 101, 108, 58]).size = 8 := rfl
    have zl4 : (ByteArray.mk #[108, 97, 98, 101, 108, 58]).size = 6 := rfl
    have zz0 : (Q ++ (ByteArray.mk #[99, 110, 97, 109, 101, 58])).size = Q.size + (ByteArray.mk #[99, 110, 97, 109, 101, 58]).size := ByteArray.size_append
    have zz1 : ((Q ++ (ByteArray.mk #[99, 110, 97, 109, 101, 58])) ++ cn).size = (Q ++ (ByteArray.mk #[99, 110, 97, 109, 101, 58])).size + cn.size := ByteArray.size_append
    have zz2 : (Q ++ (ByteArray.mk #[109, 115, 105, 100, 58])).size = Q.size + (ByteArray.mk #[109, 115, 105, 100, 58]).size := ByteArray.size_append
    have zz3 : ((Q ++ (ByteArray.mk #[109, 115, 105, 100, 58])) ++ st).size = (Q ++ (ByteArray.mk #[109, 115, 105, 100, 58])).size + st.size := ByteArray.size_append
    have zz4 : (((Q ++ (ByteArray.mk #[109, 115, 105, 100, 58])) ++ st) ++ (ByteArray.mk #[32])).size = ((Q ++ (ByteArray.mk #[109, 115, 105, 100, 58])) ++ st).size + (ByteArray.mk #[32]).size := ByteArray.size_append
    have zz5 : ((((Q ++ (ByteArray.mk #[109, 115, 105, 100, 58])) ++ st) ++ (ByteArray.mk #[32])) ++ lab).size = (((Q ++ (ByteArray.mk #[109, 115, 105, 100, 58])) ++ st) ++ (ByteArray.mk #[32])).size + lab.size := ByteArray.size_append
    have zz6 : (Q ++ (ByteArray.mk #[109, 115, 108, 97, 98, 101, 108, 58])).size = Q.size + (ByteArray.mk #[109, 115, 108, 97, 98, 101, 108, 58]).size := ByteArray.size_append
    have zz7 : ((Q ++ (ByteArray.mk #[109, 115, 108, 97, 98, 101, 108, 58])) ++ st).size = (Q ++ (ByteArray.mk #[109, 115, 108, 97, 98, 101, 108, 58])).size + st.size := ByteArray.size_append
    have zz8 : (Q ++ (ByteArray.mk #[108, 97, 98, 101, 108, 58])).size = Q.size + (ByteArray.mk #[108, 97, 98, 101, 108, 58]).size := ByteArray.size_append
    have zz9 : ((Q ++ (ByteArray.mk #[108, 97, 98, 101, 108, 58])) ++ lab).size = (Q ++ (ByteArray.mk #[108, 97, 98, 101, 108, 58])).size + lab.size := ByteArray.size_append
    clear hR hR0 hRw
    exact match i, hi, ho with
      | 0, _, ho => by
        obtain rfl := Option.some.inj ho
        have e5 : A.tmps[5]?.getD undef = .pointer (some ⟨B, 0, none⟩) := (eval_getD A 5).symm.trans (hx 5 (by decide))
        have l0 : W'.cell? ⟨B, 0, none⟩ = some (.string name) := blk_cell hB rfl
        have l1 : W'.cell? ⟨B, 1, none⟩ = some (.int .i64 port) := blk_cell hB rfl
        have l2 : W'.cell? ⟨B, 2, none⟩ = some (.slice A1 n1 c1) := blk_cell hB rfl
        have l3 : W'.cell? ⟨B, 3, none⟩ = some (.slice A2 lp.length c2) := blk_cell hB rfl
        have l4 : W'.cell? ⟨B, 4, none⟩ = some (.slice A3 lf.length c3) := blk_cell hB rfl
        have l5 : W'.cell? ⟨B, 5, none⟩ = some (.slice A4 n4 c4) := blk_cell hB rfl
        have l6 : W'.cell? ⟨B, 6, none⟩ = some (.slice A5 n5 c5) := blk_cell hB rfl
        have l7 : W'.cell? ⟨B, 7, none⟩ = some (.slice A6 lb.length c6) := blk_cell hB rfl
        have l8 : W'.cell? ⟨B, 8, none⟩ = some (.slice A7 n7 c7) := blk_cell hB rfl
        have l9 : W'.cell? ⟨B, 9, none⟩ = some (.slice A8 la.length c8) := blk_cell hB rfl
        unfold Oper.wp execOp
        go_simp
        exact hK _ _ (fun d hd => by cases hd; exact rfl) (Ch.refl _ _)
      | 1, _, ho => by
        obtain rfl := Option.some.inj ho
        have e1 : A.tmps[1]?.getD undef = .int .u32 z := (eval_getD A 1).symm.trans (hx 1 (by decide))
        unfold Oper.wp execOp
        go_simp
        exact hK _ _ (fun d hd => by cases hd; exact rfl) (Ch.refl _ _)
      | 2, _, ho => by
        obtain rfl := Option.some.inj ho
        have e2 : A.tmps[2]?.getD undef = .string cn := (eval_getD A 2).symm.trans (hx 2 (by decide))
        unfold Oper.wp execOp
        go_simp
        exact hK _ _ (fun d hd => by cases hd; exact rfl) (Ch.refl _ _)
      | 3, _, ho => by
        obtain rfl := Option.some.inj ho
        have e3 : A.tmps[3]?.getD undef = .string st := (eval_getD A 3).symm.trans (hx 3 (by decide))
        unfold Oper.wp execOp
        go_simp
        exact hK _ _ (fun d hd => by cases hd; exact rfl) (Ch.refl _ _)
      | 4, _, ho => by
        obtain rfl := Option.some.inj ho
        have e4 : A.tmps[4]?.getD undef = .string lab := (eval_getD A 4).symm.trans (hx 4 (by decide))
        unfold Oper.wp execOp
        go_simp
        exact hK _ _ (fun d hd => by cases hd; exact rfl) (Ch.refl _ _)
      | 5, _, ho => by
        obtain rfl := Option.some.inj ho
        have e54 : A.tmps[54]?.getD undef = .agg #[.string name, .int .i64 port, .slice A1 n1 c1, .slice A2 lp.length c2, .slice A3 lf.length c3, .slice A4 n4 c4, .slice A5 n5 c5, .slice A6 lb.length c6, .slice A7 n7 c7, .slice A8 la.length c8] := (eval_getD A 54).symm.trans (hr 54 (by decide) (by decide))
        have e55 : A.tmps[55]?.getD undef = .int .u32 z := (eval_getD A 55).symm.trans (hr 55 (by decide) (by decide))
        have e56 : A.tmps[56]?.getD undef = .string cn := (eval_getD A 56).symm.trans (hr 56 (by decide) (by decide))
        have e57 : A.tmps[57]?.getD undef = .string st := (eval_getD A 57).symm.trans (hr 57 (by decide) (by decide))
        have e58 : A.tmps[58]?.getD undef = .string lab := (eval_getD A 58).symm.trans (hr 58 (by decide) (by decide))
        unfold Oper.wp execOp
        go_simp
        (go_at_call 31; refine (HWS.out W' hm hl2 hl3 hl6 hl8 ht).mono ?_; rintro e W2 ⟨S1, m1, d1, S2, d2, S3, d3, S4, m4, d4, S5, m5, d5, S6, d6, S7, m7, d7, S8, d8, m2, m6, rfl, _, ho8, hcp⟩)
        exact hK _ _ (fun d hd => by cases hd; exact ⟨S1, m1, d1, S2, d2, S3, d3, S4, m4, d4, S5, m5, d5, S6, d6, S7, m7, d7, S8, d8, m2, m6, rfl, ho8⟩) (hcp)
      | 6, _, ho => by
        obtain rfl := Option.some.inj ho
        have e5 : A.tmps[5]?.getD undef = .pointer (some ⟨B, 0, none⟩) := (eval_getD A 5).symm.trans (hx 5 (by decide))
        have l0 : W'.cell? ⟨B, 0, none⟩ = some (.string name) := blk_cell hB rfl
        have l1 : W'.cell? ⟨B, 1, none⟩ = some (.int .i64 port) := blk_cell hB rfl
        have l2 : W'.cell? ⟨B, 2, none⟩ = some (.slice A1 n1 c1) := blk_cell hB rfl
        have l3 : W'.cell? ⟨B, 3, none⟩ = some (.slice A2 lp.length c2) := blk_cell hB rfl
        have l4 : W'.cell? ⟨B, 4, none⟩ = some (.slice A3 lf.length c3) := blk_cell hB rfl
        have l5 : W'.cell? ⟨B, 5, none⟩ = some (.slice A4 n4 c4) := blk_cell hB rfl
        have l6 : W'.cell? ⟨B, 6, none⟩ = some (.slice A5 n5 c5) := blk_cell hB rfl
        have l7 : W'.cell? ⟨B, 7, none⟩ = some (.slice A6 lb.length c6) := blk_cell hB rfl
        have l8 : W'.cell? ⟨B, 8, none⟩ = some (.slice A7 n7 c7) := blk_cell hB rfl
        have l9 : W'.cell? ⟨B, 9, none⟩ = some (.slice A8 la.length c8) := blk_cell hB rfl
        unfold Oper.wp execOp
        go_simp
        exact hK _ _ (fun d hd => by cases hd; exact rfl) (Ch.refl _ _)
      | 7, _, ho => by
        obtain rfl := Option.some.inj ho
        have e11 : A.tmps[11]?.getD undef = .string Q := (eval_getD A 11).symm.trans (hx 11 (by decide))
        unfold Oper.wp execOp
        go_simp
        exact hK _ _ (fun d hd => by cases hd; exact rfl) (Ch.refl _ _)
      | 8, _, ho => by
        obtain rfl := Option.some.inj ho
        have e61 : A.tmps[61]?.getD undef = .string Q := (eval_getD A 61).symm.trans (hr 61 (by decide) (by decide))
        unfold Oper.wp execOp
        go_simp
        rw [if_neg (by omega)]
        exact hK _ _ (fun d hd => by cases hd; exact rfl) (Ch.refl _ _)
      | 9, _, ho => by
        obtain rfl := Option.some.inj ho
        have e2 : A.tmps[2]?.getD undef = .string cn := (eval_getD A 2).symm.trans (hx 2 (by decide))
        unfold Oper.wp execOp
        go_simp
        exact hK _ _ (fun d hd => by cases hd; exact rfl) (Ch.refl _ _)
      | 10, _, ho => by
        obtain rfl := Option.some.inj ho
        have e62 : A.tmps[62]?.getD undef = .string (Q ++ (ByteArray.mk #[99, 110, 97, 109, 101, 58])) := (eval_getD A 62).symm.trans (hr 62 (by decide) (by decide))
        have e63 : A.tmps[63]?.getD undef = .string cn := (eval_getD A 63).symm.trans (hr 63 (by decide) (by decide))
        unfold Oper.wp execOp
        go_simp
        rw [if_neg (by omega)]
        exact hK _ _ (fun d hd => by cases hd; exact rfl) (Ch.refl _ _)
      | 11, _, ho => by
        obtain rfl := Option.some.inj ho
        have e64 : A.tmps[64]?.getD undef = .string (Q ++ (ByteArray.mk #[99, 110, 97, 109, 101, 58]) ++ cn) := (eval_getD A 64).symm.trans (hr 64 (by decide) (by decide))
        unfold Oper.wp execOp
        go_simp
        exact hK _ _ (fun d hd => by cases hd; exact rfl) (Ch.refl _ _)
      | 12, _, ho => by
        obtain rfl := Option.some.inj ho
        have e11 : A.tmps[11]?.getD undef = .string Q := (eval_getD A 11).symm.trans (hx 11 (by decide))
        unfold Oper.wp execOp
        go_simp
        exact hK _ _ (fun d hd => by cases hd; exact rfl) (Ch.refl _ _)
      | 13, _, ho => by
        obtain rfl := Option.some.inj ho
        have e66 : A.tmps[66]?.getD undef = .string Q := (eval_getD A 66).symm.trans (hr 66 (by decide) (by decide))
        unfold Oper.wp execOp
        go_simp
        rw [if_neg (by omega)]
        exact hK _ _ (fun d hd => by cases hd; exact rfl) (Ch.refl _ _)
      | 14, _, ho => by
        obtain rfl := Option.some.inj ho
        have e3 : A.tmps[3]?.getD undef = .string st := (eval_getD A 3).symm.trans (hx 3 (by decide))
        unfold Oper.wp execOp
        go_simp
        exact hK _ _ (fun d hd => by cases hd; exact rfl) (Ch.refl _ _)
      | 15, _, ho => by
        obtain rfl := Option.some.inj ho
        have e67 : A.tmps[67]?.getD undef = .string (Q ++ (ByteArray.mk #[109, 115, 105, 100, 58])) := (eval_getD A 67).symm.trans (hr 67 (by decide) (by decide))
        have e68 : A.tmps[68]?.getD undef = .string st := (eval_getD A 68).symm.trans (hr 68 (by decide) (by decide))
        unfold Oper.wp execOp
        go_simp
        rw [if_neg (by omega)]
        exact hK _ _ (fun d hd => by cases hd; exact rfl) (Ch.refl _ _)
      | 16, _, ho => by
        obtain rfl := Option.some.inj ho
        have e69 : A.tmps[69]?.getD undef = .string (Q ++ (ByteArray.mk #[109, 115, 105, 100, 58]) ++ st) := (eval_getD A 69).symm.trans (hr 69 (by decide) (by decide))
        unfold Oper.wp execOp
        go_simp
        rw [if_neg (by omega)]
        exact hK _ _ (fun d hd => by cases hd; exact rfl) (Ch.refl _ _)
      | 17, _, ho => by
        obtain rfl := Option.some.inj ho
        have e4 : A.tmps[4]?.getD undef = .string lab := (eval_getD A 4).symm.trans (hx 4 (by decide))
        unfold Oper.wp execOp
        go_simp
        exact hK _ _ (fun d hd => by cases hd; exact rfl) (Ch.refl _ _)
      | 18, _, ho => by
        obtain rfl := Option.some.inj ho
        have e70 : A.tmps[70]?.getD undef = .string (Q ++ (ByteArray.mk #[109, 115, 105, 100, 58]) ++ st ++ (ByteArray.mk #[32])) := (eval_getD A 70).symm.trans (hr 70 (by decide) (by decide))
        have e71 : A.tmps[71]?.getD undef = .string lab := (eval_getD A 71).symm.trans (hr 71 (by decide) (by decide))
        unfold Oper.wp execOp
        go_simp
        rw [if_neg (by omega)]
        exact hK _ _ (fun d hd => by cases hd; exact rfl) (Ch.refl _ _)
      | 19, _, ho => by
        obtain rfl := Option.some.inj ho
        have e72 : A.tmps[72]?.getD undef = .string (Q ++ (ByteArray.mk #[109, 115, 105, 100, 58]) ++ st ++ (ByteArray.mk #[32]) ++ lab) := (eval_getD A 72).symm.trans (hr 72 (by decide) (by decide))
        unfold Oper.wp execOp
        go_simp
        exact hK _ _ (fun d hd => by cases hd; exact rfl) (Ch.refl _ _)
      | 20, _, ho => by
        obtain rfl := Option.some.inj ho
        have e11 : A.tmps[11]?.getD undef = .string Q := (eval_getD A 11).symm.trans (hx 11 (by decide))
        unfold Oper.wp execOp
        go_simp
        exact hK _ _ (fun d hd => by cases hd; exact rfl) (Ch.refl _ _)
      | 21, _, ho => by
        obtain rfl := Option.some.inj ho
        have e74 : A.tmps[74]?.getD undef = .string Q := (eval_getD A 74).symm.trans (hr 74 (by decide) (by decide))
        unfold Oper.wp execOp
        go_simp
        rw [if_neg (by omega)]
        exact hK _ _ (fun d hd => by cases hd; exact rfl) (Ch.refl _ _)
      | 22, _, ho => by
        obtain rfl := Option.some.inj ho
        have e3 : A.tmps[3]?.getD undef = .string st := (eval_getD A 3).symm.trans (hx 3 (by decide))
        unfold Oper.wp execOp
        go_simp
        exact hK _ _ (fun d hd => by cases hd; exact rfl) (Ch.refl _ _)
      | 23, _, ho => by
        obtain rfl := Option.some.inj ho
        have e75 : A.tmps[75]?.getD undef = .string (Q ++ (ByteArray.mk #[109, 115, 108, 97, 98, 101, 108, 58])) := (eval_getD A 75).symm.trans (hr 75 (by decide) (by decide))
        have e76 : A.tmps[76]?.getD undef = .string st := (eval_getD A 76).symm.trans (hr 76 (by decide) (by decide))
        unfold Oper.wp execOp
        go_simp
        rw [if_neg (by omega)]
        exact hK _ _ (fun d hd => by cases hd; exact rfl) (Ch.refl _ _)
      | 24, _, ho => by
        obtain rfl := Option.some.inj ho
        have e77 : A.tmps[77]?.getD undef = .string (Q ++ (ByteArray.mk #[109, 115, 108, 97, 98, 101, 108, 58]) ++ st) := (eval_getD A 77).symm.trans (hr 77 (by decide) (by decide))
        unfold Oper.wp execOp
        go_simp
        exact hK _ _ (fun d hd => by cases hd; exact rfl) (Ch.refl _ _)
      | 25, _, ho => by
        obtain rfl := Option.some.inj ho
        have e11 : A.tmps[11]?.getD undef = .string Q := (eval_getD A 11).symm.trans (hx 11 (by decide))
        unfold Oper.wp execOp
        go_simp
        exact hK _ _ (fun d hd => by cases hd; exact rfl) (Ch.refl _ _)
      | 26, _, ho => by
        obtain rfl := Option.some.inj ho
        have e79 : A.tmps[79]?.getD undef = .string Q := (eval_getD A 79).symm.trans (hr 79 (by decide) (by decide))
        unfold Oper.wp execOp
        go_simp
        rw [if_neg (by omega)]
        exact hK _ _ (fun d hd => by cases hd; exact rfl) (Ch.refl _ _)
      | 27, _, ho => by
        obtain rfl := Option.some.inj ho
        have e4 : A.tmps[4]?.getD undef = .string lab := (eval_getD A 4).symm.trans (hx 4 (by decide))
        unfold Oper.wp execOp
        go_simp
        exact hK _ _ (fun d hd => by cases hd; exact rfl) (Ch.refl _ _)
      | 28, _, ho => by
        obtain rfl := Option.some.inj ho
        have e80 : A.tmps[80]?.getD undef = .string (Q ++ (ByteArray.mk #[108, 97, 98, 101, 108, 58])) := (eval_getD A 80).symm.trans (hr 80 (by decide) (by decide))
        have e81 : A.tmps[81]?.getD undef = .string lab := (eval_getD A 81).symm.trans (hr 81 (by decide) (by decide))
        unfold Oper.wp execOp
        go_simp
        rw [if_neg (by omega)]
        exact hK _ _ (fun d hd => by cases hd; exact rfl) (Ch.refl _ _)
      | 29, _, ho => by
        obtain rfl := Option.some.inj ho
        have e82 : A.tmps[82]?.getD undef = .string (Q ++ (ByteArray.mk #[108, 97, 98, 101, 108, 58]) ++ lab) := (eval_getD A 82).symm.trans (hr 82 (by decide) (by decide))
        unfold Oper.wp execOp
        go_simp
        exact hK _ _ (fun d hd => by cases hd; exact rfl) (Ch.refl _ _)
      | 30, _, ho => by
        obtain rfl := Option.some.inj ho
        have e65 : A.tmps[65]?.getD undef = .agg #[.string ⟨#[115, 115, 114, 99]⟩, .string (Q ++ (ByteArray.mk #[99, 110, 97, 109, 101, 58]) ++ cn)] := (eval_getD A 65).symm.trans (hr 65 (by decide) (by decide))
        have e73 : A.tmps[73]?.getD undef = .agg #[.string ⟨#[115, 115, 114, 99]⟩, .string (Q ++ (ByteArray.mk #[109, 115, 105, 100, 58]) ++ st ++ (ByteArray.mk #[32]) ++ lab)] := (eval_getD A 73).symm.trans (hr 73 (by decide) (by decide))
        have e78 : A.tmps[78]?.getD undef = .agg #[.string ⟨#[115, 115, 114, 99]⟩, .string (Q ++ (ByteArray.mk #[109, 115, 108, 97, 98, 101, 108, 58]) ++ st)] := (eval_getD A 78).symm.trans (hr 78 (by decide) (by decide))
        have e83 : A.tmps[83]?.getD undef = .agg #[.string ⟨#[115, 115, 114, 99]⟩, .string (Q ++ (ByteArray.mk #[108, 97, 98, 101, 108, 58]) ++ lab)] := (eval_getD A 83).symm.trans (hr 83 (by decide) (by decide))
        unfold Oper.wp execOp
        go_simp
        exact hK _ _ (fun d hd => by cases hd; exact ⟨_, rfl, heap_alloc_new _ _⟩) (Ch.grown (World.grownBy_alloc _ _ none) (by simp))
      | 31, _, ho => by
        obtain rfl := Option.some.inj ho
        obtain ⟨S159, m159, d159, S259, d259, S359, d359, S459, m459, d459, S559, m559, d559, S659, d659, S759, m759, d759, S859, d859, m259, m659, eq59_, p59_0⟩ : ∃ (S1 : Option Addr) (m1 : Nat) (d1 : Nat) (S2 : Option Addr) (d2 : Nat) (S3 : Option Addr) (d3 : Nat) (S4 : Option Addr) (m4 : Nat) (d4 : Nat) (S5 : Option Addr) (m5 : Nat) (d5 : Nat) (S6 : Option Addr) (d6 : Nat) (S7 : Option Addr) (m7 : Nat) (d7 : Nat) (S8 : Option Addr) (d8 : Nat) (m2 : Nat) (m6 : Nat), A.eval (.tmp 59) = .agg #[.string name, .int .i64 port, .slice S1 m1 d1, .slice S2 m2 d2, .slice S3 lf.length d3, .slice S4 m4 d4, .slice S5 m5 d5, .slice S6 m6 d6, .slice S7 m7 d7, .slice S8 lg.length d8] ∧ W'.ownsRow 0 73 2 (.slice S8 lg.length d8) lg.length (lg.flatMap attrC) := hr 59 (by decide) (by decide)
        have e59 : A.tmps[59]?.getD undef = .agg #[.string name, .int .i64 port, .slice S159 m159 d159, .slice S259 m259 d259, .slice S359 lf.length d359, .slice S459 m459 d459, .slice S559 m559 d559, .slice S659 m659 d659, .slice S759 m759 d759, .slice S859 lg.length d859] := (eval_getD A 59).symm.trans eq59_
        have e60 : A.tmps[60]?.getD undef = .agg #[.string name, .int .i64 port, .slice A1 n1 c1, .slice A2 lp.length c2, .slice A3 lf.length c3, .slice A4 n4 c4, .slice A5 n5 c5, .slice A6 lb.length c6, .slice A7 n7 c7, .slice A8 la.length c8] := (eval_getD A 60).symm.trans (hr 60 (by decide) (by decide))
        obtain ⟨k84, eq84_, p84_0⟩ : ∃ (k : Nat), A.eval (.tmp 84) = .slice (some ⟨k, 0, none⟩) 4 4 ∧ W'.heap[k]? = some (.cells #[.string ⟨#[115, 115, 114, 99]⟩, .string (Q ++ (ByteArray.mk #[99, 110, 97, 109, 101, 58]) ++ cn), .string ⟨#[115, 115, 114, 99]⟩, .string (Q ++ (ByteArray.mk #[109, 115, 105, 100, 58]) ++ st ++ (ByteArray.mk #[32]) ++ lab), .string ⟨#[115, 115, 114, 99]⟩, .string (Q ++ (ByteArray.mk #[109, 115, 108, 97, 98, 101, 108, 58]) ++ st), .string ⟨#[115, 115, 114, 99]⟩, .string (Q ++ (ByteArray.mk #[108, 97, 98, 101, 108, 58]) ++ lab)] 73 (0, 0)) := hr 84 (by decide) (by decide)
        have e84 : A.tmps[84]?.getD undef = .slice (some ⟨k84, 0, none⟩) 4 4 := (eval_getD A 84).symm.trans eq84_
        unfold Oper.wp execOp
        go_simp
        have hlx := lst_block (size := 2) (f := attrC) (l := [(⟨#[115, 115, 114, 99]⟩, Q ++ (ByteArray.mk #[99, 110, 97, 109, 101, 58]) ++ cn), (⟨#[115, 115, 114, 99]⟩, Q ++ (ByteArray.mk #[109, 115, 105, 100, 58]) ++ st ++ (ByteArray.mk #[32]) ++ lab), (⟨#[115, 115, 114, 99]⟩, Q ++ (ByteArray.mk #[109, 115, 108, 97, 98, 101, 108, 58]) ++ st), (⟨#[115, 115, 114, 99]⟩, Q ++ (ByteArray.mk #[108, 97, 98, 101, 108, 58]) ++ lab)]) (fun _ => rfl) p84_0 rfl
        (go_at_call 30; refine (appended_any (lx := [(⟨#[115, 115, 114, 99]⟩, Q ++ (ByteArray.mk #[99, 110, 97, 109, 101, 58]) ++ cn), (⟨#[115, 115, 114, 99]⟩, Q ++ (ByteArray.mk #[109, 115, 105, 100, 58]) ++ st ++ (ByteArray.mk #[32]) ++ lab), (⟨#[115, 115, 114, 99]⟩, Q ++ (ByteArray.mk #[109, 115, 108, 97, 98, 101, 108, 58]) ++ st), (⟨#[115, 115, 114, 99]⟩, Q ++ (ByteArray.mk #[108, 97, 98, 101, 108, 58]) ++ lab)]) HLGQ.out (Lst.of_slice (f := attrC) (fun _ => rfl) p59_0 rfl) hl8 hlx hla (by simp)).mono ?_; rintro e W2 ⟨rfl, hcp⟩)
        exact hK _ _ (fun d hd => by cases hd; exact rfl) (hcp)
      | 32, _, ho => by
        obtain rfl := Option.some.inj ho
        have e85 : A.tmps[85]?.getD undef = .bool true := (eval_getD A 85).symm.trans (hr 85 (by decide) (by decide))
        unfold Oper.wp execOp
        go_simp
        exact hK _ _ (fun d hd => by cases hd; exact rfl) (Ch.refl _ _)
      | 33, _, ho => by
        obtain rfl := Option.some.inj ho
        unfold Oper.wp execOp
        go_simp
        (go_at_call 13; refine (works_true h6 h6l).mono ?_; rintro e W2 ⟨rfl, hcp⟩)
        exact hK _ _ (fun d hd => by cases hd; exact rfl) (hcp)
      | 34, _, ho => by
        obtain rfl := Option.some.inj ho
        have e86 : A.tmps[86]?.getD undef = .bool true := (eval_getD A 86).symm.trans (hr 86 (by decide) (by decide))
        have e87 : A.tmps[87]?.getD undef = .bool true := (eval_getD A 87).symm.trans (hr 87 (by decide) (by decide))
        unfold Oper.wp execOp
        go_simp
        exact hK _ _ (fun d hd => by cases hd; exact rfl) (Ch.refl _ _)
      | n + 35, hi, _ => absurd hi (by omega)

  · intro oo ho u W3 hR hu
    obtain rfl := Option.some.inj ho
    have hv : u 88 = .bool true := hu 88 (by decide)
    have HC3 := Lib.hid (HC2.out.trans ((Ch.of_heap (Ch.refl _ W2) (w' := W2.drew) rfl rfl rfl rfl).trans hR))
    clear hR hu
    rw [src_frame, hv]
    unfold Oper.wp execOp
    go_simp
    clear hv
    go_wp2
    refine bodyPost_ret (v := .bool true) (by simp [results, Tryz.results8]) rfl ?_
    exact ⟨rfl, HC3.out⟩

end Go.Proofs.YtimonhimfioohaaGreatDoor
