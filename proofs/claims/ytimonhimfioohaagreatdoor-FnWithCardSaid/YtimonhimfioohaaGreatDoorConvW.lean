/- WithAttribute, WithProperty and WithCodec of the thin package. -/
import Derived.Test.YtimonhimfioohaaGreatDoorCodec
namespace Go.Proofs.YtimonhimfioohaaGreatDoor
open Go.RowKit

set_option maxRecDepth 100000 in
set_option maxHeartbeats 4000000 in
theorem withAttribute_any {name : ByteArray} {port : Int} {A1 A2 A3 A4 A5 A6 A7 A8 : Option Addr} {n1 n4 n5 n7 c1 c2 c3 c4 c5 c6 c7 c8 : Nat} {lp lf : List ByteArray} {lb : List (Bool × ByteArray × Int)} {la lg : List (ByteArray × ByteArray)} {ak av : ByteArray} {w : World} (h : MedRd w A1 A2 A3 A4 A5 A6 A7 A8 n1 lp.length lf.length n4 n5 lb.length n7 la.length) (h2 : Lst w 1 strC A2 lp) (h3 : Lst w 1 strC A3 lf) (h6 : Lst w 3 bandC A6 lb) (h8 : Lst w 2 attrC A8 la)
    (hlp : lp.length ≤ 2147483647) (hlf : lf.length ≤ 2147483647) (hlb : lb.length ≤ 2147483647) (hla : la.length ≤ 20) 
    (hlg : lg = la ++ [(ak, av)]) :
    Calls Tryz.prog 34 #[.agg #[.string name, .int .i64 port, .slice A1 n1 c1, .slice A2 lp.length c2, .slice A3 lf.length c3, .slice A4 n4 c4, .slice A5 n5 c5, .slice A6 lb.length c6, .slice A7 n7 c7, .slice A8 la.length c8], .string ak, .string av] w (MedBack name port lf lg w) := by
  have hc0 : Ch (fun _ => False) w ((w.alloc (.cells #[.string name, .int .i64 port, .slice A1 n1 c1, .slice A2 lp.length c2, .slice A3 lf.length c3, .slice A4 n4 c4, .slice A5 n5 c5, .slice A6 lb.length c6, .slice A7 n7 c7, .slice A8 la.length c8] 66)).alloc (.cells #[.string ⟨#[]⟩, .int .i64 0, .slice none 0 0, .slice none 0 0, .slice none 0 0, .slice none 0 0, .slice none 0 0, .slice none 0 0, .slice none 0 0, .slice none 0 0] 66)) := (Ch.grown (World.grownBy_alloc _ _ none) (by simp)).trans (Ch.grown (World.grownBy_alloc _ _ none) (by simp))
  have hb0 : ((w.alloc (.cells #[.string name, .int .i64 port, .slice A1 n1 c1, .slice A2 lp.length c2, .slice A3 lf.length c3, .slice A4 n4 c4, .slice A5 n5 c5, .slice A6 lb.length c6, .slice A7 n7 c7, .slice A8 la.length c8] 66)).alloc (.cells #[.string ⟨#[]⟩, .int .i64 0, .slice none 0 0, .slice none 0 0, .slice none 0 0, .slice none 0 0, .slice none 0 0, .slice none 0 0, .slice none 0 0, .slice none 0 0] 66)).heap[w.heap.size]? = some (.cells #[.string name, .int .i64 port, .slice A1 n1 c1, .slice A2 lp.length c2, .slice A3 lf.length c3, .slice A4 n4 c4, .slice A5 n5 c5, .slice A6 lb.length c6, .slice A7 n7 c7, .slice A8 la.length c8] 66 (0, 0)) := (Below.heap_alloc _ _ _ (by simp)).trans (heap_alloc_new w _)
  have hr0 : ((w.alloc (.cells #[.string name, .int .i64 port, .slice A1 n1 c1, .slice A2 lp.length c2, .slice A3 lf.length c3, .slice A4 n4 c4, .slice A5 n5 c5, .slice A6 lb.length c6, .slice A7 n7 c7, .slice A8 la.length c8] 66)).alloc (.cells #[.string ⟨#[]⟩, .int .i64 0, .slice none 0 0, .slice none 0 0, .slice none 0 0, .slice none 0 0, .slice none 0 0, .slice none 0 0, .slice none 0 0, .slice none 0 0] 66)).heap[w.heap.size + 1]? = some (.cells #[.string ⟨#[]⟩, .int .i64 0, .slice none 0 0, .slice none 0 0, .slice none 0 0, .slice none 0 0, .slice none 0 0, .slice none 0 0, .slice none 0 0, .slice none 0 0] 66 (0, 0)) := by
    have h1 := heap_alloc_new (w.alloc (.cells #[.string name, .int .i64 port, .slice A1 n1 c1, .slice A2 lp.length c2, .slice A3 lf.length c3, .slice A4 n4 c4, .slice A5 n5 c5, .slice A6 lb.length c6, .slice A7 n7 c7, .slice A8 la.length c8] 66)) (.cells #[.string ⟨#[]⟩, .int .i64 0, .slice none 0 0, .slice none 0 0, .slice none 0 0, .slice none 0 0, .slice none 0 0, .slice none 0 0, .slice none 0 0, .slice none 0 0] 66)
    rw [World.size_alloc] at h1
    exact h1
  have HC0 := Lib.hid hc0
  have HB0 := Lib.hid hb0
  have HR0 := Lib.hid hr0
  have HM := Lib.hid (h.ch hc0)
  have H2 := Lib.hid (h2.ch hc0)
  have H3 := Lib.hid (h3.ch hc0)
  have H6 := Lib.hid (h6.ch hc0)
  have H8 := Lib.hid (h8.ch hc0)
  have HLG := Lib.hid hlg
  skip
  clear h h2 h3 h6 h8 hc0 hb0 hr0 hlg
  go_enter Tryz.func34, Tryz.ntmps34
  go_wp2_with (refine wpList_load_row rfl 66 (.tmp 3) rfl w.heap.size rfl 66 #[.string name, .int .i64 port, .slice A1 n1 c1, .slice A2 lp.length c2, .slice A3 lf.length c3, .slice A4 n4 c4, .slice A5 n5 c5, .slice A6 lb.length c6, .slice A7 n7 c7, .slice A8 la.length c8] (0, 0) _ HB0.out Tryz.underlying66 rfl Tryz.size66 ?_)
  generalize hk : w.heap.size = k at *
  generalize ((w.alloc (.cells #[.string name, .int .i64 port, .slice A1 n1 c1, .slice A2 lp.length c2, .slice A3 lf.length c3, .slice A4 n4 c4, .slice A5 n5 c5, .slice A6 lb.length c6, .slice A7 n7 c7, .slice A8 la.length c8] 66)).alloc (.cells #[.string ⟨#[]⟩, .int .i64 0, .slice none 0 0, .slice none 0 0, .slice none 0 0, .slice none 0 0, .slice none 0 0, .slice none 0 0, .slice none 0 0, .slice none 0 0] 66)) = W0 at *
  refine (media_any HM.out H2.out H3.out H6.out H8.out hlp hlf hlb (by omega)).mono ?_
  rintro e W1 ⟨b, rfl, hm, hc1⟩
  have HMO := Lib.hid hm
  have HC1 := Lib.hid hc1
  have HR1 := Lib.hid ((hc1.block _ (blk_lt HR0.out) id).trans HR0.out)
  skip
  clear hm hc1
  go_wp2_with fail
  refine (withValue_any HMO.out (by omega)).mono ?_
  rintro e W2 ⟨rfl, hm2, hc2⟩
  rw [← HLG.out] at hm2
  have hlgl : lg.length ≤ 2147483647 := by rw [HLG.out]; simp; omega
  obtain ⟨cs, hat, hs⟩ := medOwn_reads hm2 hlp hlf hlb hlgl
  have HR2 := Lib.hid ((hc2.block _ (blk_lt HR1.out) (fun hle => by have := blk_lt HR0.out; omega)).trans HR1.out)
  have HC2 := Lib.hid ((HC0.out.trans HC1.out).fresh hc2 (fun j hj => .inl (by have := HC0.out.size; omega)))
  have HAT := Lib.hid hat
  have HS := Lib.hid hs
  clear hm2 hat hs hc2 hlgl
  go_wp2_with fail
  refine (mediaOf_any HAT.out HS.out).mono ?_
  rintro e W3 ⟨S1, m1, d1, S2, d2, S3, d3, S4, m4, d4, S5, m5, d5, S6, d6, S7, m7, d7, S8, d8, m2, m6, rfl, ho3, ho8, hc3⟩
  have HR3 := Lib.hid ((hc3.block _ (blk_lt HR2.out) id).trans HR2.out)
  have HC3 := Lib.hid (HC2.out.trans hc3)
  have HO3 := Lib.hid ho3
  have HO8 := Lib.hid ho8
  have hz : (#[.string name, .int .i64 port, .slice S1 m1 d1, .slice S2 m2 d2, .slice S3 lf.length d3, .slice S4 m4 d4, .slice S5 m5 d5, .slice S6 m6 d6, .slice S7 m7 d7, .slice S8 lg.length d8] : Array Value).all (·.oneCell') = true := by as_aux_lemma => kernel_rfl
  have HZ := Lib.hid hz
  clear ho3 ho8 hc3 hz
  go_wp2_with (refine wpList_store_row rfl 66 (.tmp 6) (.tmp 12) rfl (k + 1) #[.string name, .int .i64 port, .slice S1 m1 d1, .slice S2 m2 d2, .slice S3 lf.length d3, .slice S4 m4 d4, .slice S5 m5 d5, .slice S6 m6 d6, .slice S7 m7 d7, .slice S8 lg.length d8] #[.string ⟨#[]⟩, .int .i64 0, .slice none 0 0, .slice none 0 0, .slice none 0 0, .slice none 0 0, .slice none 0 0, .slice none 0 0, .slice none 0 0, .slice none 0 0] 66 rfl rfl HR3.out Tryz.size66 rfl HZ.out ?_; refine Hid.out ?_)
  have HR4 := Lib.hid (setRow_heap _ _ _ #[.string name, .int .i64 port, .slice S1 m1 d1, .slice S2 m2 d2, .slice S3 lf.length d3, .slice S4 m4 d4, .slice S5 m5 d5, .slice S6 m6 d6, .slice S7 m7 d7, .slice S8 lg.length d8] _ _ HR3.out)
  have HC4 := Lib.hid (show Ch (fun _ => False) w (W3.setRow (k + 1) #[.string name, .int .i64 port, .slice S1 m1 d1, .slice S2 m2 d2, .slice S3 lf.length d3, .slice S4 m4 d4, .slice S5 m5 d5, .slice S6 m6 d6, .slice S7 m7 d7, .slice S8 lg.length d8]) from HC3.out.setRow (.inl (by rw [hk]; omega)) _)
  have HO34 := Lib.hid (own_row HO3.out HR3.out (by decide) #[.string name, .int .i64 port, .slice S1 m1 d1, .slice S2 m2 d2, .slice S3 lf.length d3, .slice S4 m4 d4, .slice S5 m5 d5, .slice S6 m6 d6, .slice S7 m7 d7, .slice S8 lg.length d8])
  have HO84 := Lib.hid (own_row HO8.out HR3.out (by decide) #[.string name, .int .i64 port, .slice S1 m1 d1, .slice S2 m2 d2, .slice S3 lf.length d3, .slice S4 m4 d4, .slice S5 m5 d5, .slice S6 m6 d6, .slice S7 m7 d7, .slice S8 lg.length d8])
  generalize W3.setRow (k + 1) #[.string name, .int .i64 port, .slice S1 m1 d1, .slice S2 m2 d2, .slice S3 lf.length d3, .slice S4 m4 d4, .slice S5 m5 d5, .slice S6 m6 d6, .slice S7 m7 d7, .slice S8 lg.length d8] = W4 at *
  refine Lib.hid ?_
  go_wp2
  refine bodyPost_ret (v := .agg #[.string name, .int .i64 port, .slice S1 m1 d1, .slice S2 m2 d2, .slice S3 lf.length d3, .slice S4 m4 d4, .slice S5 m5 d5, .slice S6 m6 d6, .slice S7 m7 d7, .slice S8 lg.length d8]) (results_cell_row Tryz.results34 _ _ (k + 1) 66 _ (0, 0) _ rfl HR4.out Tryz.underlying66 rfl Tryz.size66) rfl ?_
  exact ⟨S1, m1, d1, S2, d2, S3, d3, S4, m4, d4, S5, m5, d5, S6, d6, S7, m7, d7, S8, d8, m2, m6, rfl, HO34.out, HO84.out, HC4.out⟩

set_option maxRecDepth 100000 in
set_option maxHeartbeats 4000000 in
theorem implProperty_any {name : ByteArray} {port : Int} {A1 A2 A3 A4 A5 A6 A7 A8 : Option Addr} {n1 n4 n5 n7 c1 c2 c3 c4 c5 c6 c7 c8 : Nat} {lp lf : List ByteArray} {lb : List (Bool × ByteArray × Int)} {la lg : List (ByteArray × ByteArray)} {ak : ByteArray} {w : World} (h : MedRd w A1 A2 A3 A4 A5 A6 A7 A8 n1 lp.length lf.length n4 n5 lb.length n7 la.length) (h2 : Lst w 1 strC A2 lp) (h3 : Lst w 1 strC A3 lf) (h6 : Lst w 3 bandC A6 lb) (h8 : Lst w 2 attrC A8 la)
    (hlp : lp.length ≤ 2147483647) (hlf : lf.length ≤ 2147483647) (hlb : lb.length ≤ 2147483647) (hla : la.length ≤ 20) 
    (hlg : lg = la ++ [(ak, ⟨#[]⟩)]) :
    Calls Tryz.prog 35 #[.agg #[.string name, .int .i64 port, .slice A1 n1 c1, .slice A2 lp.length c2, .slice A3 lf.length c3, .slice A4 n4 c4, .slice A5 n5 c5, .slice A6 lb.length c6, .slice A7 n7 c7, .slice A8 la.length c8], .string ak] w (MedBack name port lf lg w) := by
  have hc0 : Ch (fun _ => False) w ((w.alloc (.cells #[.string name, .int .i64 port, .slice A1 n1 c1, .slice A2 lp.length c2, .slice A3 lf.length c3, .slice A4 n4 c4, .slice A5 n5 c5, .slice A6 lb.length c6, .slice A7 n7 c7, .slice A8 la.length c8] 66)).alloc (.cells #[.string ⟨#[]⟩, .int .i64 0, .slice none 0 0, .slice none 0 0, .slice none 0 0, .slice none 0 0, .slice none 0 0, .slice none 0 0, .slice none 0 0, .slice none 0 0] 66)) := (Ch.grown (World.grownBy_alloc _ _ none) (by simp)).trans (Ch.grown (World.grownBy_alloc _ _ none) (by simp))
  have hb0 : ((w.alloc (.cells #[.string name, .int .i64 port, .slice A1 n1 c1, .slice A2 lp.length c2, .slice A3 lf.length c3, .slice A4 n4 c4, .slice A5 n5 c5, .slice A6 lb.length c6, .slice A7 n7 c7, .slice A8 la.length c8] 66)).alloc (.cells #[.string ⟨#[]⟩, .int .i64 0, .slice none 0 0, .slice none 0 0, .slice none 0 0, .slice none 0 0, .slice none 0 0, .slice none 0 0, .slice none 0 0, .slice none 0 0] 66)).heap[w.heap.size]? = some (.cells #[.string name, .int .i64 port, .slice A1 n1 c1, .slice A2 lp.length c2, .slice A3 lf.length c3, .slice A4 n4 c4, .slice A5 n5 c5, .slice A6 lb.length c6, .slice A7 n7 c7, .slice A8 la.length c8] 66 (0, 0)) := (Below.heap_alloc _ _ _ (by simp)).trans (heap_alloc_new w _)
  have hr0 : ((w.alloc (.cells #[.string name, .int .i64 port, .slice A1 n1 c1, .slice A2 lp.length c2, .slice A3 lf.length c3, .slice A4 n4 c4, .slice A5 n5 c5, .slice A6 lb.length c6, .slice A7 n7 c7, .slice A8 la.length c8] 66)).alloc (.cells #[.string ⟨#[]⟩, .int .i64 0, .slice none 0 0, .slice none 0 0, .slice none 0 0, .slice none 0 0, .slice none 0 0, .slice none 0 0, .slice none 0 0, .slice none 0 0] 66)).heap[w.heap.size + 1]? = some (.cells #[.string ⟨#[]⟩, .int .i64 0, .slice none 0 0, .slice none 0 0, .slice none 0 0, .slice none 0 0, .slice none 0 0, .slice none 0 0, .slice none 0 0, .slice none 0 0] 66 (0, 0)) := by
    have h1 := heap_alloc_new (w.alloc (.cells #[.string name, .int .i64 port, .slice A1 n1 c1, .slice A2 lp.length c2, .slice A3 lf.length c3, .slice A4 n4 c4, .slice A5 n5 c5, .slice A6 lb.length c6, .slice A7 n7 c7, .slice A8 la.length c8] 66)) (.cells #[.string ⟨#[]⟩, .int .i64 0, .slice none 0 0, .slice none 0 0, .slice none 0 0, .slice none 0 0, .slice none 0 0, .slice none 0 0, .slice none 0 0, .slice none 0 0] 66)
    rw [World.size_alloc] at h1
    exact h1
  have HC0 := Lib.hid hc0
  have HB0 := Lib.hid hb0
  have HR0 := Lib.hid hr0
  have HM := Lib.hid (h.ch hc0)
  have H2 := Lib.hid (h2.ch hc0)
  have H3 := Lib.hid (h3.ch hc0)
  have H6 := Lib.hid (h6.ch hc0)
  have H8 := Lib.hid (h8.ch hc0)
  have HLG := Lib.hid hlg
  skip
  clear h h2 h3 h6 h8 hc0 hb0 hr0 hlg
  go_enter Tryz.func35, Tryz.ntmps35
  go_wp2_with (refine wpList_load_row rfl 66 (.tmp 2) rfl w.heap.size rfl 66 #[.string name, .int .i64 port, .slice A1 n1 c1, .slice A2 lp.length c2, .slice A3 lf.length c3, .slice A4 n4 c4, .slice A5 n5 c5, .slice A6 lb.length c6, .slice A7 n7 c7, .slice A8 la.length c8] (0, 0) _ HB0.out Tryz.underlying66 rfl Tryz.size66 ?_)
  generalize hk : w.heap.size = k at *
  generalize ((w.alloc (.cells #[.string name, .int .i64 port, .slice A1 n1 c1, .slice A2 lp.length c2, .slice A3 lf.length c3, .slice A4 n4 c4, .slice A5 n5 c5, .slice A6 lb.length c6, .slice A7 n7 c7, .slice A8 la.length c8] 66)).alloc (.cells #[.string ⟨#[]⟩, .int .i64 0, .slice none 0 0, .slice none 0 0, .slice none 0 0, .slice none 0 0, .slice none 0 0, .slice none 0 0, .slice none 0 0, .slice none 0 0] 66)) = W0 at *
  refine (media_any HM.out H2.out H3.out H6.out H8.out hlp hlf hlb (by omega)).mono ?_
  rintro e W1 ⟨b, rfl, hm, hc1⟩
  have HMO := Lib.hid hm
  have HC1 := Lib.hid hc1
  have HR1 := Lib.hid ((hc1.block _ (blk_lt HR0.out) id).trans HR0.out)
  skip
  clear hm hc1
  go_wp2_with fail
  refine (withProperty_any HMO.out (by omega)).mono ?_
  rintro e W2 ⟨rfl, hm2, hc2⟩
  rw [← HLG.out] at hm2
  have hlgl : lg.length ≤ 2147483647 := by rw [HLG.out]; simp; omega
  obtain ⟨cs, hat, hs⟩ := medOwn_reads hm2 hlp hlf hlb hlgl
  have HR2 := Lib.hid ((hc2.block _ (blk_lt HR1.out) (fun hle => by have := blk_lt HR0.out; omega)).trans HR1.out)
  have HC2 := Lib.hid ((HC0.out.trans HC1.out).fresh hc2 (fun j hj => .inl (by have := HC0.out.size; omega)))
  have HAT := Lib.hid hat
  have HS := Lib.hid hs
  clear hm2 hat hs hc2 hlgl
  go_wp2_with fail
  refine (mediaOf_any HAT.out HS.out).mono ?_
  rintro e W3 ⟨S1, m1, d1, S2, d2, S3, d3, S4, m4, d4, S5, m5, d5, S6, d6, S7, m7, d7, S8, d8, m2, m6, rfl, ho3, ho8, hc3⟩
  have HR3 := Lib.hid ((hc3.block _ (blk_lt HR2.out) id).trans HR2.out)
  have HC3 := Lib.hid (HC2.out.trans hc3)
  have HO3 := Lib.hid ho3
  have HO8 := Lib.hid ho8
  have hz : (#[.string name, .int .i64 port, .slice S1 m1 d1, .slice S2 m2 d2, .slice S3 lf.length d3, .slice S4 m4 d4, .slice S5 m5 d5, .slice S6 m6 d6, .slice S7 m7 d7, .slice S8 lg.length d8] : Array Value).all (·.oneCell') = true := by as_aux_lemma => kernel_rfl
  have HZ := Lib.hid hz
  clear ho3 ho8 hc3 hz
  go_wp2_with (refine wpList_store_row rfl 66 (.tmp 4) (.tmp 9) rfl (k + 1) #[.string name, .int .i64 port, .slice S1 m1 d1, .slice S2 m2 d2, .slice S3 lf.length d3, .slice S4 m4 d4, .slice S5 m5 d5, .slice S6 m6 d6, .slice S7 m7 d7, .slice S8 lg.length d8] #[.string ⟨#[]⟩, .int .i64 0, .slice none 0 0, .slice none 0 0, .slice none 0 0, .slice none 0 0, .slice none 0 0, .slice none 0 0, .slice none 0 0, .slice none 0 0] 66 rfl rfl HR3.out Tryz.size66 rfl HZ.out ?_; refine Hid.out ?_)
  have HR4 := Lib.hid (setRow_heap _ _ _ #[.string name, .int .i64 port, .slice S1 m1 d1, .slice S2 m2 d2, .slice S3 lf.length d3, .slice S4 m4 d4, .slice S5 m5 d5, .slice S6 m6 d6, .slice S7 m7 d7, .slice S8 lg.length d8] _ _ HR3.out)
  have HC4 := Lib.hid (show Ch (fun _ => False) w (W3.setRow (k + 1) #[.string name, .int .i64 port, .slice S1 m1 d1, .slice S2 m2 d2, .slice S3 lf.length d3, .slice S4 m4 d4, .slice S5 m5 d5, .slice S6 m6 d6, .slice S7 m7 d7, .slice S8 lg.length d8]) from HC3.out.setRow (.inl (by rw [hk]; omega)) _)
  have HO34 := Lib.hid (own_row HO3.out HR3.out (by decide) #[.string name, .int .i64 port, .slice S1 m1 d1, .slice S2 m2 d2, .slice S3 lf.length d3, .slice S4 m4 d4, .slice S5 m5 d5, .slice S6 m6 d6, .slice S7 m7 d7, .slice S8 lg.length d8])
  have HO84 := Lib.hid (own_row HO8.out HR3.out (by decide) #[.string name, .int .i64 port, .slice S1 m1 d1, .slice S2 m2 d2, .slice S3 lf.length d3, .slice S4 m4 d4, .slice S5 m5 d5, .slice S6 m6 d6, .slice S7 m7 d7, .slice S8 lg.length d8])
  generalize W3.setRow (k + 1) #[.string name, .int .i64 port, .slice S1 m1 d1, .slice S2 m2 d2, .slice S3 lf.length d3, .slice S4 m4 d4, .slice S5 m5 d5, .slice S6 m6 d6, .slice S7 m7 d7, .slice S8 lg.length d8] = W4 at *
  refine Lib.hid ?_
  go_wp2
  refine bodyPost_ret (v := .agg #[.string name, .int .i64 port, .slice S1 m1 d1, .slice S2 m2 d2, .slice S3 lf.length d3, .slice S4 m4 d4, .slice S5 m5 d5, .slice S6 m6 d6, .slice S7 m7 d7, .slice S8 lg.length d8]) (results_cell_row Tryz.results35 _ _ (k + 1) 66 _ (0, 0) _ rfl HR4.out Tryz.underlying66 rfl Tryz.size66) rfl ?_
  exact ⟨S1, m1, d1, S2, d2, S3, d3, S4, m4, d4, S5, m5, d5, S6, d6, S7, m7, d7, S8, d8, m2, m6, rfl, HO34.out, HO84.out, HC4.out⟩

set_option maxRecDepth 100000 in
set_option maxHeartbeats 4000000 in
theorem implCodec_any {name : ByteArray} {port : Int} {A1 A2 A3 A4 A5 A6 A7 A8 : Option Addr} {n1 n4 n5 n7 c1 c2 c3 c4 c5 c6 c7 c8 : Nat} {lp lf : List ByteArray} {lb : List (Bool × ByteArray × Int)} {la lg : List (ByteArray × ByteArray)} {lg2 : List ByteArray} {lx : List (ByteArray × ByteArray)} {pay z ch : Nat} {nm fm : ByteArray} {w : World} (h : MedRd w A1 A2 A3 A4 A5 A6 A7 A8 n1 lp.length lf.length n4 n5 lb.length n7 la.length) (h2 : Lst w 1 strC A2 lp) (h3 : Lst w 1 strC A3 lf) (h6 : Lst w 3 bandC A6 lb) (h8 : Lst w 2 attrC A8 la)
    (hlp : lp.length ≤ 2147483647) (hlf : lf.length ≤ 2147483647) (hlb : lb.length ≤ 2147483647) (hla : la.length ≤ 20) (hpay : pay ≤ 255) (hz : z < 4294967296) (hch : ch ≤ 100) (hnm : nm.size ≤ 2147483647) (hfm : fm.size ≤ 2147483647) (hlf20 : lf.length ≤ 20) (hlxl : lx.length ≤ 2) (htab : Lib.TabIs Tryz.prog w "internal/strconv.uint64pow10" .u64 Lib.pow10Tab)
    (hlx : codecAttrs ⟨(Lib.decDigits pay).toArray⟩ nm ⟨(Lib.decDigits z).toArray⟩ ⟨(Lib.decDigits ch).toArray⟩ fm ch lx)
    (hlg : lg = la ++ lx) (hlg2 : lg2 = lf ++ [⟨(Lib.decDigits pay).toArray⟩]) :
    Calls Tryz.prog 36 #[.agg #[.string name, .int .i64 port, .slice A1 n1 c1, .slice A2 lp.length c2, .slice A3 lf.length c3, .slice A4 n4 c4, .slice A5 n5 c5, .slice A6 lb.length c6, .slice A7 n7 c7, .slice A8 la.length c8], .int .i64 pay, .string nm, .int .u32 z, .int .i64 ch, .string fm] w (MedBack name port lg2 lg w) := by
  have hc0 : Ch (fun _ => False) w ((w.alloc (.cells #[.string name, .int .i64 port, .slice A1 n1 c1, .slice A2 lp.length c2, .slice A3 lf.length c3, .slice A4 n4 c4, .slice A5 n5 c5, .slice A6 lb.length c6, .slice A7 n7 c7, .slice A8 la.length c8] 66)).alloc (.cells #[.string ⟨#[]⟩, .int .i64 0, .slice none 0 0, .slice none 0 0, .slice none 0 0, .slice none 0 0, .slice none 0 0, .slice none 0 0, .slice none 0 0, .slice none 0 0] 66)) := (Ch.grown (World.grownBy_alloc _ _ none) (by simp)).trans (Ch.grown (World.grownBy_alloc _ _ none) (by simp))
  have hb0 : ((w.alloc (.cells #[.string name, .int .i64 port, .slice A1 n1 c1, .slice A2 lp.length c2, .slice A3 lf.length c3, .slice A4 n4 c4, .slice A5 n5 c5, .slice A6 lb.length c6, .slice A7 n7 c7, .slice A8 la.length c8] 66)).alloc (.cells #[.string ⟨#[]⟩, .int .i64 0, .slice none 0 0, .slice none 0 0, .slice none 0 0, .slice none 0 0, .slice none 0 0, .slice none 0 0, .slice none 0 0, .slice none 0 0] 66)).heap[w.heap.size]? = some (.cells #[.string name, .int .i64 port, .slice A1 n1 c1, .slice A2 lp.length c2, .slice A3 lf.length c3, .slice A4 n4 c4, .slice A5 n5 c5, .slice A6 lb.length c6, .slice A7 n7 c7, .slice A8 la.length c8] 66 (0, 0)) := (Below.heap_alloc _ _ _ (by simp)).trans (heap_alloc_new w _)
  have hr0 : ((w.alloc (.cells #[.string name, .int .i64 port, .slice A1 n1 c1, .slice A2 lp.length c2, .slice A3 lf.length c3, .slice A4 n4 c4, .slice A5 n5 c5, .slice A6 lb.length c6, .slice A7 n7 c7, .slice A8 la.length c8] 66)).alloc (.cells #[.string ⟨#[]⟩, .int .i64 0, .slice none 0 0, .slice none 0 0, .slice none 0 0, .slice none 0 0, .slice none 0 0, .slice none 0 0, .slice none 0 0, .slice none 0 0] 66)).heap[w.heap.size + 1]? = some (.cells #[.string ⟨#[]⟩, .int .i64 0, .slice none 0 0, .slice none 0 0, .slice none 0 0, .slice none 0 0, .slice none 0 0, .slice none 0 0, .slice none 0 0, .slice none 0 0] 66 (0, 0)) := by
    have h1 := heap_alloc_new (w.alloc (.cells #[.string name, .int .i64 port, .slice A1 n1 c1, .slice A2 lp.length c2, .slice A3 lf.length c3, .slice A4 n4 c4, .slice A5 n5 c5, .slice A6 lb.length c6, .slice A7 n7 c7, .slice A8 la.length c8] 66)) (.cells #[.string ⟨#[]⟩, .int .i64 0, .slice none 0 0, .slice none 0 0, .slice none 0 0, .slice none 0 0, .slice none 0 0, .slice none 0 0, .slice none 0 0, .slice none 0 0] 66)
    rw [World.size_alloc] at h1
    exact h1
  have HC0 := Lib.hid hc0
  have HB0 := Lib.hid hb0
  have HR0 := Lib.hid hr0
  have HM := Lib.hid (h.ch hc0)
  have H2 := Lib.hid (h2.ch hc0)
  have H3 := Lib.hid (h3.ch hc0)
  have H6 := Lib.hid (h6.ch hc0)
  have H8 := Lib.hid (h8.ch hc0)
  have HLG := Lib.hid hlg
  have HLG2 := Lib.hid hlg2
  have HT0 := Lib.hid (tab_ch htab hc0 id)
  have h8W := Lib.hid (show 8 < w.heap.size from tab_lt htab)
  have HLX := Lib.hid hlx
  clear htab hlx
  have hp0 : ¬ ((pay : Int) < 0) := by omega
  have hp1 : ¬ ((255 : Int) < pay) := by omega
  have hch0 : ¬ ((ch : Int) < 0) := by omega
  have hch1 : ¬ ((65535 : Int) < ch) := by omega
  have hwp : IntKind.u8.wrap (pay : Int) = pay := IntWalk.u8_in _ (by omega)
  have hwc : IntKind.u16.wrap (ch : Int) = ch := IntWalk.u16_in _ (by omega)
  clear h h2 h3 h6 h8 hc0 hb0 hr0 hlg hlg2
  go_enter Tryz.func36, Tryz.ntmps36
  go_wp2_with (refine wpList_load_row rfl 66 (.tmp 6) rfl w.heap.size rfl 66 #[.string name, .int .i64 port, .slice A1 n1 c1, .slice A2 lp.length c2, .slice A3 lf.length c3, .slice A4 n4 c4, .slice A5 n5 c5, .slice A6 lb.length c6, .slice A7 n7 c7, .slice A8 la.length c8] (0, 0) _ HB0.out Tryz.underlying66 rfl Tryz.size66 ?_)
  generalize hk : w.heap.size = k at *
  generalize ((w.alloc (.cells #[.string name, .int .i64 port, .slice A1 n1 c1, .slice A2 lp.length c2, .slice A3 lf.length c3, .slice A4 n4 c4, .slice A5 n5 c5, .slice A6 lb.length c6, .slice A7 n7 c7, .slice A8 la.length c8] 66)).alloc (.cells #[.string ⟨#[]⟩, .int .i64 0, .slice none 0 0, .slice none 0 0, .slice none 0 0, .slice none 0 0, .slice none 0 0, .slice none 0 0, .slice none 0 0, .slice none 0 0] 66)) = W0 at *
  refine (media_any HM.out H2.out H3.out H6.out H8.out hlp hlf hlb (by omega)).mono ?_
  rintro e W1 ⟨b, rfl, hm, hc1⟩
  have HMO := Lib.hid hm
  have HC1 := Lib.hid hc1
  have HR1 := Lib.hid ((hc1.block _ (blk_lt HR0.out) id).trans HR0.out)
  have HT1 := Lib.hid (tab_ch HT0.out HC1.out id)
  have h8L := Lib.hid (show 8 < W0.heap.size by have := HC0.out.size; have := h8W.out; omega)
  clear hm hc1
  go_wp2_with fail
  refine (withCodec_any HMO.out h8L.out hpay hz (by omega) hnm hfm hlf20 hla HT1.out HLX.out).mono ?_
  rintro e W2 ⟨rfl, hm2, hc2⟩
  rw [← HLG.out, ← HLG2.out] at hm2
  have hlgl : lg.length ≤ 2147483647 := by rw [HLG.out, List.length_append]; omega
  have hlf2 : lg2.length ≤ 2147483647 := by rw [HLG2.out, List.length_append]; simp; omega
  obtain ⟨cs, hat, hs⟩ := medOwn_reads hm2 hlp hlf2 hlb hlgl
  have HR2 := Lib.hid ((hc2.block _ (blk_lt HR1.out) (fun hle => by have := blk_lt HR0.out; omega)).trans HR1.out)
  have HC2 := Lib.hid ((HC0.out.trans HC1.out).fresh hc2 (fun j hj => .inl (by have := HC0.out.size; omega)))
  have HAT := Lib.hid hat
  have HS := Lib.hid hs
  clear hm2 hat hs hc2 hlgl hlf2
  go_wp2_with fail
  refine (mediaOf_any HAT.out HS.out).mono ?_
  rintro e W3 ⟨S1, m1, d1, S2, d2, S3, d3, S4, m4, d4, S5, m5, d5, S6, d6, S7, m7, d7, S8, d8, m2, m6, rfl, ho3, ho8, hc3⟩
  have HR3 := Lib.hid ((hc3.block _ (blk_lt HR2.out) id).trans HR2.out)
  have HC3 := Lib.hid (HC2.out.trans hc3)
  have HO3 := Lib.hid ho3
  have HO8 := Lib.hid ho8
  have hz : (#[.string name, .int .i64 port, .slice S1 m1 d1, .slice S2 m2 d2, .slice S3 lg2.length d3, .slice S4 m4 d4, .slice S5 m5 d5, .slice S6 m6 d6, .slice S7 m7 d7, .slice S8 lg.length d8] : Array Value).all (·.oneCell') = true := by as_aux_lemma => kernel_rfl
  have HZ := Lib.hid hz
  clear ho3 ho8 hc3 hz
  go_wp2_with (refine wpList_store_row rfl 66 (.tmp 12) (.tmp 38) rfl (k + 1) #[.string name, .int .i64 port, .slice S1 m1 d1, .slice S2 m2 d2, .slice S3 lg2.length d3, .slice S4 m4 d4, .slice S5 m5 d5, .slice S6 m6 d6, .slice S7 m7 d7, .slice S8 lg.length d8] #[.string ⟨#[]⟩, .int .i64 0, .slice none 0 0, .slice none 0 0, .slice none 0 0, .slice none 0 0, .slice none 0 0, .slice none 0 0, .slice none 0 0, .slice none 0 0] 66 rfl rfl HR3.out Tryz.size66 rfl HZ.out ?_; refine Hid.out ?_)
  have HR4 := Lib.hid (setRow_heap _ _ _ #[.string name, .int .i64 port, .slice S1 m1 d1, .slice S2 m2 d2, .slice S3 lg2.length d3, .slice S4 m4 d4, .slice S5 m5 d5, .slice S6 m6 d6, .slice S7 m7 d7, .slice S8 lg.length d8] _ _ HR3.out)
  have HC4 := Lib.hid (show Ch (fun _ => False) w (W3.setRow (k + 1) #[.string name, .int .i64 port, .slice S1 m1 d1, .slice S2 m2 d2, .slice S3 lg2.length d3, .slice S4 m4 d4, .slice S5 m5 d5, .slice S6 m6 d6, .slice S7 m7 d7, .slice S8 lg.length d8]) from HC3.out.setRow (.inl (by rw [hk]; omega)) _)
  have HO34 := Lib.hid (own_row HO3.out HR3.out (by decide) #[.string name, .int .i64 port, .slice S1 m1 d1, .slice S2 m2 d2, .slice S3 lg2.length d3, .slice S4 m4 d4, .slice S5 m5 d5, .slice S6 m6 d6, .slice S7 m7 d7, .slice S8 lg.length d8])
  have HO84 := Lib.hid (own_row HO8.out HR3.out (by decide) #[.string name, .int .i64 port, .slice S1 m1 d1, .slice S2 m2 d2, .slice S3 lg2.length d3, .slice S4 m4 d4, .slice S5 m5 d5, .slice S6 m6 d6, .slice S7 m7 d7, .slice S8 lg.length d8])
  generalize W3.setRow (k + 1) #[.string name, .int .i64 port, .slice S1 m1 d1, .slice S2 m2 d2, .slice S3 lg2.length d3, .slice S4 m4 d4, .slice S5 m5 d5, .slice S6 m6 d6, .slice S7 m7 d7, .slice S8 lg.length d8] = W4 at *
  refine Lib.hid ?_
  go_wp2
  refine bodyPost_ret (v := .agg #[.string name, .int .i64 port, .slice S1 m1 d1, .slice S2 m2 d2, .slice S3 lg2.length d3, .slice S4 m4 d4, .slice S5 m5 d5, .slice S6 m6 d6, .slice S7 m7 d7, .slice S8 lg.length d8]) (results_cell_row Tryz.results36 _ _ (k + 1) 66 _ (0, 0) _ rfl HR4.out Tryz.underlying66 rfl Tryz.size66) rfl ?_
  exact ⟨S1, m1, d1, S2, d2, S3, d3, S4, m4, d4, S5, m5, d5, S6, d6, S7, m7, d7, S8, d8, m2, m6, rfl, HO34.out, HO84.out, HC4.out⟩

end Go.Proofs.YtimonhimfioohaaGreatDoor
