/- FnBandwidth's walk: a bandwidth that may be printed is read again. -/
import Derived.Test.YtimonhimfioohaaGreatDoorLinesB
namespace Go.Proofs.YtimonhimfioohaaGreatDoor
open Go.RowKit

theorem band_parse {x : Bool} {t s : ByteArray} {n : Nat} (hn : n < 1125899906842624) (hok : BandOk x t n) (ht : t.size ≤ 2147483647) (hs : s.data.toList = (bandLine x t n).drop 2) (w : World) :
    Calls Tryz.prog 24 #[.string s] w fun e w' => e = .returned (.tuple #[.agg #[.bool x, .string t, .int .u64 n], .bool true]) ∧ Ch (fun _ => False) w w' := by
  refine parseBandwidth_ok fun W => ?_
  cases x with
  | true => exact bandwidth_x hn hok ht (by rw [hs]; simp [bandLine]) W
  | false =>
    have hk : t ∈ knownBands := hok.1.resolve_right (fun h => nomatch h.1)
    exact bandwidth_known hn hk (by rw [hs]; simp [bandLine]) W

theorem Tryz.size57 : (Tryz.prog.info? 57).map (·.size) = some 19 := by kernel_rfl

set_option maxRecDepth 100000 in
set_option maxHeartbeats 4000000 in
theorem fnBandwidth_walk {ae : Addr} {x : Bool} {t : ByteArray} {n : Nat} {w : World} (h6 : w.cell? ⟨6, 0, none⟩ = some (.iface 342 (.pointer (some ae)))) :
    Calls Tryz.prog 6 #[.agg #[.bool x, .string t, .int .u64 n]] w fun e w' => e = .returned (.bool true) ∧ Ch (fun _ => False) w w' := by
  have H6 := Lib.hid h6
  have hb0 : (w.alloc (.cells #[.bool x, .string t, .int .u64 n] 45)).heap[w.heap.size]? = some (.cells #[.bool x, .string t, .int .u64 n] 45 (0, 0)) := heap_alloc_new w _
  have hc0 : Ch (fun _ => False) w (w.alloc (.cells #[.bool x, .string t, .int .u64 n] 45)) := Ch.grown (World.grownBy_alloc _ _ none) (by simp)
  have HB0 := Lib.hid hb0
  have HC0 := Lib.hid hc0
  clear h6 hb0 hc0
  go_enter Tryz.func6, Tryz.ntmps6
  go_wp2_with fail
  generalize hB : w.heap.size = B at *
  generalize w.alloc (.cells #[.bool x, .string t, .int .u64 n] 45) = W0 at *
  refine (zzFits9_any (x := x) (t := t) (n := n)).mono ?_
  rintro e W1 ⟨rfl, hc⟩
  have HB1 := Lib.hid ((hc.block B (blk_lt HB0.out) id).trans HB0.out)
  have HC1 := Lib.hid (HC0.out.trans hc)
  clear hc
  by_cases hs : t.size ≤ 2147483647
  rotate_left
  · rw [decide_eq_false hs]
    go_wp2
    go_ret
    exact ⟨rfl, HC1.out⟩
  rw [decide_eq_true hs]
  have HS := Lib.hid hs
  clear hs
  have b0 : W1.cell? ⟨B, 0, none⟩ = some (.bool x) := blk_cell HB1.out rfl
  have b1 : W1.cell? ⟨B, 1, none⟩ = some (.string t) := blk_cell HB1.out rfl
  have b2 : W1.cell? ⟨B, 2, none⟩ = some (.int .u64 n) := blk_cell HB1.out rfl
  have hg : (W1.alloc (.cells #[.bool x, .string t, .int .u64 n] 45)).heap[W1.heap.size]? = some (.cells #[.bool x, .string t, .int .u64 n] 45 (0, 0)) := heap_alloc_new W1 _
  have hc2 : Ch (fun _ => False) W1 (W1.alloc (.cells #[.bool x, .string t, .int .u64 n] 45)) := Ch.grown (World.grownBy_alloc _ _ none) (by simp)
  have HG := Lib.hid hg
  have HC2 := Lib.hid hc2
  clear hg hc2
  go_wp2_with fail
  refine (lawBandwidths_one HG.out).mono ?_
  rintro e W3 ⟨h3, cap3, rfl, hown3, hc3⟩
  have hc4 := HC2.out.trans hc3
  have HB3 := Lib.hid ((hc4.block B (blk_lt HB1.out) id).trans HB1.out)
  have HC3 := Lib.hid (HC1.out.trans hc4)
  have o0 : W3.cell? ⟨h3, 0, none⟩ = some (.bool x) := hown3.cells (g := h3) rfl 0 _ rfl
  have o1 : W3.cell? ⟨h3, 1, none⟩ = some (.string t) := hown3.cells (g := h3) rfl 1 _ rfl
  have o2 : W3.cell? ⟨h3, 2, none⟩ = some (.int .u64 n) := hown3.cells (g := h3) rfl 2 _ rfl
  clear hown3 hc3 hc4 b0 b1 b2
  have hz : (((W3.alloc (.cells #[.bool x, .string t, .int .u64 n] 47)).alloc (.cells #[.bool x, .string t, .int .u64 n] 47)).alloc (.cells #[.int .i64 0, .string ⟨#[]⟩, .int .u64 0, .int .u64 0, .string ⟨#[]⟩, .string ⟨#[]⟩, .string ⟨#[]⟩, .string ⟨#[]⟩, .slice none 0 0, .slice none 0 0, .slice none 0 0, .slice none 0 0, .slice none 0 0, .slice none 0 0, .slice none 0 0, .slice none 0 0, .slice none 0 0, .slice none 0 0, .slice none 0 0] 57)).heap[W3.heap.size + 2]? = some (.cells #[.int .i64 0, .string ⟨#[]⟩, .int .u64 0, .int .u64 0, .string ⟨#[]⟩, .string ⟨#[]⟩, .string ⟨#[]⟩, .string ⟨#[]⟩, .slice none 0 0, .slice none 0 0, .slice none 0 0, .slice none 0 0, .slice none 0 0, .slice none 0 0, .slice none 0 0, .slice none 0 0, .slice none 0 0, .slice none 0 0, .slice none 0 0] 57 (0, 0)) := by
    have h1 := heap_alloc_new ((W3.alloc (.cells #[.bool x, .string t, .int .u64 n] 47)).alloc (.cells #[.bool x, .string t, .int .u64 n] 47)) (.cells #[.int .i64 0, .string ⟨#[]⟩, .int .u64 0, .int .u64 0, .string ⟨#[]⟩, .string ⟨#[]⟩, .string ⟨#[]⟩, .string ⟨#[]⟩, .slice none 0 0, .slice none 0 0, .slice none 0 0, .slice none 0 0, .slice none 0 0, .slice none 0 0, .slice none 0 0, .slice none 0 0, .slice none 0 0, .slice none 0 0, .slice none 0 0] 57)
    rw [World.size_alloc, World.size_alloc] at h1
    exact h1
  have hy : (((W3.alloc (.cells #[.bool x, .string t, .int .u64 n] 47)).alloc (.cells #[.bool x, .string t, .int .u64 n] 47)).alloc (.cells #[.int .i64 0, .string ⟨#[]⟩, .int .u64 0, .int .u64 0, .string ⟨#[]⟩, .string ⟨#[]⟩, .string ⟨#[]⟩, .string ⟨#[]⟩, .slice none 0 0, .slice none 0 0, .slice none 0 0, .slice none 0 0, .slice none 0 0, .slice none 0 0, .slice none 0 0, .slice none 0 0, .slice none 0 0, .slice none 0 0, .slice none 0 0] 57)).heap[W3.heap.size + 1]? = some (.cells #[.bool x, .string t, .int .u64 n] 47 (0, 0)) := by
    have h1 := heap_alloc_new (W3.alloc (.cells #[.bool x, .string t, .int .u64 n] 47)) (.cells #[.bool x, .string t, .int .u64 n] 47)
    rw [World.size_alloc] at h1
    exact (heap_alloc_old _ _ (by simp)).trans h1
  have hx : (((W3.alloc (.cells #[.bool x, .string t, .int .u64 n] 47)).alloc (.cells #[.bool x, .string t, .int .u64 n] 47)).alloc (.cells #[.int .i64 0, .string ⟨#[]⟩, .int .u64 0, .int .u64 0, .string ⟨#[]⟩, .string ⟨#[]⟩, .string ⟨#[]⟩, .string ⟨#[]⟩, .slice none 0 0, .slice none 0 0, .slice none 0 0, .slice none 0 0, .slice none 0 0, .slice none 0 0, .slice none 0 0, .slice none 0 0, .slice none 0 0, .slice none 0 0, .slice none 0 0] 57)).heap[W3.heap.size]? = some (.cells #[.bool x, .string t, .int .u64 n] 47 (0, 0)) :=
    (heap_alloc_old _ _ (by simp; omega)).trans ((heap_alloc_old _ _ (by simp)).trans (heap_alloc_new W3 _))
  have hc5 : Ch (fun _ => False) W3 (((W3.alloc (.cells #[.bool x, .string t, .int .u64 n] 47)).alloc (.cells #[.bool x, .string t, .int .u64 n] 47)).alloc (.cells #[.int .i64 0, .string ⟨#[]⟩, .int .u64 0, .int .u64 0, .string ⟨#[]⟩, .string ⟨#[]⟩, .string ⟨#[]⟩, .string ⟨#[]⟩, .slice none 0 0, .slice none 0 0, .slice none 0 0, .slice none 0 0, .slice none 0 0, .slice none 0 0, .slice none 0 0, .slice none 0 0, .slice none 0 0, .slice none 0 0, .slice none 0 0] 57)) := ((Ch.grown (World.grownBy_alloc _ _ none) (by simp)).trans (Ch.grown (World.grownBy_alloc _ _ none) (by simp))).trans (Ch.grown (World.grownBy_alloc _ _ none) (by simp))
  have HZ := Lib.hid hz
  have HY := Lib.hid hy
  have HXX := Lib.hid hx
  have HC5 := Lib.hid hc5
  clear hz hy hx hc5
  have hz57 : (#[.int .i64 0, .string ⟨#[]⟩, .int .u64 0, .int .u64 0, .string ⟨#[]⟩, .string ⟨#[]⟩, .string ⟨#[]⟩, .string ⟨#[]⟩, .slice none 0 0, .slice none 0 0, .slice none 0 0, .slice none 0 0, .slice none 0 0, .slice (some ⟨W3.heap.size + 1, 0, none⟩) 1 1, .slice none 0 0, .slice none 0 0, .slice none 0 0, .slice none 0 0, .slice none 0 0] : Array Value).all (·.oneCell') = true := by as_aux_lemma => kernel_rfl
  have HZ57 := Lib.hid hz57
  clear hz57
  go_wp2_with (refine wpList_store_row rfl 57 (.tmp 4) (.tmp 18) rfl (W3.heap.size + 2) #[.int .i64 0, .string ⟨#[]⟩, .int .u64 0, .int .u64 0, .string ⟨#[]⟩, .string ⟨#[]⟩, .string ⟨#[]⟩, .string ⟨#[]⟩, .slice none 0 0, .slice none 0 0, .slice none 0 0, .slice none 0 0, .slice none 0 0, .slice (some ⟨W3.heap.size + 1, 0, none⟩) 1 1, .slice none 0 0, .slice none 0 0, .slice none 0 0, .slice none 0 0, .slice none 0 0] #[.int .i64 0, .string ⟨#[]⟩, .int .u64 0, .int .u64 0, .string ⟨#[]⟩, .string ⟨#[]⟩, .string ⟨#[]⟩, .string ⟨#[]⟩, .slice none 0 0, .slice none 0 0, .slice none 0 0, .slice none 0 0, .slice none 0 0, .slice none 0 0, .slice none 0 0, .slice none 0 0, .slice none 0 0, .slice none 0 0, .slice none 0 0] 57 rfl rfl HZ.out Tryz.size57 rfl HZ57.out ?_; refine Hid.out ?_)
  have hM6 : ((((W3.alloc (.cells #[.bool x, .string t, .int .u64 n] 47)).alloc (.cells #[.bool x, .string t, .int .u64 n] 47)).alloc (.cells #[.int .i64 0, .string ⟨#[]⟩, .int .u64 0, .int .u64 0, .string ⟨#[]⟩, .string ⟨#[]⟩, .string ⟨#[]⟩, .string ⟨#[]⟩, .slice none 0 0, .slice none 0 0, .slice none 0 0, .slice none 0 0, .slice none 0 0, .slice none 0 0, .slice none 0 0, .slice none 0 0, .slice none 0 0, .slice none 0 0, .slice none 0 0] 57)).setRow (W3.heap.size + 2) #[.int .i64 0, .string ⟨#[]⟩, .int .u64 0, .int .u64 0, .string ⟨#[]⟩, .string ⟨#[]⟩, .string ⟨#[]⟩, .string ⟨#[]⟩, .slice none 0 0, .slice none 0 0, .slice none 0 0, .slice none 0 0, .slice none 0 0, .slice (some ⟨W3.heap.size + 1, 0, none⟩) 1 1, .slice none 0 0, .slice none 0 0, .slice none 0 0, .slice none 0 0, .slice none 0 0]).heap[W3.heap.size + 2]? = some (.cells #[.int .i64 0, .string ⟨#[]⟩, .int .u64 0, .int .u64 0, .string ⟨#[]⟩, .string ⟨#[]⟩, .string ⟨#[]⟩, .string ⟨#[]⟩, .slice none 0 0, .slice none 0 0, .slice none 0 0, .slice none 0 0, .slice none 0 0, .slice (some ⟨W3.heap.size + 1, 0, none⟩) 1 1, .slice none 0 0, .slice none 0 0, .slice none 0 0, .slice none 0 0, .slice none 0 0] 57 (0, 0)) := setRow_heap _ _ _ _ _ _ HZ.out
  have hY6 : ((((W3.alloc (.cells #[.bool x, .string t, .int .u64 n] 47)).alloc (.cells #[.bool x, .string t, .int .u64 n] 47)).alloc (.cells #[.int .i64 0, .string ⟨#[]⟩, .int .u64 0, .int .u64 0, .string ⟨#[]⟩, .string ⟨#[]⟩, .string ⟨#[]⟩, .string ⟨#[]⟩, .slice none 0 0, .slice none 0 0, .slice none 0 0, .slice none 0 0, .slice none 0 0, .slice none 0 0, .slice none 0 0, .slice none 0 0, .slice none 0 0, .slice none 0 0, .slice none 0 0] 57)).setRow (W3.heap.size + 2) #[.int .i64 0, .string ⟨#[]⟩, .int .u64 0, .int .u64 0, .string ⟨#[]⟩, .string ⟨#[]⟩, .string ⟨#[]⟩, .string ⟨#[]⟩, .slice none 0 0, .slice none 0 0, .slice none 0 0, .slice none 0 0, .slice none 0 0, .slice (some ⟨W3.heap.size + 1, 0, none⟩) 1 1, .slice none 0 0, .slice none 0 0, .slice none 0 0, .slice none 0 0, .slice none 0 0]).heap[W3.heap.size + 1]? = some (.cells #[.bool x, .string t, .int .u64 n] 47 (0, 0)) := (setRow_other _ _ _ _ (by omega)).trans HY.out
  have hX6 : ((((W3.alloc (.cells #[.bool x, .string t, .int .u64 n] 47)).alloc (.cells #[.bool x, .string t, .int .u64 n] 47)).alloc (.cells #[.int .i64 0, .string ⟨#[]⟩, .int .u64 0, .int .u64 0, .string ⟨#[]⟩, .string ⟨#[]⟩, .string ⟨#[]⟩, .string ⟨#[]⟩, .slice none 0 0, .slice none 0 0, .slice none 0 0, .slice none 0 0, .slice none 0 0, .slice none 0 0, .slice none 0 0, .slice none 0 0, .slice none 0 0, .slice none 0 0, .slice none 0 0] 57)).setRow (W3.heap.size + 2) #[.int .i64 0, .string ⟨#[]⟩, .int .u64 0, .int .u64 0, .string ⟨#[]⟩, .string ⟨#[]⟩, .string ⟨#[]⟩, .string ⟨#[]⟩, .slice none 0 0, .slice none 0 0, .slice none 0 0, .slice none 0 0, .slice none 0 0, .slice (some ⟨W3.heap.size + 1, 0, none⟩) 1 1, .slice none 0 0, .slice none 0 0, .slice none 0 0, .slice none 0 0, .slice none 0 0]).heap[W3.heap.size]? = some (.cells #[.bool x, .string t, .int .u64 n] 47 (0, 0)) := (setRow_other _ _ _ _ (by omega)).trans HXX.out
  have hC6 : Ch (fun _ => False) W3 ((((W3.alloc (.cells #[.bool x, .string t, .int .u64 n] 47)).alloc (.cells #[.bool x, .string t, .int .u64 n] 47)).alloc (.cells #[.int .i64 0, .string ⟨#[]⟩, .int .u64 0, .int .u64 0, .string ⟨#[]⟩, .string ⟨#[]⟩, .string ⟨#[]⟩, .string ⟨#[]⟩, .slice none 0 0, .slice none 0 0, .slice none 0 0, .slice none 0 0, .slice none 0 0, .slice none 0 0, .slice none 0 0, .slice none 0 0, .slice none 0 0, .slice none 0 0, .slice none 0 0] 57)).setRow (W3.heap.size + 2) #[.int .i64 0, .string ⟨#[]⟩, .int .u64 0, .int .u64 0, .string ⟨#[]⟩, .string ⟨#[]⟩, .string ⟨#[]⟩, .string ⟨#[]⟩, .slice none 0 0, .slice none 0 0, .slice none 0 0, .slice none 0 0, .slice none 0 0, .slice (some ⟨W3.heap.size + 1, 0, none⟩) 1 1, .slice none 0 0, .slice none 0 0, .slice none 0 0, .slice none 0 0, .slice none 0 0]) := HC5.out.setRow (.inl (by omega)) _
  have HM6 := Lib.hid hM6
  have HY6 := Lib.hid hY6
  have HX6 := Lib.hid hX6
  have HC6 := Lib.hid (HC3.out.trans hC6)
  have HB6 := Lib.hid ((hC6.block B (blk_lt HB3.out) id).trans HB3.out)
  clear hM6 hY6 hX6 hC6 HZ HY HXX HC5 HZ57 o0 o1 o2
  generalize (((W3.alloc (.cells #[.bool x, .string t, .int .u64 n] 47)).alloc (.cells #[.bool x, .string t, .int .u64 n] 47)).alloc (.cells #[.int .i64 0, .string ⟨#[]⟩, .int .u64 0, .int .u64 0, .string ⟨#[]⟩, .string ⟨#[]⟩, .string ⟨#[]⟩, .string ⟨#[]⟩, .slice none 0 0, .slice none 0 0, .slice none 0 0, .slice none 0 0, .slice none 0 0, .slice none 0 0, .slice none 0 0, .slice none 0 0, .slice none 0 0, .slice none 0 0, .slice none 0 0] 57)).setRow (W3.heap.size + 2) #[.int .i64 0, .string ⟨#[]⟩, .int .u64 0, .int .u64 0, .string ⟨#[]⟩, .string ⟨#[]⟩, .string ⟨#[]⟩, .string ⟨#[]⟩, .slice none 0 0, .slice none 0 0, .slice none 0 0, .slice none 0 0, .slice none 0 0, .slice (some ⟨W3.heap.size + 1, 0, none⟩) 1 1, .slice none 0 0, .slice none 0 0, .slice none 0 0, .slice none 0 0, .slice none 0 0] = W6 at *
  generalize W3.heap.size = Z at *
  have x0 : W6.cell? ⟨Z, 0, none⟩ = some (.bool x) := blk_cell HX6.out rfl
  have x1 : W6.cell? ⟨Z, 1, none⟩ = some (.string t) := blk_cell HX6.out rfl
  have x2 : W6.cell? ⟨Z, 2, none⟩ = some (.int .u64 n) := blk_cell HX6.out rfl
  refine Lib.hid ?_
  go_wp2_with fail
  refine (experimental_any (x := x) (t := t) (n := n) (by have := HS.out; omega)).mono ?_
  rintro e W7 ⟨⟨r, rfl, hr⟩, hc⟩
  have HM7 := Lib.hid ((hc.block _ (blk_lt HM6.out) id).trans HM6.out)
  have HY7 := Lib.hid ((hc.block _ (blk_lt HY6.out) id).trans HY6.out)
  have HB7 := Lib.hid ((hc.block _ (blk_lt HB6.out) id).trans HB6.out)
  have HC7 := Lib.hid (HC6.out.trans hc)
  clear hc x0 x1 x2
  cases r with
  | false =>
    clear hr
    have h67 := HC7.out.cell H6.out id
    have h67l := World.block_lt_of_cell? _ _ h67
    go_wp2_with (go_at_call 13; refine (works_true h67 h67l).mono ?_; rintro e w1 ⟨rfl, hc⟩)
    go_ret
    exact ⟨rfl, HC7.out.trans hc⟩
  | true =>
    have hok := hr rfl
    have HOK := Lib.hid hok
    have HN := Lib.hid (show n < 1125899906842624 by have := hok.2; omega)
    clear hr hok
    go_wp2_with (refine wpList_load_row rfl 57 (.tmp 4) rfl (Z + 2) rfl 57 #[.int .i64 0, .string ⟨#[]⟩, .int .u64 0, .int .u64 0, .string ⟨#[]⟩, .string ⟨#[]⟩, .string ⟨#[]⟩, .string ⟨#[]⟩, .slice none 0 0, .slice none 0 0, .slice none 0 0, .slice none 0 0, .slice none 0 0, .slice (some ⟨Z + 1, 0, none⟩) 1 1, .slice none 0 0, .slice none 0 0, .slice none 0 0, .slice none 0 0, .slice none 0 0] (0, 0) _ HM7.out Tryz.underlying57 rfl Tryz.size57 ?_)
    refine (lines_band (G := Z + 1) (D := 1) (by have := HS.out; omega) HN.out HY7.out).mono ?_
    rintro e W8 ⟨h8, cap8, rfl, ⟨a, b, c, hown⟩, hc⟩
    have HB8 := Lib.hid ((hc.block _ (blk_lt HB7.out) id).trans HB7.out)
    have HC8 := Lib.hid (HC7.out.trans hc)
    have l3 : W8.cell? ⟨h8, 3, none⟩ = some (.string ⟨(bandLine x t n).toArray⟩) := hown.cells (g := h8) rfl 3 _ rfl
    have hsz : (2 : Int) ≤ ((⟨(bandLine x t n).toArray⟩ : ByteArray).size : Int) := by
      show (2 : Int) ≤ ((bandLine x t n).length : Int)
      simp [bandLine]
      omega
    have hex : (ByteArray.extract ⟨(bandLine x t n).toArray⟩ 2 (⟨(bandLine x t n).toArray⟩ : ByteArray).size).data.toList = (bandLine x t n).drop 2 := by
      rw [Lib.extract_data]
      simp
      rw [List.take_of_length_le]
      simp [ByteArray.size]
    have HEX := Lib.hid hex
    clear hex hc hown
    generalize (⟨(bandLine x t n).toArray⟩ : ByteArray) = L at *
    go_wp2_with fail
    refine (band_parse HN.out HOK.out HS.out HEX.out _).mono ?_
    rintro e W9 ⟨rfl, hc⟩
    have HB9 := Lib.hid ((hc.block _ (blk_lt HB8.out) id).trans HB8.out)
    have HC9 := Lib.hid (HC8.out.trans hc)
    clear hc l3 hsz
    have b0 : W9.cell? ⟨B, 0, none⟩ = some (.bool x) := blk_cell HB9.out rfl
    have b1 : W9.cell? ⟨B, 1, none⟩ = some (.string t) := blk_cell HB9.out rfl
    have b2 : W9.cell? ⟨B, 2, none⟩ = some (.int .u64 n) := blk_cell HB9.out rfl
    have hcA : Ch (fun _ => False) W9 (W9.alloc (.cells #[.bool x, .string t, .int .u64 n] 45)) := Ch.grown (World.grownBy_alloc _ _ none) (by simp)
    have HCA := Lib.hid (HC9.out.trans hcA)
    have d0 := hcA.cell b0 id
    have d1 := hcA.cell b1 id
    have d2 := hcA.cell b2 id
    clear hcA b0 b1 b2
    have h6A := HCA.out.cell H6.out id
    have h6Al := World.block_lt_of_cell? _ _ h6A
    go_wp2_with (go_at_call 13; refine (works_true h6A h6Al).mono ?_; rintro e w1 ⟨rfl, hc⟩)
    go_ret
    exact ⟨rfl, HCA.out.trans hc⟩

end Go.Proofs.YtimonhimfioohaaGreatDoor
