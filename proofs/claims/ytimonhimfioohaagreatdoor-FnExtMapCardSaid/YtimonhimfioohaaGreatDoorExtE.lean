/- FormatExtMap of the thin package. -/
import Derived.Test.YtimonhimfioohaaGreatDoorExtD
import Derived.Test.YtimonhimfioohaaGreatDoorCodec
namespace Go.Proofs.YtimonhimfioohaaGreatDoor
open Go.RowKit
def exmT (B vn cu ca : Nat) (dn : Int) (U : ByteArray) (ax : List ByteArray) (SU SA : Option Addr) (d : Nat) (v : Value) (W : World) : Prop :=
  match d with
  | 3 => v = .pointer (some ⟨B, 0, none⟩)
  | 4 => v = .int .i64 vn
  | 5 => v = .pointer (some ⟨B, 1, none⟩)
  | 6 => v = .int .i64 dn
  | 7 => v = .pointer (some ⟨B, 2, none⟩)
  | 8 => v = .slice SU 1 cu
  | 9 => ∃ (p : Option Addr), v = .pointer p ∧ OptP W 249 p [U]
  | 10 => v = .pointer (some ⟨B, 3, none⟩)
  | 11 => v = .slice SA ax.length ca
  | 12 => ∃ (q : Option Addr), v = .pointer q ∧ OptP W 9 q ax
  | 13 => ∃ (p : Option Addr) (q : Option Addr), v = .agg #[.int .i64 vn, .int .i64 dn, .pointer p, .pointer q] ∧ OptP W 249 p [U] ∧ OptP W 9 q ax
  | 14 => ∃ (k : Nat) (p : Option Addr) (q : Option Addr), v = .pointer (some ⟨k, 0, none⟩) ∧ W.heap[k]? = some (.cells #[.int .i64 vn, .int .i64 dn, .pointer p, .pointer q] 159 (0, 0)) ∧ OptP W 249 p [U] ∧ OptP W 9 q ax
  | _ => True

theorem exmT_stays {B vn cu ca : Nat} {dn : Int} {U : ByteArray} {ax : List ByteArray} {SU SA : Option Addr} {d : Nat} {v : Value} {W W' : World} (h : exmT B vn cu ca dn U ax SU SA d v W) (hc : Ch (fun _ => False) W W') : exmT B vn cu ca dn U ax SU SA d v W' := by
  unfold exmT at h ⊢
  split at h
  · exact h
  · exact h
  · exact h
  · exact h
  · exact h
  · exact h
  · obtain ⟨p, eq_, p0⟩ := h
    exact ⟨p, eq_, p0.ch hc⟩
  · exact h
  · exact h
  · obtain ⟨q, eq_, p0⟩ := h
    exact ⟨q, eq_, p0.ch hc⟩
  · obtain ⟨p, q, eq_, p0, p1⟩ := h
    exact ⟨p, q, eq_, p0.ch hc, p1.ch hc⟩
  · obtain ⟨k, p, q, eq_, p0, p1, p2⟩ := h
    exact ⟨k, p, q, eq_, (hc.block _ (blk_lt p0) id).trans p0, p1.ch hc, p2.ch hc⟩
  · trivial

set_option maxRecDepth 100000 in
theorem exm_frame (x0 x1 x2 x3 x4 x5 x6 x7 x8 x9 x10 x11 x12 x13 x14 : Value) (d : List Deferred) (u : Nat → Value) : frameOf ⟨#[x0, x1, x2, x3, x4, x5, x6, x7, x8, x9, x10, x11, x12, x13, x14], d⟩ [3, 4, 5, 6, 7, 8, 9, 10, 11, 12, 13, 14] u = ⟨#[x0, x1, x2, u 3, u 4, u 5, u 6, u 7, u 8, u 9, u 10, u 11, u 12, u 13, u 14], d⟩ := by kernel_rfl

set_option maxRecDepth 100000 in
set_option maxHeartbeats 4000000 in
theorem extMap_any {vn cu ca : Nat} {dn : Int} {U : ByteArray} {ax : List ByteArray} {SU SA : Option Addr} {w : World} (hsu : Lst w 1 strC SU [U]) (hsa : Lst w 1 strC SA ax) (hax : ax.length ≤ 1) :
    Calls Tryz.prog 81 #[.agg #[.int .i64 vn, .int .i64 dn, .slice SU 1 cu, .slice SA ax.length ca]] w fun e w' => ∃ k p q, e = .returned (.pointer (some ⟨k, 0, none⟩)) ∧ w'.heap[k]? = some (.cells #[.int .i64 vn, .int .i64 dn, .pointer p, .pointer q] 159 (0, 0)) ∧ OptP w' 249 p [U] ∧ OptP w' 9 q ax ∧ Ch (fun _ => False) w w' := by
  have hb0 : (w.alloc (.cells #[.int .i64 vn, .int .i64 dn, .slice SU 1 cu, .slice SA ax.length ca] 85)).heap[w.heap.size]? = some (.cells #[.int .i64 vn, .int .i64 dn, .slice SU 1 cu, .slice SA ax.length ca] 85 (0, 0)) := heap_alloc_new w _
  have hc0 : Ch (fun _ => False) w (w.alloc (.cells #[.int .i64 vn, .int .i64 dn, .slice SU 1 cu, .slice SA ax.length ca] 85)) := Ch.grown (World.grownBy_alloc _ _ none) (by simp)
  have HB := Lib.hid hb0
  have HC := Lib.hid hc0
  have HU := Lib.hid (hsu.ch hc0)
  have HA := Lib.hid (hsa.ch hc0)
  clear hb0 hc0 hsu hsa
  go_enter Tryz.func81, Tryz.ntmps81
  go_upto_region 1 with fail
  obtain ⟨B, hB⟩ : ∃ B, w.heap.size = B := ⟨_, rfl⟩
  rw [hB] at HB ⊢
  clear hB
  generalize (w.alloc (.cells #[.int .i64 vn, .int .i64 dn, .slice SU 1 cu, .slice SA ax.length ca] 85)) = W0 at *
  refine wp_region_ops (by kernel_rfl) [3, 4, 5, 6, 7, 8, 9, 10, 11, 12, 13, 14] 12 (by kernel_rfl) (by kernel_rfl) (by kernel_rfl) (exmT B vn cu ca dn U ax SU SA) (Ch (fun _ => False)) (Ch.refl _) (fun _ _ _ => Ch.trans) (fun _ _ _ _ => exmT_stays) ?_ ?_
  · intro i oo hi ho A W' hR hr hx K hK
    have hR0 := (Ch.of_heap (Ch.refl _ W0) (w' := W0.drew) rfl rfl rfl rfl).trans hR
    have hB : W'.heap[B]? = some (.cells #[.int .i64 vn, .int .i64 dn, .slice SU 1 cu, .slice SA ax.length ca] 85 (0, 0)) := (hR0.block B (blk_lt HB.out) id).trans HB.out
    have hsu := HU.out.ch hR0
    have hsa := HA.out.ch hR0
    exact match i, hi, ho with
      | 0, _, ho => by
        obtain rfl := Option.some.inj ho
        have e1 : A.tmps[1]?.getD undef = .pointer (some ⟨B, 0, none⟩) := (eval_getD A 1).symm.trans (hx 1 (by decide))
        unfold Oper.wp execOp
        go_simp
        exact hK _ _ (fun d hd => by cases hd; exact rfl) (Ch.refl _ _)
      | 1, _, ho => by
        obtain rfl := Option.some.inj ho
        have e3 : A.tmps[3]?.getD undef = .pointer (some ⟨B, 0, none⟩) := (eval_getD A 3).symm.trans (hr 3 (by decide) (by decide))
        have l0 : W'.cell? ⟨B, 0, none⟩ = some (.int .i64 vn) := blk_cell hB rfl
        unfold Oper.wp execOp
        go_simp
        exact hK _ _ (fun d hd => by cases hd; exact rfl) (Ch.refl _ _)
      | 2, _, ho => by
        obtain rfl := Option.some.inj ho
        have e1 : A.tmps[1]?.getD undef = .pointer (some ⟨B, 0, none⟩) := (eval_getD A 1).symm.trans (hx 1 (by decide))
        unfold Oper.wp execOp
        go_simp
        exact hK _ _ (fun d hd => by cases hd; exact rfl) (Ch.refl _ _)
      | 3, _, ho => by
        obtain rfl := Option.some.inj ho
        have e5 : A.tmps[5]?.getD undef = .pointer (some ⟨B, 1, none⟩) := (eval_getD A 5).symm.trans (hr 5 (by decide) (by decide))
        have l0 : W'.cell? ⟨B, 1, none⟩ = some (.int .i64 dn) := blk_cell hB rfl
        unfold Oper.wp execOp
        go_simp
        exact hK _ _ (fun d hd => by cases hd; exact rfl) (Ch.refl _ _)
      | 4, _, ho => by
        obtain rfl := Option.some.inj ho
        have e1 : A.tmps[1]?.getD undef = .pointer (some ⟨B, 0, none⟩) := (eval_getD A 1).symm.trans (hx 1 (by decide))
        unfold Oper.wp execOp
        go_simp
        exact hK _ _ (fun d hd => by cases hd; exact rfl) (Ch.refl _ _)
      | 5, _, ho => by
        obtain rfl := Option.some.inj ho
        have e7 : A.tmps[7]?.getD undef = .pointer (some ⟨B, 2, none⟩) := (eval_getD A 7).symm.trans (hr 7 (by decide) (by decide))
        have l0 : W'.cell? ⟨B, 2, none⟩ = some (.slice SU 1 cu) := blk_cell hB rfl
        unfold Oper.wp execOp
        go_simp
        exact hK _ _ (fun d hd => by cases hd; exact rfl) (Ch.refl _ _)
      | 6, _, ho => by
        obtain rfl := Option.some.inj ho
        have e8 : A.tmps[8]?.getD undef = .slice SU 1 cu := (eval_getD A 8).symm.trans (hr 8 (by decide) (by decide))
        unfold Oper.wp execOp
        go_simp
        (go_at_call 112; refine (url_l (l := [U]) hsu (by simp)).mono ?_; rintro e W2 ⟨p, rfl, hp, hcp⟩)
        exact hK _ _ (fun d hd => by cases hd; exact ⟨p, rfl, hp⟩) (hcp)
      | 7, _, ho => by
        obtain rfl := Option.some.inj ho
        have e1 : A.tmps[1]?.getD undef = .pointer (some ⟨B, 0, none⟩) := (eval_getD A 1).symm.trans (hx 1 (by decide))
        unfold Oper.wp execOp
        go_simp
        exact hK _ _ (fun d hd => by cases hd; exact rfl) (Ch.refl _ _)
      | 8, _, ho => by
        obtain rfl := Option.some.inj ho
        have e10 : A.tmps[10]?.getD undef = .pointer (some ⟨B, 3, none⟩) := (eval_getD A 10).symm.trans (hr 10 (by decide) (by decide))
        have l0 : W'.cell? ⟨B, 3, none⟩ = some (.slice SA ax.length ca) := blk_cell hB rfl
        unfold Oper.wp execOp
        go_simp
        exact hK _ _ (fun d hd => by cases hd; exact rfl) (Ch.refl _ _)
      | 9, _, ho => by
        obtain rfl := Option.some.inj ho
        have e11 : A.tmps[11]?.getD undef = .slice SA ax.length ca := (eval_getD A 11).symm.trans (hr 11 (by decide) (by decide))
        unfold Oper.wp execOp
        go_simp
        (go_at_call 123; refine (attr_l hsa hax).mono ?_; rintro e W2 ⟨p, rfl, hp, hcp⟩)
        exact hK _ _ (fun d hd => by cases hd; exact ⟨p, rfl, hp⟩) (hcp)
      | 10, _, ho => by
        obtain rfl := Option.some.inj ho
        have e4 : A.tmps[4]?.getD undef = .int .i64 vn := (eval_getD A 4).symm.trans (hr 4 (by decide) (by decide))
        have e6 : A.tmps[6]?.getD undef = .int .i64 dn := (eval_getD A 6).symm.trans (hr 6 (by decide) (by decide))
        obtain ⟨p9, eq9_, p9_0⟩ : ∃ (p : Option Addr), A.eval (.tmp 9) = .pointer p ∧ OptP W' 249 p [U] := hr 9 (by decide) (by decide)
        have e9 : A.tmps[9]?.getD undef = .pointer p9 := (eval_getD A 9).symm.trans eq9_
        obtain ⟨q12, eq12_, p12_0⟩ : ∃ (q : Option Addr), A.eval (.tmp 12) = .pointer q ∧ OptP W' 9 q ax := hr 12 (by decide) (by decide)
        have e12 : A.tmps[12]?.getD undef = .pointer q12 := (eval_getD A 12).symm.trans eq12_
        unfold Oper.wp execOp
        go_simp
        exact hK _ _ (fun d hd => by cases hd; exact ⟨_, _, rfl, p9_0, p12_0⟩) (Ch.refl _ _)
      | 11, _, ho => by
        obtain rfl := Option.some.inj ho
        obtain ⟨p13, q13, eq13_, p13_0, p13_1⟩ : ∃ (p : Option Addr) (q : Option Addr), A.eval (.tmp 13) = .agg #[.int .i64 vn, .int .i64 dn, .pointer p, .pointer q] ∧ OptP W' 249 p [U] ∧ OptP W' 9 q ax := hr 13 (by decide) (by decide)
        have e13 : A.tmps[13]?.getD undef = .agg #[.int .i64 vn, .int .i64 dn, .pointer p13, .pointer q13] := (eval_getD A 13).symm.trans eq13_
        unfold Oper.wp execOp
        go_simp
        have hcc : Ch (fun _ => False) W' (W'.alloc (.cells #[.int .i64 vn, .int .i64 dn, .pointer p13, .pointer q13] 159)) := Ch.grown (World.grownBy_alloc _ _ none) (by simp)
        exact hK _ _ (fun d hd => by cases hd; exact ⟨_, _, _, rfl, heap_alloc_new _ _, p13_0.ch hcc, p13_1.ch hcc⟩) (hcc)
      | n + 12, hi, _ => absurd hi (by omega)

  · intro oo ho u W3 hR hu
    obtain rfl := Option.some.inj ho
    obtain ⟨k, p, q, hv, hk, hp, hq⟩ : ∃ (k : Nat) (p q : Option Addr), u 14 = .pointer (some ⟨k, 0, none⟩) ∧ W3.heap[k]? = some (.cells #[.int .i64 vn, .int .i64 dn, .pointer p, .pointer q] 159 (0, 0)) ∧ OptP W3 249 p [U] ∧ OptP W3 9 q ax := hu 14 (by decide)
    have HC3 := Lib.hid (HC.out.trans ((Ch.of_heap (Ch.refl _ W0) (w' := W0.drew) rfl rfl rfl rfl).trans hR))
    have HK := Lib.hid hk
    have HP := Lib.hid hp
    have HQ := Lib.hid hq
    clear hR hu hk hp hq
    rw [exm_frame, hv]
    unfold Oper.wp execOp
    go_simp
    clear hv
    go_wp2
    refine bodyPost_ret (v := .pointer (some ⟨k, 0, none⟩)) (by simp [results, Tryz.results81]) rfl ?_
    exact ⟨k, p, q, rfl, HK.out, HP.out, HQ.out, HC3.out⟩

theorem directionString_0 (w : World) : Calls Tryz.prog 59 #[.int .i64 0] w fun e w' => e = .returned (.string ⟨#[]⟩) ∧ w = w' := by
  go_enter Tryz.func59, Tryz.ntmps59
  go_wp2
  go_ret
  exact ⟨rfl, rfl⟩
theorem urlString_any {u : Nat} {U : ByteArray} {w : World} (h : w.cell? ⟨u, 0, none⟩ = some (.string U)) : Calls Tryz.prog 146 #[.pointer (some ⟨u, 0, none⟩)] w fun e w' => e = .returned (.string U) ∧ w = w' := by
  go_enter Tryz.func146, Tryz.ntmps146
  go_wp2
  go_ret
  exact ⟨rfl, rfl⟩
theorem extName_any (p : Value) (w : World) : Calls Tryz.prog 124 #[p] w fun e w' => e = .returned (.string ⟨#[101, 120, 116, 109, 97, 112]⟩) ∧ w = w' := by
  go_enter Tryz.func124, Tryz.ntmps124
  go_wp2
  go_ret
  exact ⟨rfl, rfl⟩

set_option maxRecDepth 100000 in
set_option maxHeartbeats 4000000 in
theorem extString_00 {E v u : Nat} {U : ByteArray} {w : World} (hE : w.heap[E]? = some (.cells #[.int .i64 v, .int .i64 0, .pointer (some ⟨u, 0, none⟩), .pointer none] 159 (0, 0))) (hU : w.heap[u]? = some (.cells #[.string U] 249 (0, 0))) 
    (hv : v ≤ 246) (hus : U.size ≤ 2147483647) (htab : Lib.TabIs Tryz.prog w "internal/strconv.uint64pow10" .u64 Lib.pow10Tab) :
    Calls Tryz.prog 125 #[.pointer (some ⟨E, 0, none⟩)] w fun e w' => e = .returned (.string ((⟨(Lib.decDigits v).toArray⟩ : ByteArray) ++ ((ByteArray.mk #[32]) ++ U))) ∧ Ch (fun _ => False) w w' := by
  have HI := Lib.hid (itoa_any v (by omega) w htab)
  have HE := Lib.hid hE
  have HU := Lib.hid hU
  skip
  obtain ⟨D, hD⟩ : ∃ D : ByteArray, (⟨(Lib.decDigits v).toArray⟩ : ByteArray) = D := ⟨_, rfl⟩
  have hd : D.size ≤ 20 := by rw [← hD]; exact dec_len 19 v (Nat.lt_of_le_of_lt hv (by decide))
  rw [hD] at HI ⊢
  clear hD htab hE hU 
  skip
  have z0 : ((ByteArray.mk #[32]) ++ U).size = (ByteArray.mk #[32]).size + U.size := ByteArray.size_append
  have z1 : (D ++ ((ByteArray.mk #[32]) ++ U)).size = D.size + ((ByteArray.mk #[32]) ++ U).size := ByteArray.size_append
  have y1 : (ByteArray.mk #[32]).size = 1 := rfl
  have y2 : (ByteArray.mk #[47]).size = 1 := rfl
  have e0 : w.cell? ⟨E, 0, none⟩ = some (.int .i64 v) := blk_cell HE.out rfl
  go_enter Tryz.func125, Tryz.ntmps125
  go_wp2_with fail
  refine HI.out.mono ?_
  rintro e w1 ⟨rfl, hc⟩
  have hE1 := (hc.block _ (blk_lt HE.out) id).trans HE.out
  have hU1 := (hc.block _ (blk_lt HU.out) id).trans HU.out
  have e1 : w1.cell? ⟨E, 1, none⟩ = some (.int .i64 0) := blk_cell hE1 rfl
  have e2 : w1.cell? ⟨E, 2, none⟩ = some (.pointer (some ⟨u, 0, none⟩)) := blk_cell hE1 rfl
  have e3 : w1.cell? ⟨E, 3, none⟩ = some (.pointer none) := blk_cell hE1 rfl
  have e4 : w1.cell? ⟨u, 0, none⟩ = some (.string U) := blk_cell hU1 rfl
  skip
  have HC := Lib.hid hc
  clear hc hE1 hU1 e0
  go_wp2_with (first | (go_at_call 59; refine (directionString_0 w1).mono ?_; rintro e w2 ⟨rfl, rfl⟩) | (go_at_call 146; refine (urlString_any e4).mono ?_; rintro e w2 ⟨rfl, rfl⟩))
  refine bodyPost_ret (v := .string (D ++ ((ByteArray.mk #[32]) ++ U))) (by simp [results, Tryz.results125]) rfl ?_
  exact ⟨rfl, HC.out⟩

set_option maxRecDepth 100000 in
set_option maxHeartbeats 4000000 in
theorem extString_01 {E v u a : Nat} {U A : ByteArray} {w : World} (hE : w.heap[E]? = some (.cells #[.int .i64 v, .int .i64 0, .pointer (some ⟨u, 0, none⟩), .pointer (some ⟨a, 0, none⟩)] 159 (0, 0))) (hU : w.heap[u]? = some (.cells #[.string U] 249 (0, 0))) (hA : w.heap[a]? = some (.cells #[.string A] 9 (0, 0))) 
    (hv : v ≤ 246) (hus : U.size ≤ 2147483647) (has : A.size ≤ 2147483647) (htab : Lib.TabIs Tryz.prog w "internal/strconv.uint64pow10" .u64 Lib.pow10Tab) :
    Calls Tryz.prog 125 #[.pointer (some ⟨E, 0, none⟩)] w fun e w' => e = .returned (.string (((⟨(Lib.decDigits v).toArray⟩ : ByteArray) ++ ((ByteArray.mk #[32]) ++ U)) ++ ((ByteArray.mk #[32]) ++ A))) ∧ Ch (fun _ => False) w w' := by
  have HI := Lib.hid (itoa_any v (by omega) w htab)
  have HE := Lib.hid hE
  have HU := Lib.hid hU
  have HA := Lib.hid hA
  obtain ⟨D, hD⟩ : ∃ D : ByteArray, (⟨(Lib.decDigits v).toArray⟩ : ByteArray) = D := ⟨_, rfl⟩
  have hd : D.size ≤ 20 := by rw [← hD]; exact dec_len 19 v (Nat.lt_of_le_of_lt hv (by decide))
  rw [hD] at HI ⊢
  clear hD htab hE hU hA
  skip
  have z0 : ((ByteArray.mk #[32]) ++ U).size = (ByteArray.mk #[32]).size + U.size := ByteArray.size_append
  have z1 : (D ++ ((ByteArray.mk #[32]) ++ U)).size = D.size + ((ByteArray.mk #[32]) ++ U).size := ByteArray.size_append
  have z2 : ((ByteArray.mk #[32]) ++ A).size = (ByteArray.mk #[32]).size + A.size := ByteArray.size_append
  have z3 : ((D ++ ((ByteArray.mk #[32]) ++ U)) ++ ((ByteArray.mk #[32]) ++ A)).size = (D ++ ((ByteArray.mk #[32]) ++ U)).size + ((ByteArray.mk #[32]) ++ A).size := ByteArray.size_append
  have y1 : (ByteArray.mk #[32]).size = 1 := rfl
  have y2 : (ByteArray.mk #[47]).size = 1 := rfl
  have e0 : w.cell? ⟨E, 0, none⟩ = some (.int .i64 v) := blk_cell HE.out rfl
  go_enter Tryz.func125, Tryz.ntmps125
  go_wp2_with fail
  refine HI.out.mono ?_
  rintro e w1 ⟨rfl, hc⟩
  have hE1 := (hc.block _ (blk_lt HE.out) id).trans HE.out
  have hU1 := (hc.block _ (blk_lt HU.out) id).trans HU.out
  have e1 : w1.cell? ⟨E, 1, none⟩ = some (.int .i64 0) := blk_cell hE1 rfl
  have e2 : w1.cell? ⟨E, 2, none⟩ = some (.pointer (some ⟨u, 0, none⟩)) := blk_cell hE1 rfl
  have e3 : w1.cell? ⟨E, 3, none⟩ = some (.pointer (some ⟨a, 0, none⟩)) := blk_cell hE1 rfl
  have e4 : w1.cell? ⟨u, 0, none⟩ = some (.string U) := blk_cell hU1 rfl
  have e5 : w1.cell? ⟨a, 0, none⟩ = some (.string A) := blk_cell ((hc.block _ (blk_lt HA.out) id).trans HA.out) rfl
  have HC := Lib.hid hc
  clear hc hE1 hU1 e0
  go_wp2_with (first | (go_at_call 59; refine (directionString_0 w1).mono ?_; rintro e w2 ⟨rfl, rfl⟩) | (go_at_call 146; refine (urlString_any e4).mono ?_; rintro e w2 ⟨rfl, rfl⟩))
  refine bodyPost_ret (v := .string ((D ++ ((ByteArray.mk #[32]) ++ U)) ++ ((ByteArray.mk #[32]) ++ A))) (by simp [results, Tryz.results125]) rfl ?_
  exact ⟨rfl, HC.out⟩

set_option maxRecDepth 100000 in
set_option maxHeartbeats 4000000 in
theorem extString_10 {E v u : Nat} {d : Int} {U : ByteArray} {w : World} (hE : w.heap[E]? = some (.cells #[.int .i64 v, .int .i64 d, .pointer (some ⟨u, 0, none⟩), .pointer none] 159 (0, 0))) (hU : w.heap[u]? = some (.cells #[.string U] 249 (0, 0))) 
    (hv : v ≤ 246) (hd1 : 1 ≤ d) (hd4 : d ≤ 4) (hus : U.size ≤ 2147483647) (htab : Lib.TabIs Tryz.prog w "internal/strconv.uint64pow10" .u64 Lib.pow10Tab) :
    Calls Tryz.prog 125 #[.pointer (some ⟨E, 0, none⟩)] w fun e w' => e = .returned (.string (((⟨(Lib.decDigits v).toArray⟩ : ByteArray) ++ ((ByteArray.mk #[47]) ++ directionText d)) ++ ((ByteArray.mk #[32]) ++ U))) ∧ Ch (fun _ => False) w w' := by
  have HI := Lib.hid (itoa_any v (by omega) w htab)
  have HE := Lib.hid hE
  have HU := Lib.hid hU
  skip
  obtain ⟨D, hD⟩ : ∃ D : ByteArray, (⟨(Lib.decDigits v).toArray⟩ : ByteArray) = D := ⟨_, rfl⟩
  have hd : D.size ≤ 20 := by rw [← hD]; exact dec_len 19 v (Nat.lt_of_le_of_lt hv (by decide))
  rw [hD] at HI ⊢
  clear hD htab hE hU 
  have hds : (directionText d).size = 8 := (dir_slash hd1 hd4).2.1
  have z0 : ((ByteArray.mk #[47]) ++ (directionText d)).size = (ByteArray.mk #[47]).size + (directionText d).size := ByteArray.size_append
  have z1 : (D ++ ((ByteArray.mk #[47]) ++ directionText d)).size = D.size + ((ByteArray.mk #[47]) ++ directionText d).size := ByteArray.size_append
  have z2 : ((ByteArray.mk #[32]) ++ U).size = (ByteArray.mk #[32]).size + U.size := ByteArray.size_append
  have z3 : ((D ++ ((ByteArray.mk #[47]) ++ directionText d)) ++ ((ByteArray.mk #[32]) ++ U)).size = (D ++ ((ByteArray.mk #[47]) ++ directionText d)).size + ((ByteArray.mk #[32]) ++ U).size := ByteArray.size_append
  have y1 : (ByteArray.mk #[32]).size = 1 := rfl
  have y2 : (ByteArray.mk #[47]).size = 1 := rfl
  have e0 : w.cell? ⟨E, 0, none⟩ = some (.int .i64 v) := blk_cell HE.out rfl
  go_enter Tryz.func125, Tryz.ntmps125
  go_wp2_with fail
  refine HI.out.mono ?_
  rintro e w1 ⟨rfl, hc⟩
  have hE1 := (hc.block _ (blk_lt HE.out) id).trans HE.out
  have hU1 := (hc.block _ (blk_lt HU.out) id).trans HU.out
  have e1 : w1.cell? ⟨E, 1, none⟩ = some (.int .i64 d) := blk_cell hE1 rfl
  have e2 : w1.cell? ⟨E, 2, none⟩ = some (.pointer (some ⟨u, 0, none⟩)) := blk_cell hE1 rfl
  have e3 : w1.cell? ⟨E, 3, none⟩ = some (.pointer none) := blk_cell hE1 rfl
  have e4 : w1.cell? ⟨u, 0, none⟩ = some (.string U) := blk_cell hU1 rfl
  skip
  have HC := Lib.hid hc
  clear hc hE1 hU1 e0
  have hne : ¬ ((directionText d).toList.isEmpty = true) := fun h => by
    have h8 := (dir_slash hd1 hd4).2.1
    rw [ByteArray.toList_eq] at h
    rw [List.isEmpty_iff.1 h] at h8
    cases h8
  have hnb : (directionText d).toList.isEmpty = false := by simpa using hne
  clear hne
  go_wp2_with (first | (go_at_call 59; refine (directionString_ok hd1 hd4 w1).mono ?_; rintro e w2 ⟨rfl, rfl⟩) | (go_at_call 146; refine (urlString_any e4).mono ?_; rintro e w2 ⟨rfl, rfl⟩))
  refine bodyPost_ret (v := .string ((D ++ ((ByteArray.mk #[47]) ++ directionText d)) ++ ((ByteArray.mk #[32]) ++ U))) (by simp [results, Tryz.results125]) rfl ?_
  exact ⟨rfl, HC.out⟩

set_option maxRecDepth 100000 in
set_option maxHeartbeats 4000000 in
theorem extString_11 {E v u a : Nat} {d : Int} {U A : ByteArray} {w : World} (hE : w.heap[E]? = some (.cells #[.int .i64 v, .int .i64 d, .pointer (some ⟨u, 0, none⟩), .pointer (some ⟨a, 0, none⟩)] 159 (0, 0))) (hU : w.heap[u]? = some (.cells #[.string U] 249 (0, 0))) (hA : w.heap[a]? = some (.cells #[.string A] 9 (0, 0))) 
    (hv : v ≤ 246) (hd1 : 1 ≤ d) (hd4 : d ≤ 4) (hus : U.size ≤ 2147483647) (has : A.size ≤ 2147483647) (htab : Lib.TabIs Tryz.prog w "internal/strconv.uint64pow10" .u64 Lib.pow10Tab) :
    Calls Tryz.prog 125 #[.pointer (some ⟨E, 0, none⟩)] w fun e w' => e = .returned (.string ((((⟨(Lib.decDigits v).toArray⟩ : ByteArray) ++ ((ByteArray.mk #[47]) ++ directionText d)) ++ ((ByteArray.mk #[32]) ++ U)) ++ ((ByteArray.mk #[32]) ++ A))) ∧ Ch (fun _ => False) w w' := by
  have HI := Lib.hid (itoa_any v (by omega) w htab)
  have HE := Lib.hid hE
  have HU := Lib.hid hU
  have HA := Lib.hid hA
  obtain ⟨D, hD⟩ : ∃ D : ByteArray, (⟨(Lib.decDigits v).toArray⟩ : ByteArray) = D := ⟨_, rfl⟩
  have hd : D.size ≤ 20 := by rw [← hD]; exact dec_len 19 v (Nat.lt_of_le_of_lt hv (by decide))
  rw [hD] at HI ⊢
  clear hD htab hE hU hA
  have hds : (directionText d).size = 8 := (dir_slash hd1 hd4).2.1
  have z0 : ((ByteArray.mk #[47]) ++ (directionText d)).size = (ByteArray.mk #[47]).size + (directionText d).size := ByteArray.size_append
  have z1 : (D ++ ((ByteArray.mk #[47]) ++ directionText d)).size = D.size + ((ByteArray.mk #[47]) ++ directionText d).size := ByteArray.size_append
  have z2 : ((ByteArray.mk #[32]) ++ U).size = (ByteArray.mk #[32]).size + U.size := ByteArray.size_append
  have z3 : ((D ++ ((ByteArray.mk #[47]) ++ directionText d)) ++ ((ByteArray.mk #[32]) ++ U)).size = (D ++ ((ByteArray.mk #[47]) ++ directionText d)).size + ((ByteArray.mk #[32]) ++ U).size := ByteArray.size_append
  have z4 : ((ByteArray.mk #[32]) ++ A).size = (ByteArray.mk #[32]).size + A.size := ByteArray.size_append
  have z5 : (((D ++ ((ByteArray.mk #[47]) ++ directionText d)) ++ ((ByteArray.mk #[32]) ++ U)) ++ ((ByteArray.mk #[32]) ++ A)).size = ((D ++ ((ByteArray.mk #[47]) ++ directionText d)) ++ ((ByteArray.mk #[32]) ++ U)).size + ((ByteArray.mk #[32]) ++ A).size := ByteArray.size_append
  have y1 : (ByteArray.mk #[32]).size = 1 := rfl
  have y2 : (ByteArray.mk #[47]).size = 1 := rfl
  have e0 : w.cell? ⟨E, 0, none⟩ = some (.int .i64 v) := blk_cell HE.out rfl
  go_enter Tryz.func125, Tryz.ntmps125
  go_wp2_with fail
  refine HI.out.mono ?_
  rintro e w1 ⟨rfl, hc⟩
  have hE1 := (hc.block _ (blk_lt HE.out) id).trans HE.out
  have hU1 := (hc.block _ (blk_lt HU.out) id).trans HU.out
  have e1 : w1.cell? ⟨E, 1, none⟩ = some (.int .i64 d) := blk_cell hE1 rfl
  have e2 : w1.cell? ⟨E, 2, none⟩ = some (.pointer (some ⟨u, 0, none⟩)) := blk_cell hE1 rfl
  have e3 : w1.cell? ⟨E, 3, none⟩ = some (.pointer (some ⟨a, 0, none⟩)) := blk_cell hE1 rfl
  have e4 : w1.cell? ⟨u, 0, none⟩ = some (.string U) := blk_cell hU1 rfl
  have e5 : w1.cell? ⟨a, 0, none⟩ = some (.string A) := blk_cell ((hc.block _ (blk_lt HA.out) id).trans HA.out) rfl
  have HC := Lib.hid hc
  clear hc hE1 hU1 e0
  have hne : ¬ ((directionText d).toList.isEmpty = true) := fun h => by
    have h8 := (dir_slash hd1 hd4).2.1
    rw [ByteArray.toList_eq] at h
    rw [List.isEmpty_iff.1 h] at h8
    cases h8
  have hnb : (directionText d).toList.isEmpty = false := by simpa using hne
  clear hne
  go_wp2_with (first | (go_at_call 59; refine (directionString_ok hd1 hd4 w1).mono ?_; rintro e w2 ⟨rfl, rfl⟩) | (go_at_call 146; refine (urlString_any e4).mono ?_; rintro e w2 ⟨rfl, rfl⟩))
  refine bodyPost_ret (v := .string (((D ++ ((ByteArray.mk #[47]) ++ directionText d)) ++ ((ByteArray.mk #[32]) ++ U)) ++ ((ByteArray.mk #[32]) ++ A))) (by simp [results, Tryz.results125]) rfl ?_
  exact ⟨rfl, HC.out⟩

theorem extMarshal_any {E : Nat} {X : ByteArray} {w : World} (hX : X.size ≤ 4294967400) (h : Calls Tryz.prog 125 #[.pointer (some ⟨E, 0, none⟩)] w fun e w' => e = .returned (.string X) ∧ Ch (fun _ => False) w w') :
    Calls Tryz.prog 82 #[.pointer (some ⟨E, 0, none⟩)] w fun e w' => e = .returned (.string ((ByteArray.mk #[101, 120, 116, 109, 97, 112]) ++ (ByteArray.mk #[58]) ++ X)) ∧ Ch (fun _ => False) w w' := by
  have H := Lib.hid h
  have z0 : ((ByteArray.mk #[101, 120, 116, 109, 97, 112]) ++ (ByteArray.mk #[58])).size = (ByteArray.mk #[101, 120, 116, 109, 97, 112]).size + (ByteArray.mk #[58]).size := ByteArray.size_append
  have z1 : ((ByteArray.mk #[101, 120, 116, 109, 97, 112]) ++ (ByteArray.mk #[58]) ++ X).size = ((ByteArray.mk #[101, 120, 116, 109, 97, 112]) ++ (ByteArray.mk #[58])).size + X.size := ByteArray.size_append
  have y0 : (ByteArray.mk #[101, 120, 116, 109, 97, 112]).size = 6 := rfl
  have y1 : (ByteArray.mk #[58]).size = 1 := rfl
  clear h
  go_enter Tryz.func82, Tryz.ntmps82
  go_wp2_with (first | (go_at_call 124; refine (extName_any _ _).mono ?_; rintro e w2 ⟨rfl, rfl⟩) | fail)
  go_at_call 125
  refine H.out.mono ?_
  rintro e w1 ⟨rfl, hc⟩
  have HC := Lib.hid hc
  clear hc
  go_wp2
  refine bodyPost_ret (v := .string ((ByteArray.mk #[101, 120, 116, 109, 97, 112]) ++ (ByteArray.mk #[58]) ++ X)) (by simp [results, Tryz.results82]) rfl ?_
  exact ⟨rfl, HC.out⟩

theorem try_80 {p q : Value} {w : World} {Q : World → Prop} (h : Calls Tryz.prog 80 #[p, q] (w.alloc (.cells #[.bool false] 4)) fun e w' => e = .returned (.bool true) ∧ w'.heap[w.heap.size]? = some (.cells #[.bool false] 4 (0, 0)) ∧ Q w') :
    Calls Tryz.prog 44 #[.func (.func 80) #[] #[p, q]] w fun e w' => e = .returned (.bool true) ∧ ∃ w1, w1.heap[w.heap.size]? = some (.cells #[.bool false] 4 (0, 0)) ∧ Q w1 ∧ w' = w1.setCell ⟨w.heap.size, 0, none⟩ (.bool true) := by
  have hmf : ∀ (fn : Fn) (first cap : Array Value) (w : World), (Instr.makeFunc fn first cap).run Tryz.prog w = .ok (.func fn first cap) w := fun _ _ _ _ => rfl
  have H := Lib.hid h
  clear h
  go_enter_defers Tryz.func44, Tryz.ntmps44
  go_wp2_with fail
  go_at_call 80
  refine H.out.mono ?_
  rintro e w1 ⟨rfl, hb1, hq⟩
  have hc : w1.cell? ⟨w.heap.size, 0, none⟩ = some (.bool false) := blk_cell hb1 rfl
  have hz : w1.frozen? ⟨w.heap.size, 0, none⟩ = false := blk_frozen hb1
  have HB := Lib.hid hb1
  have HQ := Lib.hid hq
  clear hb1 hq
  go_wp2
  refine leaves_cons (f := 84) (args := #[.pointer (some ⟨w.heap.size, 0, none⟩)]) (by simp) (by simp [go_sem]) ?_
  refine (try1_idle ⟨w.heap.size, 0, none⟩ _).mono ?_
  rintro e u' w'' ⟨rfl, rfl, rfl⟩
  have hR : (w1.setCell ⟨w.heap.size, 0, none⟩ (.bool true)).cell? ⟨w.heap.size, 0, none⟩ = some (.bool true) := World.cell?_setCell_same _ _ _ hc
  simp [Leaves, settle, results, Tryz.results44, go_sem, hR]
  exact ⟨w1, HB.out, HQ.out, rfl⟩

set_option maxRecDepth 100000 in
set_option maxHeartbeats 4000000 in
theorem closure80 {B T v cu ca : Nat} {d : Int} {U X : ByteArray} {ax : List ByteArray} {SU SA : Option Addr} {w : World} (hB : w.heap[B]? = some (.cells #[.int .i64 v, .int .i64 d, .slice SU 1 cu, .slice SA ax.length ca] 85 (0, 0))) (hT : w.heap[T]? = some (.cells #[.string ⟨#[]⟩] 9 (0, 0))) (hsu : Lst w 1 strC SU [U]) (hsa : Lst w 1 strC SA ax) (hax : ax.length ≤ 1)
    (h : ∀ (k : Nat) (p q : Option Addr) (W : World), W.heap[k]? = some (.cells #[.int .i64 v, .int .i64 d, .pointer p, .pointer q] 159 (0, 0)) → OptP W 249 p [U] → OptP W 9 q ax → Ch (fun _ => False) w W → Calls Tryz.prog 82 #[.pointer (some ⟨k, 0, none⟩)] W fun e w' => e = .returned (.string X) ∧ Ch (fun _ => False) W w') :
    Calls Tryz.prog 80 #[.pointer (some ⟨B, 0, none⟩), .pointer (some ⟨T, 0, none⟩)] w fun e w' => e = .returned (.bool true) ∧ w'.heap[T]? = some (.cells #[.string X] 9 (0, 0)) ∧ Ch (fun k => k = T) w w' := by
  have H := Lib.hid h
  have HB := Lib.hid hB
  have HT := Lib.hid hT
  have HU := Lib.hid hsu
  have HA := Lib.hid hsa
  clear h hB hT hsu hsa
  go_enter Tryz.func80, Tryz.ntmps80
  go_wp2_with (refine wpList_load_row rfl 85 (.tmp 0) rfl B rfl 85 #[.int .i64 v, .int .i64 d, .slice SU 1 cu, .slice SA ax.length ca] (0, 0) _ HB.out Tryz.underlying85 rfl Tryz.size85 ?_)
  refine (extMap_any HU.out HA.out hax).mono ?_
  rintro e w1 ⟨k, p, q, rfl, hk, hp, hq, hc1⟩
  have H2 := Lib.hid (H.out k p q w1 hk hp hq hc1)
  have HC1 := Lib.hid hc1
  clear hk hp hq hc1 H
  go_wp2_with fail
  refine H2.out.mono ?_
  rintro e w2 ⟨rfl, hc2⟩
  have HC2 := Lib.hid (HC1.out.trans hc2)
  have hT2 := (HC2.out.block _ (blk_lt HT.out) id).trans HT.out
  have c0 : w2.cell? ⟨T, 0, none⟩ = some (.string ⟨#[]⟩) := blk_cell hT2 rfl
  have z0 : w2.frozen? ⟨T, 0, none⟩ = false := blk_frozen hT2
  have HT2 := Lib.hid hT2
  clear hT2 hc2 HC1 H2
  go_wp2
  go_ret
  exact ⟨rfl, blk_set (j := 0) _ HT2.out, (HC2.out.mono (fun _ h => h.elim)).trans (Ch.set (S := fun k => k = T) (k := T) _ rfl _)⟩

set_option maxRecDepth 100000 in
set_option maxHeartbeats 4000000 in
theorem formatExt_any {v cu ca : Nat} {d : Int} {U X : ByteArray} {ax : List ByteArray} {SU SA : Option Addr} {w : World} (hsu : Lst w 1 strC SU [U]) (hsa : Lst w 1 strC SA ax) (hax : ax.length ≤ 1)
    (h : ∀ (k : Nat) (p q : Option Addr) (W : World), W.heap[k]? = some (.cells #[.int .i64 v, .int .i64 d, .pointer p, .pointer q] 159 (0, 0)) → OptP W 249 p [U] → OptP W 9 q ax → Ch (fun _ => False) w W → Calls Tryz.prog 82 #[.pointer (some ⟨k, 0, none⟩)] W fun e w' => e = .returned (.string X) ∧ Ch (fun _ => False) W w') :
    Calls Tryz.prog 41 #[.agg #[.int .i64 v, .int .i64 d, .slice SU 1 cu, .slice SA ax.length ca]] w fun e w' => e = .returned (.string X) ∧ Ch (fun _ => False) w w' := by
  have hmf : ∀ (fn : Fn) (first cap : Array Value) (w : World), (Instr.makeFunc fn first cap).run Tryz.prog w = .ok (.func fn first cap) w := fun _ _ _ _ => rfl
  have hA : Ch (fun _ => False) w ((w.alloc (.cells #[.int .i64 v, .int .i64 d, .slice SU 1 cu, .slice SA ax.length ca] 85)).alloc (.cells #[.string ⟨#[]⟩] 9)) := (Ch.grown (World.grownBy_alloc _ _ none) (by simp)).trans (Ch.grown (World.grownBy_alloc _ _ none) (by simp))
  have hB : ((w.alloc (.cells #[.int .i64 v, .int .i64 d, .slice SU 1 cu, .slice SA ax.length ca] 85)).alloc (.cells #[.string ⟨#[]⟩] 9)).heap[w.heap.size]? = some (.cells #[.int .i64 v, .int .i64 d, .slice SU 1 cu, .slice SA ax.length ca] 85 (0, 0)) := (heap_alloc_old _ _ (by simp)).trans (heap_alloc_new w _)
  have hT : ((w.alloc (.cells #[.int .i64 v, .int .i64 d, .slice SU 1 cu, .slice SA ax.length ca] 85)).alloc (.cells #[.string ⟨#[]⟩] 9)).heap[w.heap.size + 1]? = some (.cells #[.string ⟨#[]⟩] 9 (0, 0)) := by
    have h1 := heap_alloc_new (w.alloc (.cells #[.int .i64 v, .int .i64 d, .slice SU 1 cu, .slice SA ax.length ca] 85)) (.cells #[.string ⟨#[]⟩] 9)
    rw [World.size_alloc] at h1
    exact h1
  have H := Lib.hid h
  have HU := Lib.hid hsu
  have HSA := Lib.hid hsa
  clear h hsu hsa
  go_enter Tryz.func41, Tryz.ntmps41
  go_wp2_with fail
  generalize hW : ((w.alloc (.cells #[.int .i64 v, .int .i64 d, .slice SU 1 cu, .slice SA ax.length ca] 85)).alloc (.cells #[.string ⟨#[]⟩] 9)) = W0 at *
  have hal : Ch (fun _ => False) W0 (W0.alloc (.cells #[.bool false] 4)) := Ch.grown (World.grownBy_alloc _ _ none) (by simp)
  have hcl := closure80 ((hal.block _ (blk_lt hB) id).trans hB) ((hal.block _ (blk_lt hT) id).trans hT) (HU.out.ch (hA.trans hal)) (HSA.out.ch (hA.trans hal)) hax (fun k p q W hk hp hq hc => H.out k p q W hk hp hq ((hA.trans hal).trans hc))
  have htr := try_80 (w := W0) (Q := fun w' => w'.heap[w.heap.size + 1]? = some (.cells #[.string X] 9 (0, 0)) ∧ Ch (fun k => k = w.heap.size + 1) (W0.alloc (.cells #[.bool false] 4)) w') (hcl.mono (by
    rintro e w' ⟨rfl, hq, hc⟩
    have hlt := blk_lt hT
    exact ⟨rfl, (hc.block _ (by simp) (by omega)).trans (heap_alloc_new _ _), hq, hc⟩))
  refine htr.mono ?_
  rintro e W2 ⟨rfl, w1, hb1, ⟨hT1, hc1⟩, rfl⟩
  have hlt := blk_lt hT
  have hT2 : (w1.setCell ⟨W0.heap.size, 0, none⟩ (.bool true)).heap[w.heap.size + 1]? = some (.cells #[.string X] 9 (0, 0)) := (blk_set_other _ (by omega)).trans hT1
  have hsc : Ch (fun k => k = W0.heap.size) w1 (w1.setCell ⟨W0.heap.size, 0, none⟩ (.bool true)) := Ch.set (S := fun k => k = W0.heap.size) (k := W0.heap.size) _ rfl _
  have HC := Lib.hid (show Ch (fun _ => False) w (w1.setCell ⟨W0.heap.size, 0, none⟩ (.bool true)) from ((hA.trans hal).fresh hc1 (fun i hi => .inl (by omega))).fresh hsc (fun i hi => .inl (by rw [hi]; exact hA.size)))
  have HT2 := Lib.hid hT2
  have HG := Lib.hid (show w.heap.size ≤ w.heap.size + 1 by omega)
  clear hmf hT hB hal hcl htr hb1 hT1 hc1 hsc hA hlt hW hT2
  generalize (w1.setCell ⟨W0.heap.size, 0, none⟩ (.bool true)) = W2 at *
  obtain ⟨T, hT⟩ : ∃ T, w.heap.size + 1 = T := ⟨_, rfl⟩
  rw [hT] at HT2 HG ⊢
  clear hT
  have c0 : W2.cell? ⟨T, 0, none⟩ = some (.string X) := blk_cell HT2.out rfl
  have z0 : W2.frozen? ⟨T, 0, none⟩ = false := blk_frozen HT2.out
  go_wp2
  have hr : (W2.setCell ⟨T, 0, none⟩ (.string X)).cell? ⟨T, 0, none⟩ = some (.string X) := World.cell?_setCell_same _ _ _ c0
  refine bodyPost_ret (v := .string X) (by simp [results, Tryz.results41, asAddr, go_sem, hr]) rfl ?_
  exact ⟨rfl, HC.out.fresh (Ch.set (S := fun k => k = T) (k := T) W2 rfl (.string X)) (fun i hi => .inl (by rw [hi]; exact HG.out))⟩
end Go.Proofs.YtimonhimfioohaaGreatDoor
