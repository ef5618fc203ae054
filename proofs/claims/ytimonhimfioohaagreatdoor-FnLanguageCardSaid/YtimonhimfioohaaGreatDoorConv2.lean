/- Connection data, both ways. -/
import Derived.Test.YtimonhimfioohaaGreatDoorConv
import Derived.Test.YtimonhimfioohaaGreatDoorReg
namespace Go.Proofs.YtimonhimfioohaaGreatDoor
open Go.RowKit

theorem Ptr.setOther {w : World} {T T' : TypeId} {R : List Value → Prop} {p : Option Addr} (h : Ptr w T R p) {k j : Nat} {cs : Array Value} {fr : Nat × Nat} (v : Value) (hk : w.heap[k]? = some (.cells cs T' fr)) (hne : T ≠ T') : Ptr (w.setCell ⟨k, j, none⟩ v) T R p := h.keep fun b cs' fr' hb => blk_set_other v (fun e => by
  subst e
  rw [hb] at hk
  injection hk with hk
  injection hk with _ ht
  exact hne ht)

def connAT (L b o n c : Nat) (s t : ByteArray) (d : Nat) (v : Value) (W : World) : Prop :=
  match d with
  | 8 => v = .slice (some ⟨b, o, none⟩) n c
  | 9 => v = .pointer (some ⟨b, o, none⟩)
  | 10 => v = .pointer (some ⟨b, o, none⟩)
  | 11 => v = .string s
  | 12 => v = .slice (some ⟨b, o, none⟩) n c
  | 13 => v = .pointer (some ⟨b, o, none⟩)
  | 14 => v = .pointer (some ⟨b, o + 1, none⟩)
  | 15 => v = .string t
  | 16 => v = .agg #[.string s, .string t, .pointer none]
  | 17 => ∃ (k : Nat), v = .pointer (some ⟨k, 0, none⟩) ∧ L ≤ k ∧ W.heap[k]? = some (.cells #[.string s, .string t, .pointer none] 256 (0, 0))
  | _ => True

theorem connAT_stays {L b o n c : Nat} {s t : ByteArray} {d : Nat} {v : Value} {W W' : World} (h : connAT L b o n c s t d v W) (hc : Ch (fun _ => False) W W') : connAT L b o n c s t d v W' := by
  unfold connAT at h ⊢
  split at h
  · exact h
  · exact h
  · exact h
  · exact h
  · exact h
  · exact h
  · exact h
  · exact h
  · exact h
  · obtain ⟨k, eq_, p0, p1⟩ := h
    exact ⟨k, eq_, p0, (hc.block _ (blk_lt p1) id).trans p1⟩
  · trivial

set_option maxRecDepth 100000 in
theorem connA_frame (x0 x1 x2 x3 x4 x5 x6 x7 x8 x9 x10 x11 x12 x13 x14 x15 x16 x17 x18 x19 x20 x21 x22 x23 x24 x25 x26 x27 x28 x29 x30 x31 x32 x33 x34 x35 x36 x37 x38 x39 x40 x41 x42 x43 x44 : Value) (d : List Deferred) (u : Nat → Value) : frameOf ⟨#[x0, x1, x2, x3, x4, x5, x6, x7, x8, x9, x10, x11, x12, x13, x14, x15, x16, x17, x18, x19, x20, x21, x22, x23, x24, x25, x26, x27, x28, x29, x30, x31, x32, x33, x34, x35, x36, x37, x38, x39, x40, x41, x42, x43, x44], d⟩ [8, 9, 10, 11, 12, 13, 14, 15, 16, 17] u = ⟨#[x0, x1, x2, x3, x4, x5, x6, x7, u 8, u 9, u 10, u 11, u 12, u 13, u 14, u 15, u 16, u 17, x18, x19, x20, x21, x22, x23, x24, x25, x26, x27, x28, x29, x30, x31, x32, x33, x34, x35, x36, x37, x38, x39, x40, x41, x42, x43, x44], d⟩ := by kernel_rfl

def connBT (L k b2 o2 n2 c2 n3 c3 n4 c4 : Nat) (A3 A4 : Option Addr) (s2 : ByteArray) (d : Nat) (v : Value) (W : World) : Prop :=
  match d with
  | 25 => v = .pointer (some ⟨k, 0, none⟩)
  | 26 => v = .slice (some ⟨b2, o2, none⟩) n2 c2
  | 27 => v = .pointer (some ⟨b2, o2, none⟩)
  | 28 => v = .pointer (some ⟨b2, o2, none⟩)
  | 29 => v = .string s2
  | 30 => v = .slice (some ⟨b2, o2, none⟩) n2 c2
  | 31 => v = .pointer (some ⟨b2, o2, none⟩)
  | 32 => v = .pointer (some ⟨b2, o2 + 1, none⟩)
  | 33 => v = .slice A3 n3 c3
  | 34 => ∃ (p : Option Addr), v = .pointer p ∧ Ptr W 3 isInt p
  | 35 => v = .slice (some ⟨b2, o2, none⟩) n2 c2
  | 36 => v = .pointer (some ⟨b2, o2, none⟩)
  | 37 => v = .pointer (some ⟨b2, o2 + 2, none⟩)
  | 38 => v = .slice A4 n4 c4
  | 39 => ∃ (p : Option Addr), v = .pointer p ∧ Ptr W 3 isInt p
  | 40 => ∃ (p : Option Addr) (q : Option Addr), v = .agg #[.string s2, .pointer p, .pointer q] ∧ Ptr W 3 isInt p ∧ Ptr W 3 isInt q
  | 41 => ∃ (k : Nat) (p : Option Addr) (q : Option Addr), v = .pointer (some ⟨k, 0, none⟩) ∧ L ≤ k ∧ W.heap[k]? = some (.cells #[.string s2, .pointer p, .pointer q] 258 (0, 0)) ∧ Ptr W 3 isInt p ∧ Ptr W 3 isInt q
  | 42 => v = .pointer (some ⟨k, 0, none⟩)
  | 43 => v = .pointer (some ⟨k, 2, none⟩)
  | _ => True

theorem connBT_stays {L k b2 o2 n2 c2 n3 c3 n4 c4 : Nat} {A3 A4 : Option Addr} {s2 : ByteArray} {d : Nat} {v : Value} {W W' : World} (h : connBT L k b2 o2 n2 c2 n3 c3 n4 c4 A3 A4 s2 d v W) (hc : Ch (fun _ => False) W W') : connBT L k b2 o2 n2 c2 n3 c3 n4 c4 A3 A4 s2 d v W' := by
  unfold connBT at h ⊢
  split at h
  · exact h
  · exact h
  · exact h
  · exact h
  · exact h
  · exact h
  · exact h
  · exact h
  · exact h
  · obtain ⟨p, eq_, p0⟩ := h
    exact ⟨p, eq_, p0.ch hc⟩
  · exact h
  · exact h
  · exact h
  · exact h
  · obtain ⟨p, eq_, p0⟩ := h
    exact ⟨p, eq_, p0.ch hc⟩
  · obtain ⟨p, q, eq_, p0, p1⟩ := h
    exact ⟨p, q, eq_, p0.ch hc, p1.ch hc⟩
  · obtain ⟨k, p, q, eq_, p0, p1, p2, p3⟩ := h
    exact ⟨k, p, q, eq_, p0, (hc.block _ (blk_lt p1) id).trans p1, p2.ch hc, p3.ch hc⟩
  · exact h
  · exact h
  · trivial

set_option maxRecDepth 100000 in
theorem connB_frame (x0 x1 x2 x3 x4 x5 x6 x7 x8 x9 x10 x11 x12 x13 x14 x15 x16 x17 x18 x19 x20 x21 x22 x23 x24 x25 x26 x27 x28 x29 x30 x31 x32 x33 x34 x35 x36 x37 x38 x39 x40 x41 x42 x43 x44 : Value) (d : List Deferred) (u : Nat → Value) : frameOf ⟨#[x0, x1, x2, x3, x4, x5, x6, x7, x8, x9, x10, x11, x12, x13, x14, x15, x16, x17, x18, x19, x20, x21, x22, x23, x24, x25, x26, x27, x28, x29, x30, x31, x32, x33, x34, x35, x36, x37, x38, x39, x40, x41, x42, x43, x44], d⟩ [25, 26, 27, 28, 29, 30, 31, 32, 33, 34, 35, 36, 37, 38, 39, 40, 41, 42, 43] u = ⟨#[x0, x1, x2, x3, x4, x5, x6, x7, x8, x9, x10, x11, x12, x13, x14, x15, x16, x17, x18, x19, x20, x21, x22, x23, x24, u 25, u 26, u 27, u 28, u 29, u 30, u 31, u 32, u 33, u 34, u 35, u 36, u 37, u 38, u 39, u 40, u 41, u 42, u 43, x44], d⟩ := by kernel_rfl

set_option maxRecDepth 100000 in
set_option maxHeartbeats 4000000 in
theorem connection_any {A : Option Addr} {n c : Nat} {w : World} (hn : n ≤ maxLen) (h : Els w 3 (isConn w) A n) : Calls Tryz.prog 106 #[.slice A n c] w (ToPtr 256 sConn w) := by
  unfold maxLen at hn
  by_cases h0 : n = 0
  · subst h0
    go_enter Tryz.func106, Tryz.ntmps106
    go_wp2
    refine bodyPost_ret (v := .pointer none) (by simp [results, Tryz.results106]) rfl ?_
    exact ⟨_, rfl, Ptr.nil _ _ _, Ch.refl _ _⟩
  obtain ⟨b, o, cs, rfl, -, ⟨s, t, A2, n2, c2, rfl, hl2, he2⟩, hc⟩ := h.at0 (by omega)
  have k0 := hc 0 _ rfl
  have k1 := hc 1 _ rfl
  have k2 := hc 2 _ rfl
  rw [Nat.add_zero] at k0
  have hnz : ((n : Int) == 0) = false := beq_false_of_ne (by omega)
  have hnp : (0 : Int) < n := by omega
  have K0 := Lib.hid k0
  have K1 := Lib.hid k1
  have K2 := Lib.hid k2
  have HE := Lib.hid he2
  have HL := Lib.hid hl2
  have HLW := Lib.hid (show w.heap.size ≤ w.heap.size from Nat.le_refl _)
  clear h hc h0 k0 k1 k2 he2 hl2
  go_enter Tryz.func106, Tryz.ntmps106
  go_upto_region 3 with fail
  refine wp_region_ops (by kernel_rfl) [8, 9, 10, 11, 12, 13, 14, 15, 16, 17] 10 (by kernel_rfl) (by kernel_rfl) (by kernel_rfl) (connAT w.heap.size b o n c s t) (Ch (fun _ => False)) (Ch.refl _) (fun _ _ _ => Ch.trans) (fun _ _ _ _ => connAT_stays) ?_ ?_
  · intro i oo hi ho A W' hR hr hx K hK
    have hR0 := (Ch.of_heap (Ch.refl _ w) (w' := w.drew) rfl rfl rfl rfl).trans hR
    have hLW := hR0.size
    have k0 := hR0.cell0 K0.out
    have k1 := hR0.cell0 K1.out
    have hnn : 0 < n := by omega
    clear hR hR0
    exact match i, hi, ho with
      | 0, _, ho => by
        obtain rfl := Option.some.inj ho
        have e0 : A.tmps[0]?.getD undef = .slice (some ⟨b, o, none⟩) n c := (eval_getD A 0).symm.trans (hx 0 (by decide))
        unfold Oper.wp execOp
        go_simp
        exact hK _ _ (fun d hd => by cases hd; exact rfl) (Ch.refl _ _)
      | 1, _, ho => by
        obtain rfl := Option.some.inj ho
        have e8 : A.tmps[8]?.getD undef = .slice (some ⟨b, o, none⟩) n c := (eval_getD A 8).symm.trans (hr 8 (by decide) (by decide))
        unfold Oper.wp execOp
        go_simp
        exact hK _ _ (fun d hd => by cases hd; exact rfl) (Ch.refl _ _)
      | 2, _, ho => by
        obtain rfl := Option.some.inj ho
        have e9 : A.tmps[9]?.getD undef = .pointer (some ⟨b, o, none⟩) := (eval_getD A 9).symm.trans (hr 9 (by decide) (by decide))
        unfold Oper.wp execOp
        go_simp
        exact hK _ _ (fun d hd => by cases hd; exact rfl) (Ch.refl _ _)
      | 3, _, ho => by
        obtain rfl := Option.some.inj ho
        have e10 : A.tmps[10]?.getD undef = .pointer (some ⟨b, o, none⟩) := (eval_getD A 10).symm.trans (hr 10 (by decide) (by decide))
        have l0 : W'.cell? ⟨b, o, none⟩ = some (.string s) := k0
        unfold Oper.wp execOp
        go_simp
        exact hK _ _ (fun d hd => by cases hd; exact rfl) (Ch.refl _ _)
      | 4, _, ho => by
        obtain rfl := Option.some.inj ho
        have e0 : A.tmps[0]?.getD undef = .slice (some ⟨b, o, none⟩) n c := (eval_getD A 0).symm.trans (hx 0 (by decide))
        unfold Oper.wp execOp
        go_simp
        exact hK _ _ (fun d hd => by cases hd; exact rfl) (Ch.refl _ _)
      | 5, _, ho => by
        obtain rfl := Option.some.inj ho
        have e12 : A.tmps[12]?.getD undef = .slice (some ⟨b, o, none⟩) n c := (eval_getD A 12).symm.trans (hr 12 (by decide) (by decide))
        unfold Oper.wp execOp
        go_simp
        exact hK _ _ (fun d hd => by cases hd; exact rfl) (Ch.refl _ _)
      | 6, _, ho => by
        obtain rfl := Option.some.inj ho
        have e13 : A.tmps[13]?.getD undef = .pointer (some ⟨b, o, none⟩) := (eval_getD A 13).symm.trans (hr 13 (by decide) (by decide))
        unfold Oper.wp execOp
        go_simp
        exact hK _ _ (fun d hd => by cases hd; exact rfl) (Ch.refl _ _)
      | 7, _, ho => by
        obtain rfl := Option.some.inj ho
        have e14 : A.tmps[14]?.getD undef = .pointer (some ⟨b, o + 1, none⟩) := (eval_getD A 14).symm.trans (hr 14 (by decide) (by decide))
        have l0 : W'.cell? ⟨b, o + 1, none⟩ = some (.string t) := k1
        unfold Oper.wp execOp
        go_simp
        exact hK _ _ (fun d hd => by cases hd; exact rfl) (Ch.refl _ _)
      | 8, _, ho => by
        obtain rfl := Option.some.inj ho
        have e11 : A.tmps[11]?.getD undef = .string s := (eval_getD A 11).symm.trans (hr 11 (by decide) (by decide))
        have e15 : A.tmps[15]?.getD undef = .string t := (eval_getD A 15).symm.trans (hr 15 (by decide) (by decide))
        unfold Oper.wp execOp
        go_simp
        exact hK _ _ (fun d hd => by cases hd; exact rfl) (Ch.refl _ _)
      | 9, _, ho => by
        obtain rfl := Option.some.inj ho
        have e16 : A.tmps[16]?.getD undef = .agg #[.string s, .string t, .pointer none] := (eval_getD A 16).symm.trans (hr 16 (by decide) (by decide))
        unfold Oper.wp execOp
        go_simp
        exact hK _ _ (fun d hd => by cases hd; exact ⟨_, rfl, hLW, heap_alloc_new _ _⟩) (Ch.grown (World.grownBy_alloc _ _ none) (by simp))
      | n + 10, hi, _ => absurd hi (by omega)

  · intro oo ho u W1 hR hu
    obtain rfl := Option.some.inj ho
    obtain ⟨k, hv, hk, hblk⟩ : ∃ k, u 17 = .pointer (some ⟨k, 0, none⟩) ∧ w.heap.size ≤ k ∧ W1.heap[k]? = some (.cells #[.string s, .string t, .pointer none] 256 (0, 0)) := hu 17 (by decide)
    have hR0 := (Ch.of_heap (Ch.refl _ w) (w' := w.drew) rfl rfl rfl rfl).trans hR
    have q2 := hR0.cell0 K2.out
    have HC := Lib.hid hR0
    have HB := Lib.hid hblk
    have HK := Lib.hid hk
    have HE2 := Lib.hid ((HE.out.ch hR0).mono fun _ k => isAddr.ch k hR0)
    clear hR hu hblk hk hR0
    rw [connA_frame, hv]
    unfold Oper.wp execOp
    go_simp
    clear hv
    by_cases hn2 : n2 = 0
    · subst hn2
      go_wp2
      refine bodyPost_ret (v := .pointer (some ⟨k, 0, none⟩)) (by simp [results, Tryz.results106]) rfl ?_
      exact ⟨_, rfl, Ptr.mk HB.out ⟨s, t, none, rfl, Ptr.nil _ _ _⟩, HC.out⟩
    obtain ⟨b2, o2, cs2, rfl, -, ⟨s2, A3, n3, c3, A4, n4, c4, rfl, hl3, hl4, he3, he4⟩, hd⟩ := HE2.out.at0 (by omega)
    have j0 := hd 0 _ rfl
    have j1 := hd 1 _ rfl
    have j2 := hd 2 _ rfl
    rw [Nat.add_zero] at j0
    have hn2z : (0 : Int) < n2 := by omega
    have J0 := Lib.hid j0
    have J1 := Lib.hid j1
    have J2 := Lib.hid j2
    have HE3 := Lib.hid he3
    have HE4 := Lib.hid he4
    have HL3 := Lib.hid hl3
    have HL4 := Lib.hid hl4
    clear hd j0 j1 j2 he3 he4 hl3 hl4 hn2 HE2
    go_upto_region 6 with fail
    clear q2
    refine wp_region_ops (by kernel_rfl) [25, 26, 27, 28, 29, 30, 31, 32, 33, 34, 35, 36, 37, 38, 39, 40, 41, 42, 43] 19 (by kernel_rfl) (by kernel_rfl) (by kernel_rfl) (connBT W1.heap.size k b2 o2 n2 c2 n3 c3 n4 c4 A3 A4 s2) (Ch (fun _ => False)) (Ch.refl _) (fun _ _ _ => Ch.trans) (fun _ _ _ _ => connBT_stays) ?_ ?_
    · intro i oo hi ho A W' hR hr hx K hK
      have hR0 := (Ch.of_heap (Ch.refl _ W1) (w' := W1.drew) rfl rfl rfl rfl).trans hR
      have hLW := hR0.size
      have k0 := hR0.cell0 J0.out
      have k1 := hR0.cell0 J1.out
      have k2 := hR0.cell0 J2.out
      have hr3 := HE3.out.ch hR0
      have hr4 := HE4.out.ch hR0
      have hl3 := HL3.out
      have hl4 := HL4.out
      have hnn : 0 < n2 := by omega
      clear hR hR0
      exact match i, hi, ho with
        | 0, _, ho => by
          obtain rfl := Option.some.inj ho
          have e3 : A.tmps[3]?.getD undef = .pointer (some ⟨k, 0, none⟩) := (eval_getD A 3).symm.trans (hx 3 (by decide))
          unfold Oper.wp execOp
          go_simp
          exact hK _ _ (fun d hd => by cases hd; exact rfl) (Ch.refl _ _)
        | 1, _, ho => by
          obtain rfl := Option.some.inj ho
          have e4 : A.tmps[4]?.getD undef = .slice (some ⟨b2, o2, none⟩) n2 c2 := (eval_getD A 4).symm.trans (hx 4 (by decide))
          unfold Oper.wp execOp
          go_simp
          exact hK _ _ (fun d hd => by cases hd; exact rfl) (Ch.refl _ _)
        | 2, _, ho => by
          obtain rfl := Option.some.inj ho
          have e26 : A.tmps[26]?.getD undef = .slice (some ⟨b2, o2, none⟩) n2 c2 := (eval_getD A 26).symm.trans (hr 26 (by decide) (by decide))
          unfold Oper.wp execOp
          go_simp
          exact hK _ _ (fun d hd => by cases hd; exact rfl) (Ch.refl _ _)
        | 3, _, ho => by
          obtain rfl := Option.some.inj ho
          have e27 : A.tmps[27]?.getD undef = .pointer (some ⟨b2, o2, none⟩) := (eval_getD A 27).symm.trans (hr 27 (by decide) (by decide))
          unfold Oper.wp execOp
          go_simp
          exact hK _ _ (fun d hd => by cases hd; exact rfl) (Ch.refl _ _)
        | 4, _, ho => by
          obtain rfl := Option.some.inj ho
          have e28 : A.tmps[28]?.getD undef = .pointer (some ⟨b2, o2, none⟩) := (eval_getD A 28).symm.trans (hr 28 (by decide) (by decide))
          have l0 : W'.cell? ⟨b2, o2, none⟩ = some (.string s2) := k0
          unfold Oper.wp execOp
          go_simp
          exact hK _ _ (fun d hd => by cases hd; exact rfl) (Ch.refl _ _)
        | 5, _, ho => by
          obtain rfl := Option.some.inj ho
          have e4 : A.tmps[4]?.getD undef = .slice (some ⟨b2, o2, none⟩) n2 c2 := (eval_getD A 4).symm.trans (hx 4 (by decide))
          unfold Oper.wp execOp
          go_simp
          exact hK _ _ (fun d hd => by cases hd; exact rfl) (Ch.refl _ _)
        | 6, _, ho => by
          obtain rfl := Option.some.inj ho
          have e30 : A.tmps[30]?.getD undef = .slice (some ⟨b2, o2, none⟩) n2 c2 := (eval_getD A 30).symm.trans (hr 30 (by decide) (by decide))
          unfold Oper.wp execOp
          go_simp
          exact hK _ _ (fun d hd => by cases hd; exact rfl) (Ch.refl _ _)
        | 7, _, ho => by
          obtain rfl := Option.some.inj ho
          have e31 : A.tmps[31]?.getD undef = .pointer (some ⟨b2, o2, none⟩) := (eval_getD A 31).symm.trans (hr 31 (by decide) (by decide))
          unfold Oper.wp execOp
          go_simp
          exact hK _ _ (fun d hd => by cases hd; exact rfl) (Ch.refl _ _)
        | 8, _, ho => by
          obtain rfl := Option.some.inj ho
          have e32 : A.tmps[32]?.getD undef = .pointer (some ⟨b2, o2 + 1, none⟩) := (eval_getD A 32).symm.trans (hr 32 (by decide) (by decide))
          have l0 : W'.cell? ⟨b2, o2 + 1, none⟩ = some (.slice A3 n3 c3) := k1
          unfold Oper.wp execOp
          go_simp
          exact hK _ _ (fun d hd => by cases hd; exact rfl) (Ch.refl _ _)
        | 9, _, ho => by
          obtain rfl := Option.some.inj ho
          have e33 : A.tmps[33]?.getD undef = .slice A3 n3 c3 := (eval_getD A 33).symm.trans (hr 33 (by decide) (by decide))
          unfold Oper.wp execOp
          go_simp
          (go_at_call 104; refine (first_f104 hl3 hr3).mono ?_; rintro e W2 ⟨p, rfl, hp, hcp⟩)
          exact hK _ _ (fun d hd => by cases hd; exact ⟨p, rfl, hp⟩) (hcp)
        | 10, _, ho => by
          obtain rfl := Option.some.inj ho
          have e4 : A.tmps[4]?.getD undef = .slice (some ⟨b2, o2, none⟩) n2 c2 := (eval_getD A 4).symm.trans (hx 4 (by decide))
          unfold Oper.wp execOp
          go_simp
          exact hK _ _ (fun d hd => by cases hd; exact rfl) (Ch.refl _ _)
        | 11, _, ho => by
          obtain rfl := Option.some.inj ho
          have e35 : A.tmps[35]?.getD undef = .slice (some ⟨b2, o2, none⟩) n2 c2 := (eval_getD A 35).symm.trans (hr 35 (by decide) (by decide))
          unfold Oper.wp execOp
          go_simp
          exact hK _ _ (fun d hd => by cases hd; exact rfl) (Ch.refl _ _)
        | 12, _, ho => by
          obtain rfl := Option.some.inj ho
          have e36 : A.tmps[36]?.getD undef = .pointer (some ⟨b2, o2, none⟩) := (eval_getD A 36).symm.trans (hr 36 (by decide) (by decide))
          unfold Oper.wp execOp
          go_simp
          exact hK _ _ (fun d hd => by cases hd; exact rfl) (Ch.refl _ _)
        | 13, _, ho => by
          obtain rfl := Option.some.inj ho
          have e37 : A.tmps[37]?.getD undef = .pointer (some ⟨b2, o2 + 2, none⟩) := (eval_getD A 37).symm.trans (hr 37 (by decide) (by decide))
          have l0 : W'.cell? ⟨b2, o2 + 2, none⟩ = some (.slice A4 n4 c4) := k2
          unfold Oper.wp execOp
          go_simp
          exact hK _ _ (fun d hd => by cases hd; exact rfl) (Ch.refl _ _)
        | 14, _, ho => by
          obtain rfl := Option.some.inj ho
          have e38 : A.tmps[38]?.getD undef = .slice A4 n4 c4 := (eval_getD A 38).symm.trans (hr 38 (by decide) (by decide))
          unfold Oper.wp execOp
          go_simp
          (go_at_call 104; refine (first_f104 hl4 hr4).mono ?_; rintro e W2 ⟨p, rfl, hp, hcp⟩)
          exact hK _ _ (fun d hd => by cases hd; exact ⟨p, rfl, hp⟩) (hcp)
        | 15, _, ho => by
          obtain rfl := Option.some.inj ho
          have e29 : A.tmps[29]?.getD undef = .string s2 := (eval_getD A 29).symm.trans (hr 29 (by decide) (by decide))
          obtain ⟨p34, eq34_, p34_0⟩ : ∃ (p : Option Addr), A.eval (.tmp 34) = .pointer p ∧ Ptr W' 3 isInt p := hr 34 (by decide) (by decide)
          have e34 : A.tmps[34]?.getD undef = .pointer p34 := (eval_getD A 34).symm.trans eq34_
          obtain ⟨p39, eq39_, p39_0⟩ : ∃ (p : Option Addr), A.eval (.tmp 39) = .pointer p ∧ Ptr W' 3 isInt p := hr 39 (by decide) (by decide)
          have e39 : A.tmps[39]?.getD undef = .pointer p39 := (eval_getD A 39).symm.trans eq39_
          unfold Oper.wp execOp
          go_simp
          exact hK _ _ (fun d hd => by cases hd; exact ⟨p34, p39, rfl, p34_0, p39_0⟩) (Ch.refl _ _)
        | 16, _, ho => by
          obtain rfl := Option.some.inj ho
          obtain ⟨p40, q40, eq40_, p40_0, p40_1⟩ : ∃ (p : Option Addr) (q : Option Addr), A.eval (.tmp 40) = .agg #[.string s2, .pointer p, .pointer q] ∧ Ptr W' 3 isInt p ∧ Ptr W' 3 isInt q := hr 40 (by decide) (by decide)
          have e40 : A.tmps[40]?.getD undef = .agg #[.string s2, .pointer p40, .pointer q40] := (eval_getD A 40).symm.trans eq40_
          have hcn := (Ch.grown (S := fun _ => False) (World.grownBy_alloc W' (.cells #[.string s2, .pointer p40, .pointer q40] 258) none) (by simp))
          unfold Oper.wp execOp
          go_simp
          exact hK _ _ (fun d hd => by cases hd; exact ⟨_, p40, q40, rfl, hLW, heap_alloc_new _ _, p40_0.ch hcn, p40_1.ch hcn⟩) (hcn)
        | 17, _, ho => by
          obtain rfl := Option.some.inj ho
          have e25 : A.tmps[25]?.getD undef = .pointer (some ⟨k, 0, none⟩) := (eval_getD A 25).symm.trans (hr 25 (by decide) (by decide))
          unfold Oper.wp execOp
          go_simp
          exact hK _ _ (fun d hd => by cases hd; exact rfl) (Ch.refl _ _)
        | 18, _, ho => by
          obtain rfl := Option.some.inj ho
          have e42 : A.tmps[42]?.getD undef = .pointer (some ⟨k, 0, none⟩) := (eval_getD A 42).symm.trans (hr 42 (by decide) (by decide))
          unfold Oper.wp execOp
          go_simp
          exact hK _ _ (fun d hd => by cases hd; exact rfl) (Ch.refl _ _)
        | n + 19, hi, _ => absurd hi (by omega)

    · intro oo ho u W3 hR hu
      obtain rfl := Option.some.inj ho
      obtain ⟨k2, p, q, hv, hk2, hblk2, hp, hq⟩ : ∃ (k2 : Nat) (p q : Option Addr), u 41 = .pointer (some ⟨k2, 0, none⟩) ∧ W1.heap.size ≤ k2 ∧ W3.heap[k2]? = some (.cells #[.string s2, .pointer p, .pointer q] 258 (0, 0)) ∧ Ptr W3 3 isInt p ∧ Ptr W3 3 isInt q := hu 41 (by decide)
      have hv2 : u 43 = .pointer (some ⟨k, 2, none⟩) := hu 43 (by decide)
      have hR0 := (Ch.of_heap (Ch.refl _ W1) (w' := W1.drew) rfl rfl rfl rfl).trans hR
      have hbk := (hR0.block k (blk_lt HB.out) id).trans HB.out
      have hne : k ≠ k2 := by have := blk_lt HB.out; omega
      have hf : W3.frozen? ⟨k, 2, none⟩ = false := blk_frozen hbk
      have hold : W3.cell? ⟨k, 2, none⟩ = some (.pointer none) := blk_cell hbk rfl
      have hb4 := blk_set (j := 2) (.pointer (some ⟨k2, 0, none⟩)) hbk
      have hb5 := (blk_set_other (w := W3) (j := 2) (.pointer (some ⟨k2, 0, none⟩)) hne).trans hblk2
      have hp5 := hp.setOther (j := 2) (.pointer (some ⟨k2, 0, none⟩)) hbk (by decide)
      have hq5 := hq.setOther (j := 2) (.pointer (some ⟨k2, 0, none⟩)) hbk (by decide)
      have hc5 := (HC.out.trans hR0).old (grownBy_set W3 k 2 (.pointer (some ⟨k2, 0, none⟩))) (fun j hj => .inl (by cases hj; exact HK.out))
      have HB4 := Lib.hid hb4
      have HB5 := Lib.hid hb5
      have HP5 := Lib.hid hp5
      have HQ5 := Lib.hid hq5
      have HC5 := Lib.hid hc5
      clear hR hu hR0 hbk hb4 hb5 hp5 hq5 hc5 hblk2 hp hq
      rw [connB_frame, hv, hv2]
      unfold Oper.wp execOp
      go_simp
      go_wp2
      refine bodyPost_ret (v := .pointer (some ⟨k, 0, none⟩)) (by simp [results, Tryz.results106]) rfl ?_
      exact ⟨_, rfl, Ptr.mk HB4.out ⟨s, t, _, rfl, Ptr.mk HB5.out ⟨s2, p, q, rfl, HP5.out, HQ5.out⟩⟩, HC5.out⟩

def connCT (L b : Nat) (s t : ByteArray) (d : Nat) (v : Value) (W : World) : Prop :=
  match d with
  | 7 => v = .pointer (some ⟨b, 0, none⟩)
  | 8 => v = .pointer (some ⟨b, 0, none⟩)
  | 9 => v = .pointer (some ⟨b, 0, none⟩)
  | 10 => v = .string s
  | 11 => v = .pointer (some ⟨b, 0, none⟩)
  | 12 => v = .pointer (some ⟨b, 0, none⟩)
  | 13 => v = .pointer (some ⟨b, 1, none⟩)
  | 14 => v = .string t
  | 15 => v = .agg #[.string s, .string t, .slice none 0 0]
  | 3 => ∃ (k : Nat), v = .pointer (some ⟨k, 0, none⟩) ∧ L ≤ k ∧ W.heap[k]? = some (.cells #[.string ⟨#[]⟩, .string ⟨#[]⟩, .slice none 0 0] 217 (0, 0))
  | _ => True

theorem connCT_stays {L b : Nat} {s t : ByteArray} {d : Nat} {v : Value} {W W' : World} (h : connCT L b s t d v W) (hc : Ch (fun _ => False) W W') : connCT L b s t d v W' := by
  unfold connCT at h ⊢
  split at h
  · exact h
  · exact h
  · exact h
  · exact h
  · exact h
  · exact h
  · exact h
  · exact h
  · exact h
  · obtain ⟨k, eq_, p0, p1⟩ := h
    exact ⟨k, eq_, p0, (hc.block _ (blk_lt p1) id).trans p1⟩
  · trivial

set_option maxRecDepth 100000 in
theorem connC_frame (x0 x1 x2 x3 x4 x5 x6 x7 x8 x9 x10 x11 x12 x13 x14 x15 x16 x17 x18 x19 x20 x21 x22 x23 x24 x25 x26 x27 x28 x29 x30 x31 x32 x33 x34 x35 x36 x37 x38 x39 x40 : Value) (d : List Deferred) (u : Nat → Value) : frameOf ⟨#[x0, x1, x2, x3, x4, x5, x6, x7, x8, x9, x10, x11, x12, x13, x14, x15, x16, x17, x18, x19, x20, x21, x22, x23, x24, x25, x26, x27, x28, x29, x30, x31, x32, x33, x34, x35, x36, x37, x38, x39, x40], d⟩ [7, 8, 9, 10, 11, 12, 13, 14, 15, 3] u = ⟨#[x0, x1, x2, u 3, x4, x5, x6, u 7, u 8, u 9, u 10, u 11, u 12, u 13, u 14, u 15, x16, x17, x18, x19, x20, x21, x22, x23, x24, x25, x26, x27, x28, x29, x30, x31, x32, x33, x34, x35, x36, x37, x38, x39, x40], d⟩ := by kernel_rfl

def connDT (k b2 : Nat) (p1 p2 : Option Addr) (s2 : ByteArray) (d : Nat) (v : Value) (_ : World) : Prop :=
  match d with
  | 22 => v = .pointer (some ⟨b2, 0, none⟩)
  | 23 => v = .pointer (some ⟨b2, 0, none⟩)
  | 24 => v = .pointer (some ⟨b2, 0, none⟩)
  | 25 => v = .string s2
  | 26 => v = .pointer (some ⟨b2, 0, none⟩)
  | 27 => v = .pointer (some ⟨b2, 0, none⟩)
  | 28 => v = .pointer (some ⟨b2, 1, none⟩)
  | 29 => v = .pointer p1
  | 30 => ∃ (SA : Option Addr) (n : Nat) (c : Nat), v = .slice SA n c
  | 31 => v = .pointer (some ⟨b2, 0, none⟩)
  | 32 => v = .pointer (some ⟨b2, 0, none⟩)
  | 33 => v = .pointer (some ⟨b2, 2, none⟩)
  | 34 => v = .pointer p2
  | 35 => ∃ (SA : Option Addr) (n : Nat) (c : Nat), v = .slice SA n c
  | 36 => ∃ (SA : Option Addr) (n : Nat) (c : Nat) (SB : Option Addr) (m : Nat) (d : Nat), v = .agg #[.string s2, .slice SA n c, .slice SB m d]
  | 37 => ∃ (k : Nat), v = .slice (some ⟨k, 0, none⟩) 1 1
  | 38 => v = .pointer (some ⟨k, 2, none⟩)
  | _ => True

theorem connDT_stays {k b2 : Nat} {p1 p2 : Option Addr} {s2 : ByteArray} {d : Nat} {v : Value} {W W' : World} (h : connDT k b2 p1 p2 s2 d v W) (_hc : Ch (fun _ => False) W W') : connDT k b2 p1 p2 s2 d v W' := by
  unfold connDT at h ⊢
  split at h
  · exact h
  · exact h
  · exact h
  · exact h
  · exact h
  · exact h
  · exact h
  · exact h
  · obtain ⟨SA, n, c, eq_⟩ := h
    exact ⟨SA, n, c, eq_⟩
  · exact h
  · exact h
  · exact h
  · exact h
  · obtain ⟨SA, n, c, eq_⟩ := h
    exact ⟨SA, n, c, eq_⟩
  · obtain ⟨SA, n, c, SB, m, d, eq_⟩ := h
    exact ⟨SA, n, c, SB, m, d, eq_⟩
  · obtain ⟨k, eq_⟩ := h
    exact ⟨k, eq_⟩
  · exact h
  · trivial

set_option maxRecDepth 100000 in
theorem connD_frame (x0 x1 x2 x3 x4 x5 x6 x7 x8 x9 x10 x11 x12 x13 x14 x15 x16 x17 x18 x19 x20 x21 x22 x23 x24 x25 x26 x27 x28 x29 x30 x31 x32 x33 x34 x35 x36 x37 x38 x39 x40 : Value) (d : List Deferred) (u : Nat → Value) : frameOf ⟨#[x0, x1, x2, x3, x4, x5, x6, x7, x8, x9, x10, x11, x12, x13, x14, x15, x16, x17, x18, x19, x20, x21, x22, x23, x24, x25, x26, x27, x28, x29, x30, x31, x32, x33, x34, x35, x36, x37, x38, x39, x40], d⟩ [22, 23, 24, 25, 26, 27, 28, 29, 30, 31, 32, 33, 34, 35, 36, 37, 38] u = ⟨#[x0, x1, x2, x3, x4, x5, x6, x7, x8, x9, x10, x11, x12, x13, x14, x15, x16, x17, x18, x19, x20, x21, u 22, u 23, u 24, u 25, u 26, u 27, u 28, u 29, u 30, u 31, u 32, u 33, u 34, u 35, u 36, u 37, u 38, x39, x40], d⟩ := by kernel_rfl

theorem Tryz.size217 : (Tryz.prog.info? 217).map (·.size) = some 3 := by kernel_rfl
set_option maxRecDepth 100000 in
set_option maxHeartbeats 4000000 in
theorem connections_any {p : Option Addr} {w : World} (h : Ptr w 256 (sConn w) p) : Calls Tryz.prog 92 #[.pointer p] w (ToSl w) := by
  cases p with
  | none =>
    go_enter Tryz.func92, Tryz.ntmps92
    go_wp2
    refine bodyPost_ret (v := .slice none 0 0) (by simp [results, Tryz.results92]) rfl ?_
    exact ⟨_, _, _, rfl, Ch.refl _ _⟩
  | some a =>
    obtain ⟨b, cs, fr, rfl, ⟨s, t, q, hcs, hq⟩, hb⟩ := h a rfl
    have hc := At.of hb
    rw [hcs] at hc
    have K0 := Lib.hid (hc 0 _ rfl)
    have K1 := Lib.hid (hc 1 _ rfl)
    have K2 := Lib.hid (hc 2 _ rfl)
    have HQ := Lib.hid hq
    clear h hc hq hb hcs
    go_enter Tryz.func92, Tryz.ntmps92
    go_upto_region 3 with fail
    refine wp_region_ops (by kernel_rfl) [7, 8, 9, 10, 11, 12, 13, 14, 15, 3] 10 (by kernel_rfl) (by kernel_rfl) (by kernel_rfl) (connCT w.heap.size b s t) (Ch (fun _ => False)) (Ch.refl _) (fun _ _ _ => Ch.trans) (fun _ _ _ _ => connCT_stays) ?_ ?_
    · intro i oo hi ho A W' hR hr hx K hK
      have hR0 := (Ch.of_heap (Ch.refl _ w) (w' := w.drew) rfl rfl rfl rfl).trans hR
      have hLW := hR0.size
      have k0 := hR0.cell0 K0.out
      have k1 := hR0.cell0 K1.out
      clear hR hR0
      exact match i, hi, ho with
        | 0, _, ho => by
          obtain rfl := Option.some.inj ho
          have e0 : A.tmps[0]?.getD undef = .pointer (some ⟨b, 0, none⟩) := (eval_getD A 0).symm.trans (hx 0 (by decide))
          unfold Oper.wp execOp
          go_simp
          exact hK _ _ (fun d hd => by cases hd; exact rfl) (Ch.refl _ _)
        | 1, _, ho => by
          obtain rfl := Option.some.inj ho
          have e7 : A.tmps[7]?.getD undef = .pointer (some ⟨b, 0, none⟩) := (eval_getD A 7).symm.trans (hr 7 (by decide) (by decide))
          unfold Oper.wp execOp
          go_simp
          exact hK _ _ (fun d hd => by cases hd; exact rfl) (Ch.refl _ _)
        | 2, _, ho => by
          obtain rfl := Option.some.inj ho
          have e8 : A.tmps[8]?.getD undef = .pointer (some ⟨b, 0, none⟩) := (eval_getD A 8).symm.trans (hr 8 (by decide) (by decide))
          unfold Oper.wp execOp
          go_simp
          exact hK _ _ (fun d hd => by cases hd; exact rfl) (Ch.refl _ _)
        | 3, _, ho => by
          obtain rfl := Option.some.inj ho
          have e9 : A.tmps[9]?.getD undef = .pointer (some ⟨b, 0, none⟩) := (eval_getD A 9).symm.trans (hr 9 (by decide) (by decide))
          have l0 : W'.cell? ⟨b, 0, none⟩ = some (.string s) := k0
          unfold Oper.wp execOp
          go_simp
          exact hK _ _ (fun d hd => by cases hd; exact rfl) (Ch.refl _ _)
        | 4, _, ho => by
          obtain rfl := Option.some.inj ho
          have e0 : A.tmps[0]?.getD undef = .pointer (some ⟨b, 0, none⟩) := (eval_getD A 0).symm.trans (hx 0 (by decide))
          unfold Oper.wp execOp
          go_simp
          exact hK _ _ (fun d hd => by cases hd; exact rfl) (Ch.refl _ _)
        | 5, _, ho => by
          obtain rfl := Option.some.inj ho
          have e11 : A.tmps[11]?.getD undef = .pointer (some ⟨b, 0, none⟩) := (eval_getD A 11).symm.trans (hr 11 (by decide) (by decide))
          unfold Oper.wp execOp
          go_simp
          exact hK _ _ (fun d hd => by cases hd; exact rfl) (Ch.refl _ _)
        | 6, _, ho => by
          obtain rfl := Option.some.inj ho
          have e12 : A.tmps[12]?.getD undef = .pointer (some ⟨b, 0, none⟩) := (eval_getD A 12).symm.trans (hr 12 (by decide) (by decide))
          unfold Oper.wp execOp
          go_simp
          exact hK _ _ (fun d hd => by cases hd; exact rfl) (Ch.refl _ _)
        | 7, _, ho => by
          obtain rfl := Option.some.inj ho
          have e13 : A.tmps[13]?.getD undef = .pointer (some ⟨b, 1, none⟩) := (eval_getD A 13).symm.trans (hr 13 (by decide) (by decide))
          have l0 : W'.cell? ⟨b, 1, none⟩ = some (.string t) := k1
          unfold Oper.wp execOp
          go_simp
          exact hK _ _ (fun d hd => by cases hd; exact rfl) (Ch.refl _ _)
        | 8, _, ho => by
          obtain rfl := Option.some.inj ho
          have e10 : A.tmps[10]?.getD undef = .string s := (eval_getD A 10).symm.trans (hr 10 (by decide) (by decide))
          have e14 : A.tmps[14]?.getD undef = .string t := (eval_getD A 14).symm.trans (hr 14 (by decide) (by decide))
          unfold Oper.wp execOp
          go_simp
          exact hK _ _ (fun d hd => by cases hd; exact rfl) (Ch.refl _ _)
        | 9, _, ho => by
          obtain rfl := Option.some.inj ho
          unfold Oper.wp execOp
          go_simp
          exact hK _ _ (fun d hd => by cases hd; exact ⟨_, rfl, hLW, heap_alloc_new _ _⟩) (Ch.grown (World.grownBy_alloc _ _ none) (by simp))
        | n + 10, hi, _ => absurd hi (by omega)

    · intro oo ho u W1 hR hu
      obtain rfl := Option.some.inj ho
      obtain ⟨k, hv, hk, hblk⟩ : ∃ k, u 3 = .pointer (some ⟨k, 0, none⟩) ∧ w.heap.size ≤ k ∧ W1.heap[k]? = some (.cells #[.string ⟨#[]⟩, .string ⟨#[]⟩, .slice none 0 0] 217 (0, 0)) := hu 3 (by decide)
      have hv2 : u 15 = .agg #[.string s, .string t, .slice none 0 0] := hu 15 (by decide)
      have hR0 := (Ch.of_heap (Ch.refl _ w) (w' := w.drew) rfl rfl rfl rfl).trans hR
      rw [connC_frame]
      refine wp_store_row 217 (.tmp 3) (.tmp 15) rfl k #[.string s, .string t, .slice none 0 0] _ 217 hv hv2 hblk Tryz.size217 rfl (by kernel_rfl) ?_
      have hb2 := setRow_heap W1 k _ #[.string s, .string t, .slice none 0 0] 217 (0, 0) hblk
      have hc2 := hR0.setRow (.inl hk) #[.string s, .string t, .slice none 0 0]
      have HB := Lib.hid hb2
      have HC := Lib.hid hc2
      have HK := Lib.hid hk
      have HQ2 := Lib.hid ((HQ.out.ch hc2).mono fun _ k => sAddr.ch k hc2)
      have q2 := hc2.cell0 K2.out
      rw [hv]
      clear hR hu hblk hk hR0 hb2 hc2 hv hv2 HQ K0 K1 K2
      generalize W1.setRow k #[.string s, .string t, .slice none 0 0] = W2 at *
      have e0 : W2.cell? ⟨k, 0, none⟩ = some (.string s) := blk_cell HB.out rfl
      have e1 : W2.cell? ⟨k, 1, none⟩ = some (.string t) := blk_cell HB.out rfl
      have e2 : W2.cell? ⟨k, 2, none⟩ = some (.slice none 0 0) := blk_cell HB.out rfl
      dsimp only [Act.put, Exit.then]
      cases q with
      | none =>
        have hcx : Ch (fun _ => False) W2 (W2.alloc (.cells #[.string s, .string t, .slice none 0 0] 217)) := Ch.grown (World.grownBy_alloc _ _ none) (by simp)
        have HX := Lib.hid (HC.out.trans hcx)
        clear hcx
        go_wp2
        refine bodyPost_ret (v := .slice (some ⟨W2.heap.size, 0, none⟩) 1 1) (by simp [results, Tryz.results92]) rfl ?_
        exact ⟨_, _, _, rfl, HX.out⟩
      | some a2 =>
        obtain ⟨b2, cs2, fr2, rfl, ⟨s2, p1, p2, hcs2, hp1, hp2⟩, hb2⟩ := HQ2.out a2 rfl
        have hd := At.of hb2
        rw [hcs2] at hd
        have J0 := Lib.hid (hd 0 _ rfl)
        have J1 := Lib.hid (hd 1 _ rfl)
        have J2 := Lib.hid (hd 2 _ rfl)
        have HP1 := Lib.hid hp1
        have HP2 := Lib.hid hp2
        clear hd hp1 hp2 HQ2 e0 e1 e2 hb2 hcs2
        go_upto_region 6 with fail
        clear q2
        refine wp_region_ops (by kernel_rfl) [22, 23, 24, 25, 26, 27, 28, 29, 30, 31, 32, 33, 34, 35, 36, 37, 38] 17 (by kernel_rfl) (by kernel_rfl) (by kernel_rfl) (connDT k b2 p1 p2 s2) (Ch (fun _ => False)) (Ch.refl _) (fun _ _ _ => Ch.trans) (fun _ _ _ _ => connDT_stays) ?_ ?_
        · intro i oo hi ho A W' hR hr hx K hK
          have hR0 := (Ch.of_heap (Ch.refl _ W2) (w' := W2.drew) rfl rfl rfl rfl).trans hR
          have k0 := hR0.cell0 J0.out
          have k1 := hR0.cell0 J1.out
          have k2 := hR0.cell0 J2.out
          have hp1 := HP1.out.ch hR0
          have hp2 := HP2.out.ch hR0
          clear hR hR0
          exact match i, hi, ho with
            | 0, _, ho => by
              obtain rfl := Option.some.inj ho
              have e4 : A.tmps[4]?.getD undef = .pointer (some ⟨b2, 0, none⟩) := (eval_getD A 4).symm.trans (hx 4 (by decide))
              unfold Oper.wp execOp
              go_simp
              exact hK _ _ (fun d hd => by cases hd; exact rfl) (Ch.refl _ _)
            | 1, _, ho => by
              obtain rfl := Option.some.inj ho
              have e22 : A.tmps[22]?.getD undef = .pointer (some ⟨b2, 0, none⟩) := (eval_getD A 22).symm.trans (hr 22 (by decide) (by decide))
              unfold Oper.wp execOp
              go_simp
              exact hK _ _ (fun d hd => by cases hd; exact rfl) (Ch.refl _ _)
            | 2, _, ho => by
              obtain rfl := Option.some.inj ho
              have e23 : A.tmps[23]?.getD undef = .pointer (some ⟨b2, 0, none⟩) := (eval_getD A 23).symm.trans (hr 23 (by decide) (by decide))
              unfold Oper.wp execOp
              go_simp
              exact hK _ _ (fun d hd => by cases hd; exact rfl) (Ch.refl _ _)
            | 3, _, ho => by
              obtain rfl := Option.some.inj ho
              have e24 : A.tmps[24]?.getD undef = .pointer (some ⟨b2, 0, none⟩) := (eval_getD A 24).symm.trans (hr 24 (by decide) (by decide))
              have l0 : W'.cell? ⟨b2, 0, none⟩ = some (.string s2) := k0
              unfold Oper.wp execOp
              go_simp
              exact hK _ _ (fun d hd => by cases hd; exact rfl) (Ch.refl _ _)
            | 4, _, ho => by
              obtain rfl := Option.some.inj ho
              have e4 : A.tmps[4]?.getD undef = .pointer (some ⟨b2, 0, none⟩) := (eval_getD A 4).symm.trans (hx 4 (by decide))
              unfold Oper.wp execOp
              go_simp
              exact hK _ _ (fun d hd => by cases hd; exact rfl) (Ch.refl _ _)
            | 5, _, ho => by
              obtain rfl := Option.some.inj ho
              have e26 : A.tmps[26]?.getD undef = .pointer (some ⟨b2, 0, none⟩) := (eval_getD A 26).symm.trans (hr 26 (by decide) (by decide))
              unfold Oper.wp execOp
              go_simp
              exact hK _ _ (fun d hd => by cases hd; exact rfl) (Ch.refl _ _)
            | 6, _, ho => by
              obtain rfl := Option.some.inj ho
              have e27 : A.tmps[27]?.getD undef = .pointer (some ⟨b2, 0, none⟩) := (eval_getD A 27).symm.trans (hr 27 (by decide) (by decide))
              unfold Oper.wp execOp
              go_simp
              exact hK _ _ (fun d hd => by cases hd; exact rfl) (Ch.refl _ _)
            | 7, _, ho => by
              obtain rfl := Option.some.inj ho
              have e28 : A.tmps[28]?.getD undef = .pointer (some ⟨b2, 1, none⟩) := (eval_getD A 28).symm.trans (hr 28 (by decide) (by decide))
              have l0 : W'.cell? ⟨b2, 1, none⟩ = some (.pointer p1) := k1
              unfold Oper.wp execOp
              go_simp
              exact hK _ _ (fun d hd => by cases hd; exact rfl) (Ch.refl _ _)
            | 8, _, ho => by
              obtain rfl := Option.some.inj ho
              have e29 : A.tmps[29]?.getD undef = .pointer p1 := (eval_getD A 29).symm.trans (hr 29 (by decide) (by decide))
              unfold Oper.wp execOp
              go_simp
              (go_at_call 102; refine (back_f102 hp1).mono ?_; rintro e W2 ⟨_, _, _, rfl, hcp⟩)
              exact hK _ _ (fun d hd => by cases hd; exact ⟨_, _, _, rfl⟩) (hcp)
            | 9, _, ho => by
              obtain rfl := Option.some.inj ho
              have e4 : A.tmps[4]?.getD undef = .pointer (some ⟨b2, 0, none⟩) := (eval_getD A 4).symm.trans (hx 4 (by decide))
              unfold Oper.wp execOp
              go_simp
              exact hK _ _ (fun d hd => by cases hd; exact rfl) (Ch.refl _ _)
            | 10, _, ho => by
              obtain rfl := Option.some.inj ho
              have e31 : A.tmps[31]?.getD undef = .pointer (some ⟨b2, 0, none⟩) := (eval_getD A 31).symm.trans (hr 31 (by decide) (by decide))
              unfold Oper.wp execOp
              go_simp
              exact hK _ _ (fun d hd => by cases hd; exact rfl) (Ch.refl _ _)
            | 11, _, ho => by
              obtain rfl := Option.some.inj ho
              have e32 : A.tmps[32]?.getD undef = .pointer (some ⟨b2, 0, none⟩) := (eval_getD A 32).symm.trans (hr 32 (by decide) (by decide))
              unfold Oper.wp execOp
              go_simp
              exact hK _ _ (fun d hd => by cases hd; exact rfl) (Ch.refl _ _)
            | 12, _, ho => by
              obtain rfl := Option.some.inj ho
              have e33 : A.tmps[33]?.getD undef = .pointer (some ⟨b2, 2, none⟩) := (eval_getD A 33).symm.trans (hr 33 (by decide) (by decide))
              have l0 : W'.cell? ⟨b2, 2, none⟩ = some (.pointer p2) := k2
              unfold Oper.wp execOp
              go_simp
              exact hK _ _ (fun d hd => by cases hd; exact rfl) (Ch.refl _ _)
            | 13, _, ho => by
              obtain rfl := Option.some.inj ho
              have e34 : A.tmps[34]?.getD undef = .pointer p2 := (eval_getD A 34).symm.trans (hr 34 (by decide) (by decide))
              unfold Oper.wp execOp
              go_simp
              (go_at_call 102; refine (back_f102 hp2).mono ?_; rintro e W2 ⟨_, _, _, rfl, hcp⟩)
              exact hK _ _ (fun d hd => by cases hd; exact ⟨_, _, _, rfl⟩) (hcp)
            | 14, _, ho => by
              obtain rfl := Option.some.inj ho
              have e25 : A.tmps[25]?.getD undef = .string s2 := (eval_getD A 25).symm.trans (hr 25 (by decide) (by decide))
              obtain ⟨SA30, n30, c30, eq30_⟩ : ∃ (SA : Option Addr) (n : Nat) (c : Nat), A.eval (.tmp 30) = .slice SA n c := hr 30 (by decide) (by decide)
              have e30 : A.tmps[30]?.getD undef = .slice SA30 n30 c30 := (eval_getD A 30).symm.trans eq30_
              obtain ⟨SA35, n35, c35, eq35_⟩ : ∃ (SA : Option Addr) (n : Nat) (c : Nat), A.eval (.tmp 35) = .slice SA n c := hr 35 (by decide) (by decide)
              have e35 : A.tmps[35]?.getD undef = .slice SA35 n35 c35 := (eval_getD A 35).symm.trans eq35_
              unfold Oper.wp execOp
              go_simp
              exact hK _ _ (fun d hd => by cases hd; exact ⟨_, _, _, _, _, _, rfl⟩) (Ch.refl _ _)
            | 15, _, ho => by
              obtain rfl := Option.some.inj ho
              obtain ⟨SA36, n36, c36, SB36, m36, d36, eq36_⟩ : ∃ (SA : Option Addr) (n : Nat) (c : Nat) (SB : Option Addr) (m : Nat) (d : Nat), A.eval (.tmp 36) = .agg #[.string s2, .slice SA n c, .slice SB m d] := hr 36 (by decide) (by decide)
              have e36 : A.tmps[36]?.getD undef = .agg #[.string s2, .slice SA36 n36 c36, .slice SB36 m36 d36] := (eval_getD A 36).symm.trans eq36_
              unfold Oper.wp execOp
              go_simp
              exact hK _ _ (fun d hd => by cases hd; exact ⟨_, rfl⟩) (Ch.grown (World.grownBy_alloc _ _ none) (by simp))
            | 16, _, ho => by
              obtain rfl := Option.some.inj ho
              have e3 : A.tmps[3]?.getD undef = .pointer (some ⟨k, 0, none⟩) := (eval_getD A 3).symm.trans (hx 3 (by decide))
              unfold Oper.wp execOp
              go_simp
              exact hK _ _ (fun d hd => by cases hd; exact rfl) (Ch.refl _ _)
            | n + 17, hi, _ => absurd hi (by omega)

        · intro oo ho u W3 hR hu
          obtain rfl := Option.some.inj ho
          obtain ⟨k2, hv⟩ : ∃ k2, u 37 = .slice (some ⟨k2, 0, none⟩) 1 1 := hu 37 (by decide)
          have hv2 : u 38 = .pointer (some ⟨k, 2, none⟩) := hu 38 (by decide)
          have hR0 := (Ch.of_heap (Ch.refl _ W2) (w' := W2.drew) rfl rfl rfl rfl).trans hR
          have hbk := (hR0.block k (blk_lt HB.out) id).trans HB.out
          have hf : W3.frozen? ⟨k, 2, none⟩ = false := blk_frozen hbk
          have hold : W3.cell? ⟨k, 2, none⟩ = some (.slice none 0 0) := blk_cell hbk rfl
          have hb4 := blk_set (j := 2) (.slice (some ⟨k2, 0, none⟩) 1 1) hbk
          have hc4 := (HC.out.trans hR0).old (grownBy_set W3 k 2 (.slice (some ⟨k2, 0, none⟩) 1 1)) (fun j hj => .inl (by cases hj; exact HK.out))
          have HB4 := Lib.hid hb4
          have HC4 := Lib.hid hc4
          clear hR hu hR0 hbk hb4 hc4
          rw [connD_frame, hv, hv2]
          unfold Oper.wp execOp
          go_simp
          clear hf hold hv hv2
          generalize W3.setCell ⟨k, 2, none⟩ (.slice (some ⟨k2, 0, none⟩) 1 1) = W4 at *
          have e0 : W4.cell? ⟨k, 0, none⟩ = some (.string s) := blk_cell HB4.out rfl
          have e1 : W4.cell? ⟨k, 1, none⟩ = some (.string t) := blk_cell HB4.out rfl
          have e2 : W4.cell? ⟨k, 2, none⟩ = some (.slice (some ⟨k2, 0, none⟩) 1 1) := blk_cell HB4.out rfl
          have hcx : Ch (fun _ => False) W4 (W4.alloc (.cells #[.string s, .string t, .slice (some ⟨k2, 0, none⟩) 1 1] 217)) := Ch.grown (World.grownBy_alloc _ _ none) (by simp)
          have HX := Lib.hid (HC4.out.trans hcx)
          clear hcx
          go_wp2
          refine bodyPost_ret (v := .slice (some ⟨W4.heap.size, 0, none⟩) 1 1) (by simp [results, Tryz.results92]) rfl ?_
          exact ⟨_, _, _, rfl, HX.out⟩

end Go.Proofs.YtimonhimfioohaaGreatDoor
