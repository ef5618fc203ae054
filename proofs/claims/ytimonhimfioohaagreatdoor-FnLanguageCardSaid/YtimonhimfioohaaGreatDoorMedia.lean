/- A medium, both ways. -/
import Derived.Test.YtimonhimfioohaaGreatDoorConv2
import Derived.Test.YtimonhimfioohaaGreatDoorReg4
namespace Go.Proofs.YtimonhimfioohaaGreatDoor
open Go.RowKit

theorem own_ch {w w' : World} {b e size n : Nat} {v : Value} {xs : List Value} (h : w.ownsRow b e size v n xs) (hc : Ch (fun _ => False) w w') : w'.ownsRow b e size v n xs := by
  refine ⟨h.1, h.2.imp id ?_⟩
  rintro ⟨g, cap, cur, h1, h2, h3, h4⟩
  exact ⟨g, cap, cur, h1, h2, (hc.block g (blk_lt h3) id).trans h3, h4⟩

theorem own_row {w : World} {b e size n k t : Nat} {v : Value} {xs : List Value} {old : Array Value} {fr : Nat × Nat} (h : w.ownsRow b e size v n xs) (hk : w.heap[k]? = some (.cells old t fr)) (hne : e ≠ t) (cs : Array Value) : (w.setRow k cs).ownsRow b e size v n xs := by
  refine ⟨h.1, h.2.imp id ?_⟩
  rintro ⟨g, cap, cur, h1, h2, h3, h4⟩
  refine ⟨g, cap, cur, h1, h2, (setRow_other w k g cs (fun e' => ?_)).trans h3, h4⟩
  subst e'
  rw [h3] at hk
  injection hk with hk
  injection hk with _ ht
  exact hne ht
theorem Lst.of_slice {w : World} {base size n c : Nat} {e : TypeId} {A : Option Addr} {α : Type} {f : α → List Value} {l : List α} (hf : ∀ a, (f a).length = size) (h : w.ownsRow base e size (.slice A n c) n (l.flatMap f)) (hn : n = l.length) : Lst w size f A l := by
  obtain ⟨A', c', h1, _, h2⟩ := Lst.of_own hf h hn
  cases h1
  exact h2

/-- A medium of the package at block b, its rows the call's own. -/
def MedOwn (L b : Nat) (name : ByteArray) (port : Int) (lp lf : List ByteArray) (lb : List (Bool × ByteArray × Int)) (la : List (ByteArray × ByteArray)) (W : World) : Prop :=
  ∃ (p : Option Addr) (SA : Option Addr) (c : Nat) (SB : Option Addr) (d : Nat) (q : Option Addr) (r : Option Addr) (SC : Option Addr) (m : Nat) (t : Option Addr) (SD : Option Addr) (f : Nat), L ≤ b ∧ W.heap[b]? = some (.cells #[.string name, .int .i64 port, .pointer p, .slice SA lp.length c, .slice SB lf.length d, .pointer q, .pointer r, .slice SC lb.length m, .pointer t, .slice SD la.length f] 226 (0, 0)) ∧ Ptr W 3 isInt p ∧ W.ownsRow L 9 1 (.slice SA lp.length c) lp.length (lp.flatMap strC) ∧ W.ownsRow L 9 1 (.slice SB lf.length d) lf.length (lf.flatMap strC) ∧ Ptr W 179 isStr q ∧ Ptr W 256 (sConn W) r ∧ W.ownsRow L 134 3 (.slice SC lb.length m) lb.length (lb.flatMap bandC) ∧ Ptr W 187 isStr t ∧ W.ownsRow L 240 2 (.slice SD la.length f) la.length (la.flatMap attrC) ∧ ∀ k, (Value.slice SA lp.length c).ownBlock = some k → (Value.slice SB lf.length d).ownBlock ≠ some k

def mediaT (B : Nat) (name : ByteArray) (port : Int) (A1 A2 A3 A4 A5 A6 A7 A8 : Option Addr) (n1 n4 n5 n7 c1 c2 c3 c4 c5 c6 c7 c8 : Nat) (lp lf : List ByteArray) (lb : List (Bool × ByteArray × Int)) (la : List (ByteArray × ByteArray)) (d : Nat) (v : Value) (W : World) : Prop :=
  match d with
  | 3 => v = .pointer (some ⟨B, 0, none⟩)
  | 4 => v = .string name
  | 5 => v = .pointer (some ⟨B, 1, none⟩)
  | 6 => v = .int .i64 port
  | 7 => v = .pointer (some ⟨B, 2, none⟩)
  | 8 => v = .slice A1 n1 c1
  | 9 => ∃ (p : Option Addr), v = .pointer p ∧ Ptr W 3 isInt p
  | 10 => ∃ (p : Option Addr), v = .agg #[.int .i64 port, .pointer p] ∧ Ptr W 3 isInt p
  | 11 => v = .pointer (some ⟨B, 3, none⟩)
  | 12 => v = .slice A2 lp.length c2
  | 13 => ∃ (SA : Option Addr) (c : Nat), v = .slice SA lp.length c ∧ W.ownsRow B 9 1 (.slice SA lp.length c) lp.length (lp.flatMap strC)
  | 14 => v = .pointer (some ⟨B, 4, none⟩)
  | 15 => v = .slice A3 lf.length c3
  | 16 => ∃ (SA : Option Addr) (c : Nat), v = .slice SA lf.length c ∧ W.ownsRow B 9 1 (.slice SA lf.length c) lf.length (lf.flatMap strC)
  | 17 => ∃ (p : Option Addr) (SA : Option Addr) (c : Nat) (SB : Option Addr) (d : Nat), v = .agg #[.string name, .int .i64 port, .pointer p, .slice SA lp.length c, .slice SB lf.length d] ∧ Ptr W 3 isInt p ∧ W.ownsRow B 9 1 (.slice SA lp.length c) lp.length (lp.flatMap strC) ∧ W.ownsRow B 9 1 (.slice SB lf.length d) lf.length (lf.flatMap strC) ∧ ∀ k, (Value.slice SA lp.length c).ownBlock = some k → (Value.slice SB lf.length d).ownBlock ≠ some k
  | 18 => v = .pointer (some ⟨B, 5, none⟩)
  | 19 => v = .slice A4 n4 c4
  | 20 => ∃ (p : Option Addr), v = .pointer p ∧ Ptr W 179 isStr p
  | 21 => v = .pointer (some ⟨B, 6, none⟩)
  | 22 => v = .slice A5 n5 c5
  | 23 => ∃ (p : Option Addr), v = .pointer p ∧ Ptr W 256 (sConn W) p
  | 24 => v = .pointer (some ⟨B, 7, none⟩)
  | 25 => v = .slice A6 lb.length c6
  | 26 => ∃ (SA : Option Addr) (c : Nat), v = .slice SA lb.length c ∧ W.ownsRow B 134 3 (.slice SA lb.length c) lb.length (lb.flatMap bandC)
  | 27 => v = .pointer (some ⟨B, 8, none⟩)
  | 28 => v = .slice A7 n7 c7
  | 29 => ∃ (p : Option Addr), v = .pointer p ∧ Ptr W 187 isStr p
  | 30 => v = .pointer (some ⟨B, 9, none⟩)
  | 31 => v = .slice A8 la.length c8
  | 32 => ∃ (SA : Option Addr) (c : Nat), v = .slice SA la.length c ∧ W.ownsRow B 240 2 (.slice SA la.length c) la.length (la.flatMap attrC)
  | 33 => ∃ (p : Option Addr) (SA : Option Addr) (c : Nat) (SB : Option Addr) (d : Nat) (q : Option Addr) (r : Option Addr) (SC : Option Addr) (m : Nat) (t : Option Addr) (SD : Option Addr) (f : Nat), v = .agg #[.string name, .int .i64 port, .pointer p, .slice SA lp.length c, .slice SB lf.length d, .pointer q, .pointer r, .slice SC lb.length m, .pointer t, .slice SD la.length f] ∧ Ptr W 3 isInt p ∧ W.ownsRow B 9 1 (.slice SA lp.length c) lp.length (lp.flatMap strC) ∧ W.ownsRow B 9 1 (.slice SB lf.length d) lf.length (lf.flatMap strC) ∧ Ptr W 179 isStr q ∧ Ptr W 256 (sConn W) r ∧ W.ownsRow B 134 3 (.slice SC lb.length m) lb.length (lb.flatMap bandC) ∧ Ptr W 187 isStr t ∧ W.ownsRow B 240 2 (.slice SD la.length f) la.length (la.flatMap attrC) ∧ ∀ k, (Value.slice SA lp.length c).ownBlock = some k → (Value.slice SB lf.length d).ownBlock ≠ some k
  | 34 => ∃ (k : Nat) (p : Option Addr) (SA : Option Addr) (c : Nat) (SB : Option Addr) (d : Nat) (q : Option Addr) (r : Option Addr) (SC : Option Addr) (m : Nat) (t : Option Addr) (SD : Option Addr) (f : Nat), v = .pointer (some ⟨k, 0, none⟩) ∧ B ≤ k ∧ W.heap[k]? = some (.cells #[.string name, .int .i64 port, .pointer p, .slice SA lp.length c, .slice SB lf.length d, .pointer q, .pointer r, .slice SC lb.length m, .pointer t, .slice SD la.length f] 226 (0, 0)) ∧ Ptr W 3 isInt p ∧ W.ownsRow B 9 1 (.slice SA lp.length c) lp.length (lp.flatMap strC) ∧ W.ownsRow B 9 1 (.slice SB lf.length d) lf.length (lf.flatMap strC) ∧ Ptr W 179 isStr q ∧ Ptr W 256 (sConn W) r ∧ W.ownsRow B 134 3 (.slice SC lb.length m) lb.length (lb.flatMap bandC) ∧ Ptr W 187 isStr t ∧ W.ownsRow B 240 2 (.slice SD la.length f) la.length (la.flatMap attrC) ∧ ∀ k, (Value.slice SA lp.length c).ownBlock = some k → (Value.slice SB lf.length d).ownBlock ≠ some k
  | _ => True

theorem mediaT_stays {B : Nat} {name : ByteArray} {port : Int} {A1 A2 A3 A4 A5 A6 A7 A8 : Option Addr} {n1 n4 n5 n7 c1 c2 c3 c4 c5 c6 c7 c8 : Nat} {lp lf : List ByteArray} {lb : List (Bool × ByteArray × Int)} {la : List (ByteArray × ByteArray)} {d : Nat} {v : Value} {W W' : World} (h : mediaT B name port A1 A2 A3 A4 A5 A6 A7 A8 n1 n4 n5 n7 c1 c2 c3 c4 c5 c6 c7 c8 lp lf lb la d v W) (hc : Ch (fun _ => False) W W') : mediaT B name port A1 A2 A3 A4 A5 A6 A7 A8 n1 n4 n5 n7 c1 c2 c3 c4 c5 c6 c7 c8 lp lf lb la d v W' := by
  unfold mediaT at h ⊢
  split at h
  · exact h
  · exact h
  · exact h
  · exact h
  · exact h
  · exact h
  · obtain ⟨p, eq_, p0⟩ := h
    exact ⟨p, eq_, p0.ch hc⟩
  · obtain ⟨p, eq_, p0⟩ := h
    exact ⟨p, eq_, p0.ch hc⟩
  · exact h
  · exact h
  · obtain ⟨SA, c, eq_, p0⟩ := h
    exact ⟨SA, c, eq_, own_ch p0 hc⟩
  · exact h
  · exact h
  · obtain ⟨SA, c, eq_, p0⟩ := h
    exact ⟨SA, c, eq_, own_ch p0 hc⟩
  · obtain ⟨p, SA, c, SB, d, eq_, p0, p1, p2, p3⟩ := h
    exact ⟨p, SA, c, SB, d, eq_, p0.ch hc, own_ch p1 hc, own_ch p2 hc, p3⟩
  · exact h
  · exact h
  · obtain ⟨p, eq_, p0⟩ := h
    exact ⟨p, eq_, p0.ch hc⟩
  · exact h
  · exact h
  · obtain ⟨p, eq_, p0⟩ := h
    exact ⟨p, eq_, (p0.ch hc).mono fun _ k => sConn.ch k hc⟩
  · exact h
  · exact h
  · obtain ⟨SA, c, eq_, p0⟩ := h
    exact ⟨SA, c, eq_, own_ch p0 hc⟩
  · exact h
  · exact h
  · obtain ⟨p, eq_, p0⟩ := h
    exact ⟨p, eq_, p0.ch hc⟩
  · exact h
  · exact h
  · obtain ⟨SA, c, eq_, p0⟩ := h
    exact ⟨SA, c, eq_, own_ch p0 hc⟩
  · obtain ⟨p, SA, c, SB, d, q, r, SC, m, t, SD, f, eq_, p0, p1, p2, p3, p4, p5, p6, p7, p8⟩ := h
    exact ⟨p, SA, c, SB, d, q, r, SC, m, t, SD, f, eq_, p0.ch hc, own_ch p1 hc, own_ch p2 hc, p3.ch hc, (p4.ch hc).mono fun _ k => sConn.ch k hc, own_ch p5 hc, p6.ch hc, own_ch p7 hc, p8⟩
  · obtain ⟨k, p, SA, c, SB, d, q, r, SC, m, t, SD, f, eq_, p0, p1, p2, p3, p4, p5, p6, p7, p8, p9, p10⟩ := h
    exact ⟨k, p, SA, c, SB, d, q, r, SC, m, t, SD, f, eq_, p0, (hc.block _ (blk_lt p1) id).trans p1, p2.ch hc, own_ch p3 hc, own_ch p4 hc, p5.ch hc, (p6.ch hc).mono fun _ k => sConn.ch k hc, own_ch p7 hc, p8.ch hc, own_ch p9 hc, p10⟩
  · trivial

set_option maxRecDepth 100000 in
theorem media_frame (x0 x1 x2 x3 x4 x5 x6 x7 x8 x9 x10 x11 x12 x13 x14 x15 x16 x17 x18 x19 x20 x21 x22 x23 x24 x25 x26 x27 x28 x29 x30 x31 x32 x33 x34 : Value) (d : List Deferred) (u : Nat → Value) : frameOf ⟨#[x0, x1, x2, x3, x4, x5, x6, x7, x8, x9, x10, x11, x12, x13, x14, x15, x16, x17, x18, x19, x20, x21, x22, x23, x24, x25, x26, x27, x28, x29, x30, x31, x32, x33, x34], d⟩ [3, 4, 5, 6, 7, 8, 9, 10, 11, 12, 13, 14, 15, 16, 17, 18, 19, 20, 21, 22, 23, 24, 25, 26, 27, 28, 29, 30, 31, 32, 33, 34] u = ⟨#[x0, x1, x2, u 3, u 4, u 5, u 6, u 7, u 8, u 9, u 10, u 11, u 12, u 13, u 14, u 15, u 16, u 17, u 18, u 19, u 20, u 21, u 22, u 23, u 24, u 25, u 26, u 27, u 28, u 29, u 30, u 31, u 32, u 33, u 34], d⟩ := by kernel_rfl

set_option maxRecDepth 100000 in
set_option maxHeartbeats 4000000 in
theorem media_any {name : ByteArray} {port : Int} {A1 A2 A3 A4 A5 A6 A7 A8 : Option Addr} {n1 n4 n5 n7 c1 c2 c3 c4 c5 c6 c7 c8 : Nat} {lp lf : List ByteArray} {lb : List (Bool × ByteArray × Int)} {la : List (ByteArray × ByteArray)} {w : World}
    (h : MedRd w A1 A2 A3 A4 A5 A6 A7 A8 n1 lp.length lf.length n4 n5 lb.length n7 la.length) (h2 : Lst w 1 strC A2 lp) (h3 : Lst w 1 strC A3 lf) (h6 : Lst w 3 bandC A6 lb) (h8 : Lst w 2 attrC A8 la)
    (hlp : lp.length ≤ 2147483647) (hlf : lf.length ≤ 2147483647) (hlb : lb.length ≤ 2147483647) (hla : la.length ≤ 2147483647) :
    Calls Tryz.prog 65 #[.agg #[.string name, .int .i64 port, .slice A1 n1 c1, .slice A2 lp.length c2, .slice A3 lf.length c3, .slice A4 n4 c4, .slice A5 n5 c5, .slice A6 lb.length c6, .slice A7 n7 c7, .slice A8 la.length c8]] w fun e w' => ∃ b, e = .returned (.pointer (some ⟨b, 0, none⟩)) ∧ MedOwn w.heap.size b name port lp lf lb la w' ∧ Ch (fun _ => False) w w' := by
  have hcx : Ch (fun _ => False) w (w.alloc (.cells #[.string name, .int .i64 port, .slice A1 n1 c1, .slice A2 lp.length c2, .slice A3 lf.length c3, .slice A4 n4 c4, .slice A5 n5 c5, .slice A6 lb.length c6, .slice A7 n7 c7, .slice A8 la.length c8] 66)) := Ch.grown (World.grownBy_alloc _ _ none) (by simp)
  have hb : (w.alloc (.cells #[.string name, .int .i64 port, .slice A1 n1 c1, .slice A2 lp.length c2, .slice A3 lf.length c3, .slice A4 n4 c4, .slice A5 n5 c5, .slice A6 lb.length c6, .slice A7 n7 c7, .slice A8 la.length c8] 66)).heap[w.heap.size]? = some (.cells #[.string name, .int .i64 port, .slice A1 n1 c1, .slice A2 lp.length c2, .slice A3 lf.length c3, .slice A4 n4 c4, .slice A5 n5 c5, .slice A6 lb.length c6, .slice A7 n7 c7, .slice A8 la.length c8] 66 (0, 0)) := heap_alloc_new w _
  have HX := Lib.hid hcx
  have HB := Lib.hid hb
  have HM := Lib.hid h
  have H2 := Lib.hid h2
  have H3 := Lib.hid h3
  have H6 := Lib.hid h6
  have H8 := Lib.hid h8
  clear h h2 h3 h6 h8 hcx hb
  go_enter Tryz.func65, Tryz.ntmps65
  go_upto_region 1 with fail
  generalize hB : w.heap.size = B at *
  generalize w.alloc (.cells #[.string name, .int .i64 port, .slice A1 n1 c1, .slice A2 lp.length c2, .slice A3 lf.length c3, .slice A4 n4 c4, .slice A5 n5 c5, .slice A6 lb.length c6, .slice A7 n7 c7, .slice A8 la.length c8] 66) = W0 at *
  refine wp_region_ops4 (by kernel_rfl) [3, 4, 5, 6, 7, 8, 9, 10, 11, 12, 13, 14, 15, 16, 17, 18, 19, 20, 21, 22, 23, 24, 25, 26, 27, 28, 29, 30, 31, 32, 33, 34] 32 (by kernel_rfl) (by kernel_rfl) (by kernel_rfl) (mediaT B name port A1 A2 A3 A4 A5 A6 A7 A8 n1 n4 n5 n7 c1 c2 c3 c4 c5 c6 c7 c8 lp lf lb la) (Ch (fun _ => False)) (Ch.refl _) (fun _ _ _ => Ch.trans) (fun _ _ _ _ => mediaT_stays) [13, 16] ?_ (by kernel_rfl) ?_ ?_
  · intro d hd v W' k hT hk
    simp only [List.mem_cons, List.not_mem_nil, or_false] at hd
    rcases hd with rfl | rfl
    · obtain ⟨SA, c, rfl, ho⟩ : ∃ (SA : Option Addr) (c : Nat), v = .slice SA lp.length c ∧ W'.ownsRow B 9 1 (.slice SA lp.length c) lp.length (lp.flatMap strC) := hT
      exact (ho.lt k hk).2
    · obtain ⟨SA, c, rfl, ho⟩ : ∃ (SA : Option Addr) (c : Nat), v = .slice SA lf.length c ∧ W'.ownsRow B 9 1 (.slice SA lf.length c) lf.length (lf.flatMap strC) := hT
      exact (ho.lt k hk).2
  · intro i oo hi ho A W' hR hr hx hap K hK
    have hR0 := (Ch.of_heap (Ch.refl _ W0) (w' := W0.drew) rfl rfl rfl rfl).trans hR
    have hRw := HX.out.trans hR0
    have hB : W'.heap[B]? = some (.cells #[.string name, .int .i64 port, .slice A1 n1 c1, .slice A2 lp.length c2, .slice A3 lf.length c3, .slice A4 n4 c4, .slice A5 n5 c5, .slice A6 lb.length c6, .slice A7 n7 c7, .slice A8 la.length c8] 66 (0, 0)) := (hR0.block B (blk_lt HB.out) id).trans HB.out
    have hLW : B ≤ W'.heap.size := Nat.le_of_lt (blk_lt hB)
    have hm := HM.out.ch hRw
    have hl2 := H2.out.ch hRw
    have hl3 := H3.out.ch hRw
    have hl6 := H6.out.ch hRw
    have hl8 := H8.out.ch hRw
    clear hR hR0 hRw
    exact match i, hi, ho with
      | 0, _, ho => by
        obtain rfl := Option.some.inj ho
        have e1 : A.tmps[1]?.getD undef = .pointer (some ⟨B, 0, none⟩) := (eval_getD A 1).symm.trans (hx 1 (by decide))
        unfold Oper.wp execOp
        go_simp
        exact hK _ _ (fun d hd => by cases hd; exact rfl) (Ch.refl _ _) (fun d hd hF => by cases hd; exact absurd hF (by decide))
      | 1, _, ho => by
        obtain rfl := Option.some.inj ho
        have e3 : A.tmps[3]?.getD undef = .pointer (some ⟨B, 0, none⟩) := (eval_getD A 3).symm.trans (hr 3 (by decide) (by decide))
        have l0 : W'.cell? ⟨B, 0, none⟩ = some (.string name) := blk_cell hB rfl
        unfold Oper.wp execOp
        go_simp
        exact hK _ _ (fun d hd => by cases hd; exact rfl) (Ch.refl _ _) (fun d hd hF => by cases hd; exact absurd hF (by decide))
      | 2, _, ho => by
        obtain rfl := Option.some.inj ho
        have e1 : A.tmps[1]?.getD undef = .pointer (some ⟨B, 0, none⟩) := (eval_getD A 1).symm.trans (hx 1 (by decide))
        unfold Oper.wp execOp
        go_simp
        exact hK _ _ (fun d hd => by cases hd; exact rfl) (Ch.refl _ _) (fun d hd hF => by cases hd; exact absurd hF (by decide))
      | 3, _, ho => by
        obtain rfl := Option.some.inj ho
        have e5 : A.tmps[5]?.getD undef = .pointer (some ⟨B, 1, none⟩) := (eval_getD A 5).symm.trans (hr 5 (by decide) (by decide))
        have l0 : W'.cell? ⟨B, 1, none⟩ = some (.int .i64 port) := blk_cell hB rfl
        unfold Oper.wp execOp
        go_simp
        exact hK _ _ (fun d hd => by cases hd; exact rfl) (Ch.refl _ _) (fun d hd hF => by cases hd; exact absurd hF (by decide))
      | 4, _, ho => by
        obtain rfl := Option.some.inj ho
        have e1 : A.tmps[1]?.getD undef = .pointer (some ⟨B, 0, none⟩) := (eval_getD A 1).symm.trans (hx 1 (by decide))
        unfold Oper.wp execOp
        go_simp
        exact hK _ _ (fun d hd => by cases hd; exact rfl) (Ch.refl _ _) (fun d hd hF => by cases hd; exact absurd hF (by decide))
      | 5, _, ho => by
        obtain rfl := Option.some.inj ho
        have e7 : A.tmps[7]?.getD undef = .pointer (some ⟨B, 2, none⟩) := (eval_getD A 7).symm.trans (hr 7 (by decide) (by decide))
        have l0 : W'.cell? ⟨B, 2, none⟩ = some (.slice A1 n1 c1) := blk_cell hB rfl
        unfold Oper.wp execOp
        go_simp
        exact hK _ _ (fun d hd => by cases hd; exact rfl) (Ch.refl _ _) (fun d hd hF => by cases hd; exact absurd hF (by decide))
      | 6, _, ho => by
        obtain rfl := Option.some.inj ho
        have e8 : A.tmps[8]?.getD undef = .slice A1 n1 c1 := (eval_getD A 8).symm.trans (hr 8 (by decide) (by decide))
        unfold Oper.wp execOp
        go_simp
        (go_at_call 104; refine (first_f104 hm.l1 hm.r1).mono ?_; rintro e W2 ⟨p, rfl, hp, hcp⟩)
        exact hK _ _ (fun d hd => by cases hd; exact ⟨p, rfl, hp⟩) (hcp) (fun d hd hF => by cases hd; exact absurd hF (by decide))
      | 7, _, ho => by
        obtain rfl := Option.some.inj ho
        have e6 : A.tmps[6]?.getD undef = .int .i64 port := (eval_getD A 6).symm.trans (hr 6 (by decide) (by decide))
        obtain ⟨p9, eq9_, p9_0⟩ : ∃ (p : Option Addr), A.eval (.tmp 9) = .pointer p ∧ Ptr W' 3 isInt p := hr 9 (by decide) (by decide)
        have e9 : A.tmps[9]?.getD undef = .pointer p9 := (eval_getD A 9).symm.trans eq9_
        unfold Oper.wp execOp
        go_simp
        exact hK _ _ (fun d hd => by cases hd; exact ⟨p9, rfl, p9_0⟩) (Ch.refl _ _) (fun d hd hF => by cases hd; exact absurd hF (by decide))
      | 8, _, ho => by
        obtain rfl := Option.some.inj ho
        have e1 : A.tmps[1]?.getD undef = .pointer (some ⟨B, 0, none⟩) := (eval_getD A 1).symm.trans (hx 1 (by decide))
        unfold Oper.wp execOp
        go_simp
        exact hK _ _ (fun d hd => by cases hd; exact rfl) (Ch.refl _ _) (fun d hd hF => by cases hd; exact absurd hF (by decide))
      | 9, _, ho => by
        obtain rfl := Option.some.inj ho
        have e11 : A.tmps[11]?.getD undef = .pointer (some ⟨B, 3, none⟩) := (eval_getD A 11).symm.trans (hr 11 (by decide) (by decide))
        have l0 : W'.cell? ⟨B, 3, none⟩ = some (.slice A2 lp.length c2) := blk_cell hB rfl
        unfold Oper.wp execOp
        go_simp
        exact hK _ _ (fun d hd => by cases hd; exact rfl) (Ch.refl _ _) (fun d hd hF => by cases hd; exact absurd hF (by decide))
      | 10, _, ho => by
        obtain rfl := Option.some.inj ho
        have e12 : A.tmps[12]?.getD undef = .slice A2 lp.length c2 := (eval_getD A 12).symm.trans (hr 12 (by decide) (by decide))
        unfold Oper.wp execOp
        go_simp
        (go_at_call 103; refine (clone_any hlp hl2).mono ?_; rintro e W2 ⟨v, rfl, ho, hcp⟩; obtain ⟨SA, c, rfl, _, _⟩ := Lst.of_own (f := strC) (fun _ => rfl) ho rfl)
        exact hK _ _ (fun d hd => by cases hd; exact ⟨_, _, rfl, owns_low ho hLW⟩) (hcp) (fun d hd _ k hk => by cases hd; exact (ho.lt k hk).1)
      | 11, _, ho => by
        obtain rfl := Option.some.inj ho
        have e1 : A.tmps[1]?.getD undef = .pointer (some ⟨B, 0, none⟩) := (eval_getD A 1).symm.trans (hx 1 (by decide))
        unfold Oper.wp execOp
        go_simp
        exact hK _ _ (fun d hd => by cases hd; exact rfl) (Ch.refl _ _) (fun d hd hF => by cases hd; exact absurd hF (by decide))
      | 12, _, ho => by
        obtain rfl := Option.some.inj ho
        have e14 : A.tmps[14]?.getD undef = .pointer (some ⟨B, 4, none⟩) := (eval_getD A 14).symm.trans (hr 14 (by decide) (by decide))
        have l0 : W'.cell? ⟨B, 4, none⟩ = some (.slice A3 lf.length c3) := blk_cell hB rfl
        unfold Oper.wp execOp
        go_simp
        exact hK _ _ (fun d hd => by cases hd; exact rfl) (Ch.refl _ _) (fun d hd hF => by cases hd; exact absurd hF (by decide))
      | 13, _, ho => by
        obtain rfl := Option.some.inj ho
        have e15 : A.tmps[15]?.getD undef = .slice A3 lf.length c3 := (eval_getD A 15).symm.trans (hr 15 (by decide) (by decide))
        unfold Oper.wp execOp
        go_simp
        (go_at_call 103; refine (clone_any hlf hl3).mono ?_; rintro e W2 ⟨v, rfl, ho, hcp⟩; obtain ⟨SA, c, rfl, _, _⟩ := Lst.of_own (f := strC) (fun _ => rfl) ho rfl)
        exact hK _ _ (fun d hd => by cases hd; exact ⟨_, _, rfl, owns_low ho hLW⟩) (hcp) (fun d hd _ k hk => by cases hd; exact (ho.lt k hk).1)
      | 14, _, ho => by
        obtain rfl := Option.some.inj ho
        have e4 : A.tmps[4]?.getD undef = .string name := (eval_getD A 4).symm.trans (hr 4 (by decide) (by decide))
        obtain ⟨p10, eq10_, p10_0⟩ : ∃ (p : Option Addr), A.eval (.tmp 10) = .agg #[.int .i64 port, .pointer p] ∧ Ptr W' 3 isInt p := hr 10 (by decide) (by decide)
        have e10 : A.tmps[10]?.getD undef = .agg #[.int .i64 port, .pointer p10] := (eval_getD A 10).symm.trans eq10_
        obtain ⟨SA13, c13, eq13_, p13_0⟩ : ∃ (SA : Option Addr) (c : Nat), A.eval (.tmp 13) = .slice SA lp.length c ∧ W'.ownsRow B 9 1 (.slice SA lp.length c) lp.length (lp.flatMap strC) := hr 13 (by decide) (by decide)
        have e13 : A.tmps[13]?.getD undef = .slice SA13 lp.length c13 := (eval_getD A 13).symm.trans eq13_
        obtain ⟨SA16, c16, eq16_, p16_0⟩ : ∃ (SA : Option Addr) (c : Nat), A.eval (.tmp 16) = .slice SA lf.length c ∧ W'.ownsRow B 9 1 (.slice SA lf.length c) lf.length (lf.flatMap strC) := hr 16 (by decide) (by decide)
        have e16 : A.tmps[16]?.getD undef = .slice SA16 lf.length c16 := (eval_getD A 16).symm.trans eq16_
        unfold Oper.wp execOp
        go_simp
        exact hK _ _ (fun d hd => by cases hd; exact ⟨p10, SA13, c13, SA16, c16, rfl, p10_0, p13_0, p16_0, fun k hk => by have h1 := hap 13 (by decide) 16 (by decide) (by decide) (by decide) (by decide) (by decide) (by decide) k (by rw [eq13_]; exact hk); rw [eq16_] at h1; exact h1⟩) (Ch.refl _ _) (fun d hd hF => by cases hd; exact absurd hF (by decide))
      | 15, _, ho => by
        obtain rfl := Option.some.inj ho
        have e1 : A.tmps[1]?.getD undef = .pointer (some ⟨B, 0, none⟩) := (eval_getD A 1).symm.trans (hx 1 (by decide))
        unfold Oper.wp execOp
        go_simp
        exact hK _ _ (fun d hd => by cases hd; exact rfl) (Ch.refl _ _) (fun d hd hF => by cases hd; exact absurd hF (by decide))
      | 16, _, ho => by
        obtain rfl := Option.some.inj ho
        have e18 : A.tmps[18]?.getD undef = .pointer (some ⟨B, 5, none⟩) := (eval_getD A 18).symm.trans (hr 18 (by decide) (by decide))
        have l0 : W'.cell? ⟨B, 5, none⟩ = some (.slice A4 n4 c4) := blk_cell hB rfl
        unfold Oper.wp execOp
        go_simp
        exact hK _ _ (fun d hd => by cases hd; exact rfl) (Ch.refl _ _) (fun d hd hF => by cases hd; exact absurd hF (by decide))
      | 17, _, ho => by
        obtain rfl := Option.some.inj ho
        have e19 : A.tmps[19]?.getD undef = .slice A4 n4 c4 := (eval_getD A 19).symm.trans (hr 19 (by decide) (by decide))
        unfold Oper.wp execOp
        go_simp
        (go_at_call 105; refine (first_f105 hm.l4 hm.r4).mono ?_; rintro e W2 ⟨p, rfl, hp, hcp⟩)
        exact hK _ _ (fun d hd => by cases hd; exact ⟨p, rfl, hp⟩) (hcp) (fun d hd hF => by cases hd; exact absurd hF (by decide))
      | 18, _, ho => by
        obtain rfl := Option.some.inj ho
        have e1 : A.tmps[1]?.getD undef = .pointer (some ⟨B, 0, none⟩) := (eval_getD A 1).symm.trans (hx 1 (by decide))
        unfold Oper.wp execOp
        go_simp
        exact hK _ _ (fun d hd => by cases hd; exact rfl) (Ch.refl _ _) (fun d hd hF => by cases hd; exact absurd hF (by decide))
      | 19, _, ho => by
        obtain rfl := Option.some.inj ho
        have e21 : A.tmps[21]?.getD undef = .pointer (some ⟨B, 6, none⟩) := (eval_getD A 21).symm.trans (hr 21 (by decide) (by decide))
        have l0 : W'.cell? ⟨B, 6, none⟩ = some (.slice A5 n5 c5) := blk_cell hB rfl
        unfold Oper.wp execOp
        go_simp
        exact hK _ _ (fun d hd => by cases hd; exact rfl) (Ch.refl _ _) (fun d hd hF => by cases hd; exact absurd hF (by decide))
      | 20, _, ho => by
        obtain rfl := Option.some.inj ho
        have e22 : A.tmps[22]?.getD undef = .slice A5 n5 c5 := (eval_getD A 22).symm.trans (hr 22 (by decide) (by decide))
        unfold Oper.wp execOp
        go_simp
        (go_at_call 106; refine (connection_any hm.l5 hm.r5).mono ?_; rintro e W2 ⟨p, rfl, hp, hcp⟩)
        exact hK _ _ (fun d hd => by cases hd; exact ⟨p, rfl, hp⟩) (hcp) (fun d hd hF => by cases hd; exact absurd hF (by decide))
      | 21, _, ho => by
        obtain rfl := Option.some.inj ho
        have e1 : A.tmps[1]?.getD undef = .pointer (some ⟨B, 0, none⟩) := (eval_getD A 1).symm.trans (hx 1 (by decide))
        unfold Oper.wp execOp
        go_simp
        exact hK _ _ (fun d hd => by cases hd; exact rfl) (Ch.refl _ _) (fun d hd hF => by cases hd; exact absurd hF (by decide))
      | 22, _, ho => by
        obtain rfl := Option.some.inj ho
        have e24 : A.tmps[24]?.getD undef = .pointer (some ⟨B, 7, none⟩) := (eval_getD A 24).symm.trans (hr 24 (by decide) (by decide))
        have l0 : W'.cell? ⟨B, 7, none⟩ = some (.slice A6 lb.length c6) := blk_cell hB rfl
        unfold Oper.wp execOp
        go_simp
        exact hK _ _ (fun d hd => by cases hd; exact rfl) (Ch.refl _ _) (fun d hd hF => by cases hd; exact absurd hF (by decide))
      | 23, _, ho => by
        obtain rfl := Option.some.inj ho
        have e25 : A.tmps[25]?.getD undef = .slice A6 lb.length c6 := (eval_getD A 25).symm.trans (hr 25 (by decide) (by decide))
        unfold Oper.wp execOp
        go_simp
        (go_at_call 107; refine (bandwidths_any hlb hl6).mono ?_; rintro e W2 ⟨v, rfl, ho, hcp⟩; obtain ⟨SA, c, rfl, _, _⟩ := Lst.of_own (f := bandC) (fun _ => rfl) ho rfl)
        exact hK _ _ (fun d hd => by cases hd; exact ⟨_, _, rfl, owns_low ho hLW⟩) (hcp) (fun d hd hF => by cases hd; exact absurd hF (by decide))
      | 24, _, ho => by
        obtain rfl := Option.some.inj ho
        have e1 : A.tmps[1]?.getD undef = .pointer (some ⟨B, 0, none⟩) := (eval_getD A 1).symm.trans (hx 1 (by decide))
        unfold Oper.wp execOp
        go_simp
        exact hK _ _ (fun d hd => by cases hd; exact rfl) (Ch.refl _ _) (fun d hd hF => by cases hd; exact absurd hF (by decide))
      | 25, _, ho => by
        obtain rfl := Option.some.inj ho
        have e27 : A.tmps[27]?.getD undef = .pointer (some ⟨B, 8, none⟩) := (eval_getD A 27).symm.trans (hr 27 (by decide) (by decide))
        have l0 : W'.cell? ⟨B, 8, none⟩ = some (.slice A7 n7 c7) := blk_cell hB rfl
        unfold Oper.wp execOp
        go_simp
        exact hK _ _ (fun d hd => by cases hd; exact rfl) (Ch.refl _ _) (fun d hd hF => by cases hd; exact absurd hF (by decide))
      | 26, _, ho => by
        obtain rfl := Option.some.inj ho
        have e28 : A.tmps[28]?.getD undef = .slice A7 n7 c7 := (eval_getD A 28).symm.trans (hr 28 (by decide) (by decide))
        unfold Oper.wp execOp
        go_simp
        (go_at_call 108; refine (first_f108 hm.l7 hm.r7).mono ?_; rintro e W2 ⟨p, rfl, hp, hcp⟩)
        exact hK _ _ (fun d hd => by cases hd; exact ⟨p, rfl, hp⟩) (hcp) (fun d hd hF => by cases hd; exact absurd hF (by decide))
      | 27, _, ho => by
        obtain rfl := Option.some.inj ho
        have e1 : A.tmps[1]?.getD undef = .pointer (some ⟨B, 0, none⟩) := (eval_getD A 1).symm.trans (hx 1 (by decide))
        unfold Oper.wp execOp
        go_simp
        exact hK _ _ (fun d hd => by cases hd; exact rfl) (Ch.refl _ _) (fun d hd hF => by cases hd; exact absurd hF (by decide))
      | 28, _, ho => by
        obtain rfl := Option.some.inj ho
        have e30 : A.tmps[30]?.getD undef = .pointer (some ⟨B, 9, none⟩) := (eval_getD A 30).symm.trans (hr 30 (by decide) (by decide))
        have l0 : W'.cell? ⟨B, 9, none⟩ = some (.slice A8 la.length c8) := blk_cell hB rfl
        unfold Oper.wp execOp
        go_simp
        exact hK _ _ (fun d hd => by cases hd; exact rfl) (Ch.refl _ _) (fun d hd hF => by cases hd; exact absurd hF (by decide))
      | 29, _, ho => by
        obtain rfl := Option.some.inj ho
        have e31 : A.tmps[31]?.getD undef = .slice A8 la.length c8 := (eval_getD A 31).symm.trans (hr 31 (by decide) (by decide))
        unfold Oper.wp execOp
        go_simp
        (go_at_call 109; refine (attributes_any hla hl8).mono ?_; rintro e W2 ⟨v, rfl, ho, hcp⟩; obtain ⟨SA, c, rfl, _, _⟩ := Lst.of_own (f := attrC) (fun _ => rfl) ho rfl)
        exact hK _ _ (fun d hd => by cases hd; exact ⟨_, _, rfl, owns_low ho hLW⟩) (hcp) (fun d hd hF => by cases hd; exact absurd hF (by decide))
      | 30, _, ho => by
        obtain rfl := Option.some.inj ho
        obtain ⟨p17, SA17, c17, SB17, d17, eq17_, p17_0, p17_1, p17_2, p17_3⟩ : ∃ (p : Option Addr) (SA : Option Addr) (c : Nat) (SB : Option Addr) (d : Nat), A.eval (.tmp 17) = .agg #[.string name, .int .i64 port, .pointer p, .slice SA lp.length c, .slice SB lf.length d] ∧ Ptr W' 3 isInt p ∧ W'.ownsRow B 9 1 (.slice SA lp.length c) lp.length (lp.flatMap strC) ∧ W'.ownsRow B 9 1 (.slice SB lf.length d) lf.length (lf.flatMap strC) ∧ ∀ k, (Value.slice SA lp.length c).ownBlock = some k → (Value.slice SB lf.length d).ownBlock ≠ some k := hr 17 (by decide) (by decide)
        have e17 : A.tmps[17]?.getD undef = .agg #[.string name, .int .i64 port, .pointer p17, .slice SA17 lp.length c17, .slice SB17 lf.length d17] := (eval_getD A 17).symm.trans eq17_
        obtain ⟨p20, eq20_, p20_0⟩ : ∃ (p : Option Addr), A.eval (.tmp 20) = .pointer p ∧ Ptr W' 179 isStr p := hr 20 (by decide) (by decide)
        have e20 : A.tmps[20]?.getD undef = .pointer p20 := (eval_getD A 20).symm.trans eq20_
        obtain ⟨p23, eq23_, p23_0⟩ : ∃ (p : Option Addr), A.eval (.tmp 23) = .pointer p ∧ Ptr W' 256 (sConn W') p := hr 23 (by decide) (by decide)
        have e23 : A.tmps[23]?.getD undef = .pointer p23 := (eval_getD A 23).symm.trans eq23_
        obtain ⟨SA26, c26, eq26_, p26_0⟩ : ∃ (SA : Option Addr) (c : Nat), A.eval (.tmp 26) = .slice SA lb.length c ∧ W'.ownsRow B 134 3 (.slice SA lb.length c) lb.length (lb.flatMap bandC) := hr 26 (by decide) (by decide)
        have e26 : A.tmps[26]?.getD undef = .slice SA26 lb.length c26 := (eval_getD A 26).symm.trans eq26_
        obtain ⟨p29, eq29_, p29_0⟩ : ∃ (p : Option Addr), A.eval (.tmp 29) = .pointer p ∧ Ptr W' 187 isStr p := hr 29 (by decide) (by decide)
        have e29 : A.tmps[29]?.getD undef = .pointer p29 := (eval_getD A 29).symm.trans eq29_
        obtain ⟨SA32, c32, eq32_, p32_0⟩ : ∃ (SA : Option Addr) (c : Nat), A.eval (.tmp 32) = .slice SA la.length c ∧ W'.ownsRow B 240 2 (.slice SA la.length c) la.length (la.flatMap attrC) := hr 32 (by decide) (by decide)
        have e32 : A.tmps[32]?.getD undef = .slice SA32 la.length c32 := (eval_getD A 32).symm.trans eq32_
        unfold Oper.wp execOp
        go_simp
        exact hK _ _ (fun d hd => by cases hd; exact ⟨p17, SA17, c17, SB17, d17, p20, p23, SA26, c26, p29, SA32, c32, rfl, p17_0, p17_1, p17_2, p20_0, p23_0, p26_0, p29_0, p32_0, p17_3⟩) (Ch.refl _ _) (fun d hd hF => by cases hd; exact absurd hF (by decide))
      | 31, _, ho => by
        obtain rfl := Option.some.inj ho
        obtain ⟨p33, SA33, c33, SB33, d33, q33, r33, SC33, m33, t33, SD33, f33, eq33_, p33_0, p33_1, p33_2, p33_3, p33_4, p33_5, p33_6, p33_7, p33_8⟩ : ∃ (p : Option Addr) (SA : Option Addr) (c : Nat) (SB : Option Addr) (d : Nat) (q : Option Addr) (r : Option Addr) (SC : Option Addr) (m : Nat) (t : Option Addr) (SD : Option Addr) (f : Nat), A.eval (.tmp 33) = .agg #[.string name, .int .i64 port, .pointer p, .slice SA lp.length c, .slice SB lf.length d, .pointer q, .pointer r, .slice SC lb.length m, .pointer t, .slice SD la.length f] ∧ Ptr W' 3 isInt p ∧ W'.ownsRow B 9 1 (.slice SA lp.length c) lp.length (lp.flatMap strC) ∧ W'.ownsRow B 9 1 (.slice SB lf.length d) lf.length (lf.flatMap strC) ∧ Ptr W' 179 isStr q ∧ Ptr W' 256 (sConn W') r ∧ W'.ownsRow B 134 3 (.slice SC lb.length m) lb.length (lb.flatMap bandC) ∧ Ptr W' 187 isStr t ∧ W'.ownsRow B 240 2 (.slice SD la.length f) la.length (la.flatMap attrC) ∧ ∀ k, (Value.slice SA lp.length c).ownBlock = some k → (Value.slice SB lf.length d).ownBlock ≠ some k := hr 33 (by decide) (by decide)
        have e33 : A.tmps[33]?.getD undef = .agg #[.string name, .int .i64 port, .pointer p33, .slice SA33 lp.length c33, .slice SB33 lf.length d33, .pointer q33, .pointer r33, .slice SC33 lb.length m33, .pointer t33, .slice SD33 la.length f33] := (eval_getD A 33).symm.trans eq33_
        have hcn := (Ch.grown (S := fun _ => False) (World.grownBy_alloc W' (.cells #[.string name, .int .i64 port, .pointer p33, .slice SA33 lp.length c33, .slice SB33 lf.length d33, .pointer q33, .pointer r33, .slice SC33 lb.length m33, .pointer t33, .slice SD33 la.length f33] 226) none) (by simp))
        unfold Oper.wp execOp
        go_simp
        exact hK _ _ (fun d hd => by cases hd; exact ⟨_, p33, SA33, c33, SB33, d33, q33, r33, SC33, m33, t33, SD33, f33, rfl, hLW, heap_alloc_new _ _, p33_0.ch hcn, own_ch p33_1 hcn, own_ch p33_2 hcn, p33_3.ch hcn, (p33_4.ch hcn).mono fun _ k => sConn.ch k hcn, own_ch p33_5 hcn, p33_6.ch hcn, own_ch p33_7 hcn, p33_8⟩) (hcn) (fun d hd hF => by cases hd; exact absurd hF (by decide))
      | n + 32, hi, _ => absurd hi (by omega)

  · intro oo ho u W1 hR hu _
    obtain rfl := Option.some.inj ho
    obtain ⟨k, p, SA, c, SB, d, q, r, SC, m, t, SD, f, hv, hres⟩ : ∃ (k : Nat) (p : Option Addr) (SA : Option Addr) (c : Nat) (SB : Option Addr) (d : Nat) (q : Option Addr) (r : Option Addr) (SC : Option Addr) (m : Nat) (t : Option Addr) (SD : Option Addr) (f : Nat), u 34 = .pointer (some ⟨k, 0, none⟩) ∧ B ≤ k ∧ W1.heap[k]? = some (.cells #[.string name, .int .i64 port, .pointer p, .slice SA lp.length c, .slice SB lf.length d, .pointer q, .pointer r, .slice SC lb.length m, .pointer t, .slice SD la.length f] 226 (0, 0)) ∧ Ptr W1 3 isInt p ∧ W1.ownsRow B 9 1 (.slice SA lp.length c) lp.length (lp.flatMap strC) ∧ W1.ownsRow B 9 1 (.slice SB lf.length d) lf.length (lf.flatMap strC) ∧ Ptr W1 179 isStr q ∧ Ptr W1 256 (sConn W1) r ∧ W1.ownsRow B 134 3 (.slice SC lb.length m) lb.length (lb.flatMap bandC) ∧ Ptr W1 187 isStr t ∧ W1.ownsRow B 240 2 (.slice SD la.length f) la.length (la.flatMap attrC) ∧ ∀ k, (Value.slice SA lp.length c).ownBlock = some k → (Value.slice SB lf.length d).ownBlock ≠ some k := hu 34 (by decide)
    have HC := Lib.hid (HX.out.trans ((Ch.of_heap (Ch.refl _ W0) (w' := W0.drew) rfl rfl rfl rfl).trans hR))
    have HR := Lib.hid hres
    clear hR hu hres
    rw [media_frame, hv]
    unfold Oper.wp execOp
    go_simp
    clear hv
    go_wp2
    refine bodyPost_ret (v := .pointer (some ⟨k, 0, none⟩)) (by simp [results, Tryz.results65]) rfl ?_
    refine ⟨k, rfl, ⟨p, SA, c, SB, d, q, r, SC, m, t, SD, f, ?_⟩, HC.out⟩
    rw [hB]
    exact HR.out

/-- What a medium of the package reads. -/
def sMedia (name : ByteArray) (port : Int) (lf : List ByteArray) (la : List (ByteArray × ByteArray)) (w : World) (cs : List Value) : Prop :=
  ∃ (p q r t A1 A2 A3 A4 : Option Addr) (c1 c2 c3 c4 : Nat) (lp : List ByteArray) (lb : List (Bool × ByteArray × Int)), cs = [.string name, .int .i64 port, .pointer p, .slice A1 lp.length c1, .slice A2 lf.length c2, .pointer q, .pointer r, .slice A3 lb.length c3, .pointer t, .slice A4 la.length c4] ∧ (lp.length ≤ 2147483647 ∧ lf.length ≤ 2147483647 ∧ lb.length ≤ 2147483647 ∧ la.length ≤ 2147483647) ∧
    Ptr w 3 isInt p ∧ Ptr w 179 isStr q ∧ Ptr w 256 (sConn w) r ∧ Ptr w 187 isStr t ∧ Lst w 1 strC A1 lp ∧ Lst w 1 strC A2 lf ∧ Lst w 3 bandC A3 lb ∧ Lst w 2 attrC A4 la

/-- What mediaOf answers. -/
def MedBack (name : ByteArray) (port : Int) (lf : List ByteArray) (la : List (ByteArray × ByteArray)) (w : World) (e : Ending) (w' : World) : Prop :=
  ∃ (S1 : Option Addr) (m1 : Nat) (d1 : Nat) (S2 : Option Addr) (d2 : Nat) (S3 : Option Addr) (d3 : Nat) (S4 : Option Addr) (m4 : Nat) (d4 : Nat) (S5 : Option Addr) (m5 : Nat) (d5 : Nat) (S6 : Option Addr) (d6 : Nat) (S7 : Option Addr) (m7 : Nat) (d7 : Nat) (S8 : Option Addr) (d8 : Nat) (m2 m6 : Nat), e = .returned (.agg #[.string name, .int .i64 port, .slice S1 m1 d1, .slice S2 m2 d2, .slice S3 lf.length d3, .slice S4 m4 d4, .slice S5 m5 d5, .slice S6 m6 d6, .slice S7 m7 d7, .slice S8 la.length d8]) ∧ w'.ownsRow 0 9 1 (.slice S3 lf.length d3) lf.length (lf.flatMap strC) ∧ w'.ownsRow 0 73 2 (.slice S8 la.length d8) la.length (la.flatMap attrC) ∧ Ch (fun _ => False) w w'

def medOfT (B : Nat) (name : ByteArray) (port : Int) (p q r t : Option Addr) (A1 A2 A3 A4 : Option Addr) (c1 c2 c3 c4 : Nat) (lp lf : List ByteArray) (lb : List (Bool × ByteArray × Int)) (la : List (ByteArray × ByteArray)) (d : Nat) (v : Value) (W : World) : Prop :=
  match d with
  | 3 => v = .pointer (some ⟨B, 0, none⟩)
  | 4 => v = .pointer (some ⟨B, 0, none⟩)
  | 5 => v = .pointer (some ⟨B, 0, none⟩)
  | 6 => v = .pointer (some ⟨B, 0, none⟩)
  | 7 => v = .string name
  | 8 => v = .pointer (some ⟨B, 0, none⟩)
  | 9 => v = .pointer (some ⟨B, 0, none⟩)
  | 10 => v = .pointer (some ⟨B, 0, none⟩)
  | 11 => v = .pointer (some ⟨B, 1, none⟩)
  | 12 => v = .pointer (some ⟨B, 1, none⟩)
  | 13 => v = .int .i64 port
  | 14 => v = .pointer (some ⟨B, 0, none⟩)
  | 15 => v = .pointer (some ⟨B, 0, none⟩)
  | 16 => v = .pointer (some ⟨B, 0, none⟩)
  | 17 => v = .pointer (some ⟨B, 1, none⟩)
  | 18 => v = .pointer (some ⟨B, 2, none⟩)
  | 19 => v = .pointer p
  | 20 => ∃ (SA : Option Addr) (n : Nat) (c : Nat), v = .slice SA n c
  | 21 => v = .pointer (some ⟨B, 0, none⟩)
  | 22 => v = .pointer (some ⟨B, 0, none⟩)
  | 23 => v = .pointer (some ⟨B, 0, none⟩)
  | 24 => v = .pointer (some ⟨B, 3, none⟩)
  | 25 => v = .slice A1 lp.length c1
  | 26 => ∃ (SA : Option Addr) (c : Nat), v = .slice SA lp.length c ∧ W.ownsRow 0 9 1 (.slice SA lp.length c) lp.length (lp.flatMap strC)
  | 27 => v = .pointer (some ⟨B, 0, none⟩)
  | 28 => v = .pointer (some ⟨B, 0, none⟩)
  | 29 => v = .pointer (some ⟨B, 0, none⟩)
  | 30 => v = .pointer (some ⟨B, 4, none⟩)
  | 31 => v = .slice A2 lf.length c2
  | 32 => ∃ (SA : Option Addr) (c : Nat), v = .slice SA lf.length c ∧ W.ownsRow 0 9 1 (.slice SA lf.length c) lf.length (lf.flatMap strC)
  | 33 => v = .pointer (some ⟨B, 0, none⟩)
  | 34 => v = .pointer (some ⟨B, 0, none⟩)
  | 35 => v = .pointer (some ⟨B, 5, none⟩)
  | 36 => v = .pointer q
  | 37 => ∃ (SA : Option Addr) (n : Nat) (c : Nat), v = .slice SA n c
  | 38 => v = .pointer (some ⟨B, 0, none⟩)
  | 39 => v = .pointer (some ⟨B, 0, none⟩)
  | 40 => v = .pointer (some ⟨B, 6, none⟩)
  | 41 => v = .pointer r
  | 42 => ∃ (SA : Option Addr) (n : Nat) (c : Nat), v = .slice SA n c
  | 43 => v = .pointer (some ⟨B, 0, none⟩)
  | 44 => v = .pointer (some ⟨B, 0, none⟩)
  | 45 => v = .pointer (some ⟨B, 7, none⟩)
  | 46 => v = .slice A3 lb.length c3
  | 47 => ∃ (SA : Option Addr) (c : Nat), v = .slice SA lb.length c ∧ W.ownsRow 0 45 3 (.slice SA lb.length c) lb.length (lb.flatMap bandC)
  | 48 => v = .pointer (some ⟨B, 0, none⟩)
  | 49 => v = .pointer (some ⟨B, 0, none⟩)
  | 50 => v = .pointer (some ⟨B, 8, none⟩)
  | 51 => v = .pointer t
  | 52 => ∃ (SA : Option Addr) (n : Nat) (c : Nat), v = .slice SA n c
  | 53 => v = .pointer (some ⟨B, 0, none⟩)
  | 54 => v = .pointer (some ⟨B, 0, none⟩)
  | 55 => v = .pointer (some ⟨B, 9, none⟩)
  | 56 => v = .slice A4 la.length c4
  | 57 => ∃ (SA : Option Addr) (c : Nat), v = .slice SA la.length c ∧ W.ownsRow 0 73 2 (.slice SA la.length c) la.length (la.flatMap attrC)
  | 58 => ∃ (S1 : Option Addr) (m1 : Nat) (d1 : Nat) (S2 : Option Addr) (d2 : Nat) (S3 : Option Addr) (d3 : Nat) (S4 : Option Addr) (m4 : Nat) (d4 : Nat) (S5 : Option Addr) (m5 : Nat) (d5 : Nat) (S6 : Option Addr) (d6 : Nat) (S7 : Option Addr) (m7 : Nat) (d7 : Nat) (S8 : Option Addr) (d8 : Nat), v = .agg #[.string name, .int .i64 port, .slice S1 m1 d1, .slice S2 lp.length d2, .slice S3 lf.length d3, .slice S4 m4 d4, .slice S5 m5 d5, .slice S6 lb.length d6, .slice S7 m7 d7, .slice S8 la.length d8] ∧ W.ownsRow 0 9 1 (.slice S3 lf.length d3) lf.length (lf.flatMap strC) ∧ W.ownsRow 0 73 2 (.slice S8 la.length d8) la.length (la.flatMap attrC)
  | _ => True

theorem medOfT_stays {B : Nat} {name : ByteArray} {port : Int} {p q r t : Option Addr} {A1 A2 A3 A4 : Option Addr} {c1 c2 c3 c4 : Nat} {lp lf : List ByteArray} {lb : List (Bool × ByteArray × Int)} {la : List (ByteArray × ByteArray)} {d : Nat} {v : Value} {W W' : World} (h : medOfT B name port p q r t A1 A2 A3 A4 c1 c2 c3 c4 lp lf lb la d v W) (hc : Ch (fun _ => False) W W') : medOfT B name port p q r t A1 A2 A3 A4 c1 c2 c3 c4 lp lf lb la d v W' := by
  unfold medOfT at h ⊢
  split at h
  · exact h
  · exact h
  · exact h
  · exact h
  · exact h
  · exact h
  · exact h
  · exact h
  · exact h
  · exact h
  · exact h
  · exact h
  · exact h
  · exact h
  · exact h
  · exact h
  · exact h
  · obtain ⟨SA, n, c, eq_⟩ := h
    exact ⟨SA, n, c, eq_⟩
  · exact h
  · exact h
  · exact h
  · exact h
  · exact h
  · obtain ⟨SA, c, eq_, p0⟩ := h
    exact ⟨SA, c, eq_, own_ch p0 hc⟩
  · exact h
  · exact h
  · exact h
  · exact h
  · exact h
  · obtain ⟨SA, c, eq_, p0⟩ := h
    exact ⟨SA, c, eq_, own_ch p0 hc⟩
  · exact h
  · exact h
  · exact h
  · exact h
  · obtain ⟨SA, n, c, eq_⟩ := h
    exact ⟨SA, n, c, eq_⟩
  · exact h
  · exact h
  · exact h
  · exact h
  · obtain ⟨SA, n, c, eq_⟩ := h
    exact ⟨SA, n, c, eq_⟩
  · exact h
  · exact h
  · exact h
  · exact h
  · obtain ⟨SA, c, eq_, p0⟩ := h
    exact ⟨SA, c, eq_, own_ch p0 hc⟩
  · exact h
  · exact h
  · exact h
  · exact h
  · obtain ⟨SA, n, c, eq_⟩ := h
    exact ⟨SA, n, c, eq_⟩
  · exact h
  · exact h
  · exact h
  · exact h
  · obtain ⟨SA, c, eq_, p0⟩ := h
    exact ⟨SA, c, eq_, own_ch p0 hc⟩
  · obtain ⟨S1, m1, d1, S2, d2, S3, d3, S4, m4, d4, S5, m5, d5, S6, d6, S7, m7, d7, S8, d8, eq_, p0, p1⟩ := h
    exact ⟨S1, m1, d1, S2, d2, S3, d3, S4, m4, d4, S5, m5, d5, S6, d6, S7, m7, d7, S8, d8, eq_, own_ch p0 hc, own_ch p1 hc⟩
  · trivial

set_option maxRecDepth 100000 in
theorem medOf_frame (x0 x1 x2 x3 x4 x5 x6 x7 x8 x9 x10 x11 x12 x13 x14 x15 x16 x17 x18 x19 x20 x21 x22 x23 x24 x25 x26 x27 x28 x29 x30 x31 x32 x33 x34 x35 x36 x37 x38 x39 x40 x41 x42 x43 x44 x45 x46 x47 x48 x49 x50 x51 x52 x53 x54 x55 x56 x57 x58 : Value) (d : List Deferred) (u : Nat → Value) : frameOf ⟨#[x0, x1, x2, x3, x4, x5, x6, x7, x8, x9, x10, x11, x12, x13, x14, x15, x16, x17, x18, x19, x20, x21, x22, x23, x24, x25, x26, x27, x28, x29, x30, x31, x32, x33, x34, x35, x36, x37, x38, x39, x40, x41, x42, x43, x44, x45, x46, x47, x48, x49, x50, x51, x52, x53, x54, x55, x56, x57, x58], d⟩ [3, 4, 5, 6, 7, 8, 9, 10, 11, 12, 13, 14, 15, 16, 17, 18, 19, 20, 21, 22, 23, 24, 25, 26, 27, 28, 29, 30, 31, 32, 33, 34, 35, 36, 37, 38, 39, 40, 41, 42, 43, 44, 45, 46, 47, 48, 49, 50, 51, 52, 53, 54, 55, 56, 57, 58] u = ⟨#[x0, x1, x2, u 3, u 4, u 5, u 6, u 7, u 8, u 9, u 10, u 11, u 12, u 13, u 14, u 15, u 16, u 17, u 18, u 19, u 20, u 21, u 22, u 23, u 24, u 25, u 26, u 27, u 28, u 29, u 30, u 31, u 32, u 33, u 34, u 35, u 36, u 37, u 38, u 39, u 40, u 41, u 42, u 43, u 44, u 45, u 46, u 47, u 48, u 49, u 50, u 51, u 52, u 53, u 54, u 55, u 56, u 57, u 58], d⟩ := by kernel_rfl

theorem Tryz.size66 : (Tryz.prog.info? 66).map (·.size) = some 10 := by kernel_rfl
set_option maxRecDepth 100000 in
set_option maxHeartbeats 4000000 in
theorem mediaOf_any {B : Nat} {cs : List Value} {name : ByteArray} {port : Int} {lf : List ByteArray} {la : List (ByteArray × ByteArray)} {w : World} (hA : At w B cs) (h : sMedia name port lf la w cs) :
    Calls Tryz.prog 64 #[.pointer (some ⟨B, 0, none⟩)] w (MedBack name port lf la w) := by
  obtain ⟨p, q, r, t, A1, A2, A3, A4, c1, c2, c3, c4, lp, lb, rfl, ⟨hlp, hlf, hlb, hla⟩, hp, hq, hr, ht, h1, h2, h3, h4⟩ := h
  have hcx : Ch (fun _ => False) w (w.alloc (.cells #[.string ⟨#[]⟩, .int .i64 0, .slice none 0 0, .slice none 0 0, .slice none 0 0, .slice none 0 0, .slice none 0 0, .slice none 0 0, .slice none 0 0, .slice none 0 0] 66)) := Ch.grown (World.grownBy_alloc _ _ none) (by simp)
  have hb : (w.alloc (.cells #[.string ⟨#[]⟩, .int .i64 0, .slice none 0 0, .slice none 0 0, .slice none 0 0, .slice none 0 0, .slice none 0 0, .slice none 0 0, .slice none 0 0, .slice none 0 0] 66)).heap[w.heap.size]? = some (.cells #[.string ⟨#[]⟩, .int .i64 0, .slice none 0 0, .slice none 0 0, .slice none 0 0, .slice none 0 0, .slice none 0 0, .slice none 0 0, .slice none 0 0, .slice none 0 0] 66 (0, 0)) := heap_alloc_new w _
  have HX := Lib.hid hcx
  have HB := Lib.hid hb
  have HA := Lib.hid hA
  have HP := Lib.hid hp
  have HQ := Lib.hid hq
  have HR := Lib.hid hr
  have HT := Lib.hid ht
  have H1 := Lib.hid h1
  have H2 := Lib.hid h2
  have H3 := Lib.hid h3
  have H4 := Lib.hid h4
  clear hA hp hq hr ht h1 h2 h3 h4 hcx hb
  go_enter Tryz.func64, Tryz.ntmps64
  go_upto_region 1 with fail
  generalize hk : w.heap.size = k at *
  generalize w.alloc (.cells #[.string ⟨#[]⟩, .int .i64 0, .slice none 0 0, .slice none 0 0, .slice none 0 0, .slice none 0 0, .slice none 0 0, .slice none 0 0, .slice none 0 0, .slice none 0 0] 66) = W0 at *
  refine wp_region_ops (by kernel_rfl) [3, 4, 5, 6, 7, 8, 9, 10, 11, 12, 13, 14, 15, 16, 17, 18, 19, 20, 21, 22, 23, 24, 25, 26, 27, 28, 29, 30, 31, 32, 33, 34, 35, 36, 37, 38, 39, 40, 41, 42, 43, 44, 45, 46, 47, 48, 49, 50, 51, 52, 53, 54, 55, 56, 57, 58] 56 (by kernel_rfl) (by kernel_rfl) (by kernel_rfl) (medOfT B name port p q r t A1 A2 A3 A4 c1 c2 c3 c4 lp lf lb la) (Ch (fun _ => False)) (Ch.refl _) (fun _ _ _ => Ch.trans) (fun _ _ _ _ => medOfT_stays) ?_ ?_
  · intro i oo hi ho A W' hR hr hx K hK
    have hR0 := (Ch.of_heap (Ch.refl _ W0) (w' := W0.drew) rfl rfl rfl rfl).trans hR
    have hRw := HX.out.trans hR0
    have hB := HA.out.ch hRw
    have hp := HP.out.ch hRw
    have hq := HQ.out.ch hRw
    have hr5 := (HR.out.ch hRw).mono fun _ k => sConn.ch k hRw
    have ht := HT.out.ch hRw
    have hl1 := H1.out.ch hRw
    have hl2 := H2.out.ch hRw
    have hl3 := H3.out.ch hRw
    have hl4 := H4.out.ch hRw
    clear hR hR0 hRw
    exact match i, hi, ho with
      | 0, _, ho => by
        obtain rfl := Option.some.inj ho
        have e0 : A.tmps[0]?.getD undef = .pointer (some ⟨B, 0, none⟩) := (eval_getD A 0).symm.trans (hx 0 (by decide))
        unfold Oper.wp execOp
        go_simp
        exact hK _ _ (fun d hd => by cases hd; exact rfl) (Ch.refl _ _)
      | 1, _, ho => by
        obtain rfl := Option.some.inj ho
        have e3 : A.tmps[3]?.getD undef = .pointer (some ⟨B, 0, none⟩) := (eval_getD A 3).symm.trans (hr 3 (by decide) (by decide))
        unfold Oper.wp execOp
        go_simp
        exact hK _ _ (fun d hd => by cases hd; exact rfl) (Ch.refl _ _)
      | 2, _, ho => by
        obtain rfl := Option.some.inj ho
        have e4 : A.tmps[4]?.getD undef = .pointer (some ⟨B, 0, none⟩) := (eval_getD A 4).symm.trans (hr 4 (by decide) (by decide))
        unfold Oper.wp execOp
        go_simp
        exact hK _ _ (fun d hd => by cases hd; exact rfl) (Ch.refl _ _)
      | 3, _, ho => by
        obtain rfl := Option.some.inj ho
        have e5 : A.tmps[5]?.getD undef = .pointer (some ⟨B, 0, none⟩) := (eval_getD A 5).symm.trans (hr 5 (by decide) (by decide))
        unfold Oper.wp execOp
        go_simp
        exact hK _ _ (fun d hd => by cases hd; exact rfl) (Ch.refl _ _)
      | 4, _, ho => by
        obtain rfl := Option.some.inj ho
        have e6 : A.tmps[6]?.getD undef = .pointer (some ⟨B, 0, none⟩) := (eval_getD A 6).symm.trans (hr 6 (by decide) (by decide))
        have l0 : W'.cell? ⟨B, 0, none⟩ = some (.string name) := hB 0 _ rfl
        unfold Oper.wp execOp
        go_simp
        exact hK _ _ (fun d hd => by cases hd; exact rfl) (Ch.refl _ _)
      | 5, _, ho => by
        obtain rfl := Option.some.inj ho
        have e0 : A.tmps[0]?.getD undef = .pointer (some ⟨B, 0, none⟩) := (eval_getD A 0).symm.trans (hx 0 (by decide))
        unfold Oper.wp execOp
        go_simp
        exact hK _ _ (fun d hd => by cases hd; exact rfl) (Ch.refl _ _)
      | 6, _, ho => by
        obtain rfl := Option.some.inj ho
        have e8 : A.tmps[8]?.getD undef = .pointer (some ⟨B, 0, none⟩) := (eval_getD A 8).symm.trans (hr 8 (by decide) (by decide))
        unfold Oper.wp execOp
        go_simp
        exact hK _ _ (fun d hd => by cases hd; exact rfl) (Ch.refl _ _)
      | 7, _, ho => by
        obtain rfl := Option.some.inj ho
        have e9 : A.tmps[9]?.getD undef = .pointer (some ⟨B, 0, none⟩) := (eval_getD A 9).symm.trans (hr 9 (by decide) (by decide))
        unfold Oper.wp execOp
        go_simp
        exact hK _ _ (fun d hd => by cases hd; exact rfl) (Ch.refl _ _)
      | 8, _, ho => by
        obtain rfl := Option.some.inj ho
        have e10 : A.tmps[10]?.getD undef = .pointer (some ⟨B, 0, none⟩) := (eval_getD A 10).symm.trans (hr 10 (by decide) (by decide))
        unfold Oper.wp execOp
        go_simp
        exact hK _ _ (fun d hd => by cases hd; exact rfl) (Ch.refl _ _)
      | 9, _, ho => by
        obtain rfl := Option.some.inj ho
        have e11 : A.tmps[11]?.getD undef = .pointer (some ⟨B, 1, none⟩) := (eval_getD A 11).symm.trans (hr 11 (by decide) (by decide))
        unfold Oper.wp execOp
        go_simp
        exact hK _ _ (fun d hd => by cases hd; exact rfl) (Ch.refl _ _)
      | 10, _, ho => by
        obtain rfl := Option.some.inj ho
        have e12 : A.tmps[12]?.getD undef = .pointer (some ⟨B, 1, none⟩) := (eval_getD A 12).symm.trans (hr 12 (by decide) (by decide))
        have l0 : W'.cell? ⟨B, 1, none⟩ = some (.int .i64 port) := hB 1 _ rfl
        unfold Oper.wp execOp
        go_simp
        exact hK _ _ (fun d hd => by cases hd; exact rfl) (Ch.refl _ _)
      | 11, _, ho => by
        obtain rfl := Option.some.inj ho
        have e0 : A.tmps[0]?.getD undef = .pointer (some ⟨B, 0, none⟩) := (eval_getD A 0).symm.trans (hx 0 (by decide))
        unfold Oper.wp execOp
        go_simp
        exact hK _ _ (fun d hd => by cases hd; exact rfl) (Ch.refl _ _)
      | 12, _, ho => by
        obtain rfl := Option.some.inj ho
        have e14 : A.tmps[14]?.getD undef = .pointer (some ⟨B, 0, none⟩) := (eval_getD A 14).symm.trans (hr 14 (by decide) (by decide))
        unfold Oper.wp execOp
        go_simp
        exact hK _ _ (fun d hd => by cases hd; exact rfl) (Ch.refl _ _)
      | 13, _, ho => by
        obtain rfl := Option.some.inj ho
        have e15 : A.tmps[15]?.getD undef = .pointer (some ⟨B, 0, none⟩) := (eval_getD A 15).symm.trans (hr 15 (by decide) (by decide))
        unfold Oper.wp execOp
        go_simp
        exact hK _ _ (fun d hd => by cases hd; exact rfl) (Ch.refl _ _)
      | 14, _, ho => by
        obtain rfl := Option.some.inj ho
        have e16 : A.tmps[16]?.getD undef = .pointer (some ⟨B, 0, none⟩) := (eval_getD A 16).symm.trans (hr 16 (by decide) (by decide))
        unfold Oper.wp execOp
        go_simp
        exact hK _ _ (fun d hd => by cases hd; exact rfl) (Ch.refl _ _)
      | 15, _, ho => by
        obtain rfl := Option.some.inj ho
        have e17 : A.tmps[17]?.getD undef = .pointer (some ⟨B, 1, none⟩) := (eval_getD A 17).symm.trans (hr 17 (by decide) (by decide))
        unfold Oper.wp execOp
        go_simp
        exact hK _ _ (fun d hd => by cases hd; exact rfl) (Ch.refl _ _)
      | 16, _, ho => by
        obtain rfl := Option.some.inj ho
        have e18 : A.tmps[18]?.getD undef = .pointer (some ⟨B, 2, none⟩) := (eval_getD A 18).symm.trans (hr 18 (by decide) (by decide))
        have l0 : W'.cell? ⟨B, 2, none⟩ = some (.pointer p) := hB 2 _ rfl
        unfold Oper.wp execOp
        go_simp
        exact hK _ _ (fun d hd => by cases hd; exact rfl) (Ch.refl _ _)
      | 17, _, ho => by
        obtain rfl := Option.some.inj ho
        have e19 : A.tmps[19]?.getD undef = .pointer p := (eval_getD A 19).symm.trans (hr 19 (by decide) (by decide))
        unfold Oper.wp execOp
        go_simp
        (go_at_call 102; refine (back_f102 hp).mono ?_; rintro e W2 ⟨_, _, _, rfl, hcp⟩)
        exact hK _ _ (fun d hd => by cases hd; exact ⟨_, _, _, rfl⟩) (hcp)
      | 18, _, ho => by
        obtain rfl := Option.some.inj ho
        have e0 : A.tmps[0]?.getD undef = .pointer (some ⟨B, 0, none⟩) := (eval_getD A 0).symm.trans (hx 0 (by decide))
        unfold Oper.wp execOp
        go_simp
        exact hK _ _ (fun d hd => by cases hd; exact rfl) (Ch.refl _ _)
      | 19, _, ho => by
        obtain rfl := Option.some.inj ho
        have e21 : A.tmps[21]?.getD undef = .pointer (some ⟨B, 0, none⟩) := (eval_getD A 21).symm.trans (hr 21 (by decide) (by decide))
        unfold Oper.wp execOp
        go_simp
        exact hK _ _ (fun d hd => by cases hd; exact rfl) (Ch.refl _ _)
      | 20, _, ho => by
        obtain rfl := Option.some.inj ho
        have e22 : A.tmps[22]?.getD undef = .pointer (some ⟨B, 0, none⟩) := (eval_getD A 22).symm.trans (hr 22 (by decide) (by decide))
        unfold Oper.wp execOp
        go_simp
        exact hK _ _ (fun d hd => by cases hd; exact rfl) (Ch.refl _ _)
      | 21, _, ho => by
        obtain rfl := Option.some.inj ho
        have e23 : A.tmps[23]?.getD undef = .pointer (some ⟨B, 0, none⟩) := (eval_getD A 23).symm.trans (hr 23 (by decide) (by decide))
        unfold Oper.wp execOp
        go_simp
        exact hK _ _ (fun d hd => by cases hd; exact rfl) (Ch.refl _ _)
      | 22, _, ho => by
        obtain rfl := Option.some.inj ho
        have e24 : A.tmps[24]?.getD undef = .pointer (some ⟨B, 3, none⟩) := (eval_getD A 24).symm.trans (hr 24 (by decide) (by decide))
        have l0 : W'.cell? ⟨B, 3, none⟩ = some (.slice A1 lp.length c1) := hB 3 _ rfl
        unfold Oper.wp execOp
        go_simp
        exact hK _ _ (fun d hd => by cases hd; exact rfl) (Ch.refl _ _)
      | 23, _, ho => by
        obtain rfl := Option.some.inj ho
        have e25 : A.tmps[25]?.getD undef = .slice A1 lp.length c1 := (eval_getD A 25).symm.trans (hr 25 (by decide) (by decide))
        unfold Oper.wp execOp
        go_simp
        (go_at_call 103; refine (clone_any hlp hl1).mono ?_; rintro e W2 ⟨v, rfl, ho, hcp⟩; obtain ⟨SA, c, rfl, _, _⟩ := Lst.of_own (f := strC) (fun _ => rfl) ho rfl)
        exact hK _ _ (fun d hd => by cases hd; exact ⟨_, _, rfl, owns_low ho (Nat.zero_le _)⟩) (hcp)
      | 24, _, ho => by
        obtain rfl := Option.some.inj ho
        have e0 : A.tmps[0]?.getD undef = .pointer (some ⟨B, 0, none⟩) := (eval_getD A 0).symm.trans (hx 0 (by decide))
        unfold Oper.wp execOp
        go_simp
        exact hK _ _ (fun d hd => by cases hd; exact rfl) (Ch.refl _ _)
      | 25, _, ho => by
        obtain rfl := Option.some.inj ho
        have e27 : A.tmps[27]?.getD undef = .pointer (some ⟨B, 0, none⟩) := (eval_getD A 27).symm.trans (hr 27 (by decide) (by decide))
        unfold Oper.wp execOp
        go_simp
        exact hK _ _ (fun d hd => by cases hd; exact rfl) (Ch.refl _ _)
      | 26, _, ho => by
        obtain rfl := Option.some.inj ho
        have e28 : A.tmps[28]?.getD undef = .pointer (some ⟨B, 0, none⟩) := (eval_getD A 28).symm.trans (hr 28 (by decide) (by decide))
        unfold Oper.wp execOp
        go_simp
        exact hK _ _ (fun d hd => by cases hd; exact rfl) (Ch.refl _ _)
      | 27, _, ho => by
        obtain rfl := Option.some.inj ho
        have e29 : A.tmps[29]?.getD undef = .pointer (some ⟨B, 0, none⟩) := (eval_getD A 29).symm.trans (hr 29 (by decide) (by decide))
        unfold Oper.wp execOp
        go_simp
        exact hK _ _ (fun d hd => by cases hd; exact rfl) (Ch.refl _ _)
      | 28, _, ho => by
        obtain rfl := Option.some.inj ho
        have e30 : A.tmps[30]?.getD undef = .pointer (some ⟨B, 4, none⟩) := (eval_getD A 30).symm.trans (hr 30 (by decide) (by decide))
        have l0 : W'.cell? ⟨B, 4, none⟩ = some (.slice A2 lf.length c2) := hB 4 _ rfl
        unfold Oper.wp execOp
        go_simp
        exact hK _ _ (fun d hd => by cases hd; exact rfl) (Ch.refl _ _)
      | 29, _, ho => by
        obtain rfl := Option.some.inj ho
        have e31 : A.tmps[31]?.getD undef = .slice A2 lf.length c2 := (eval_getD A 31).symm.trans (hr 31 (by decide) (by decide))
        unfold Oper.wp execOp
        go_simp
        (go_at_call 103; refine (clone_any hlf hl2).mono ?_; rintro e W2 ⟨v, rfl, ho, hcp⟩; obtain ⟨SA, c, rfl, _, _⟩ := Lst.of_own (f := strC) (fun _ => rfl) ho rfl)
        exact hK _ _ (fun d hd => by cases hd; exact ⟨_, _, rfl, owns_low ho (Nat.zero_le _)⟩) (hcp)
      | 30, _, ho => by
        obtain rfl := Option.some.inj ho
        have e0 : A.tmps[0]?.getD undef = .pointer (some ⟨B, 0, none⟩) := (eval_getD A 0).symm.trans (hx 0 (by decide))
        unfold Oper.wp execOp
        go_simp
        exact hK _ _ (fun d hd => by cases hd; exact rfl) (Ch.refl _ _)
      | 31, _, ho => by
        obtain rfl := Option.some.inj ho
        have e33 : A.tmps[33]?.getD undef = .pointer (some ⟨B, 0, none⟩) := (eval_getD A 33).symm.trans (hr 33 (by decide) (by decide))
        unfold Oper.wp execOp
        go_simp
        exact hK _ _ (fun d hd => by cases hd; exact rfl) (Ch.refl _ _)
      | 32, _, ho => by
        obtain rfl := Option.some.inj ho
        have e34 : A.tmps[34]?.getD undef = .pointer (some ⟨B, 0, none⟩) := (eval_getD A 34).symm.trans (hr 34 (by decide) (by decide))
        unfold Oper.wp execOp
        go_simp
        exact hK _ _ (fun d hd => by cases hd; exact rfl) (Ch.refl _ _)
      | 33, _, ho => by
        obtain rfl := Option.some.inj ho
        have e35 : A.tmps[35]?.getD undef = .pointer (some ⟨B, 5, none⟩) := (eval_getD A 35).symm.trans (hr 35 (by decide) (by decide))
        have l0 : W'.cell? ⟨B, 5, none⟩ = some (.pointer q) := hB 5 _ rfl
        unfold Oper.wp execOp
        go_simp
        exact hK _ _ (fun d hd => by cases hd; exact rfl) (Ch.refl _ _)
      | 34, _, ho => by
        obtain rfl := Option.some.inj ho
        have e36 : A.tmps[36]?.getD undef = .pointer q := (eval_getD A 36).symm.trans (hr 36 (by decide) (by decide))
        unfold Oper.wp execOp
        go_simp
        (go_at_call 89; refine (back_f89 hq).mono ?_; rintro e W2 ⟨_, _, _, rfl, hcp⟩)
        exact hK _ _ (fun d hd => by cases hd; exact ⟨_, _, _, rfl⟩) (hcp)
      | 35, _, ho => by
        obtain rfl := Option.some.inj ho
        have e0 : A.tmps[0]?.getD undef = .pointer (some ⟨B, 0, none⟩) := (eval_getD A 0).symm.trans (hx 0 (by decide))
        unfold Oper.wp execOp
        go_simp
        exact hK _ _ (fun d hd => by cases hd; exact rfl) (Ch.refl _ _)
      | 36, _, ho => by
        obtain rfl := Option.some.inj ho
        have e38 : A.tmps[38]?.getD undef = .pointer (some ⟨B, 0, none⟩) := (eval_getD A 38).symm.trans (hr 38 (by decide) (by decide))
        unfold Oper.wp execOp
        go_simp
        exact hK _ _ (fun d hd => by cases hd; exact rfl) (Ch.refl _ _)
      | 37, _, ho => by
        obtain rfl := Option.some.inj ho
        have e39 : A.tmps[39]?.getD undef = .pointer (some ⟨B, 0, none⟩) := (eval_getD A 39).symm.trans (hr 39 (by decide) (by decide))
        unfold Oper.wp execOp
        go_simp
        exact hK _ _ (fun d hd => by cases hd; exact rfl) (Ch.refl _ _)
      | 38, _, ho => by
        obtain rfl := Option.some.inj ho
        have e40 : A.tmps[40]?.getD undef = .pointer (some ⟨B, 6, none⟩) := (eval_getD A 40).symm.trans (hr 40 (by decide) (by decide))
        have l0 : W'.cell? ⟨B, 6, none⟩ = some (.pointer r) := hB 6 _ rfl
        unfold Oper.wp execOp
        go_simp
        exact hK _ _ (fun d hd => by cases hd; exact rfl) (Ch.refl _ _)
      | 39, _, ho => by
        obtain rfl := Option.some.inj ho
        have e41 : A.tmps[41]?.getD undef = .pointer r := (eval_getD A 41).symm.trans (hr 41 (by decide) (by decide))
        unfold Oper.wp execOp
        go_simp
        (go_at_call 92; refine (connections_any hr5).mono ?_; rintro e W2 ⟨_, _, _, rfl, hcp⟩)
        exact hK _ _ (fun d hd => by cases hd; exact ⟨_, _, _, rfl⟩) (hcp)
      | 40, _, ho => by
        obtain rfl := Option.some.inj ho
        have e0 : A.tmps[0]?.getD undef = .pointer (some ⟨B, 0, none⟩) := (eval_getD A 0).symm.trans (hx 0 (by decide))
        unfold Oper.wp execOp
        go_simp
        exact hK _ _ (fun d hd => by cases hd; exact rfl) (Ch.refl _ _)
      | 41, _, ho => by
        obtain rfl := Option.some.inj ho
        have e43 : A.tmps[43]?.getD undef = .pointer (some ⟨B, 0, none⟩) := (eval_getD A 43).symm.trans (hr 43 (by decide) (by decide))
        unfold Oper.wp execOp
        go_simp
        exact hK _ _ (fun d hd => by cases hd; exact rfl) (Ch.refl _ _)
      | 42, _, ho => by
        obtain rfl := Option.some.inj ho
        have e44 : A.tmps[44]?.getD undef = .pointer (some ⟨B, 0, none⟩) := (eval_getD A 44).symm.trans (hr 44 (by decide) (by decide))
        unfold Oper.wp execOp
        go_simp
        exact hK _ _ (fun d hd => by cases hd; exact rfl) (Ch.refl _ _)
      | 43, _, ho => by
        obtain rfl := Option.some.inj ho
        have e45 : A.tmps[45]?.getD undef = .pointer (some ⟨B, 7, none⟩) := (eval_getD A 45).symm.trans (hr 45 (by decide) (by decide))
        have l0 : W'.cell? ⟨B, 7, none⟩ = some (.slice A3 lb.length c3) := hB 7 _ rfl
        unfold Oper.wp execOp
        go_simp
        exact hK _ _ (fun d hd => by cases hd; exact rfl) (Ch.refl _ _)
      | 44, _, ho => by
        obtain rfl := Option.some.inj ho
        have e46 : A.tmps[46]?.getD undef = .slice A3 lb.length c3 := (eval_getD A 46).symm.trans (hr 46 (by decide) (by decide))
        unfold Oper.wp execOp
        go_simp
        (go_at_call 93; refine (bandwidthsOf_any hlb hl3).mono ?_; rintro e W2 ⟨v, rfl, ho, hcp⟩; obtain ⟨SA, c, rfl, _, _⟩ := Lst.of_own (f := bandC) (fun _ => rfl) ho rfl)
        exact hK _ _ (fun d hd => by cases hd; exact ⟨_, _, rfl, owns_low ho (Nat.zero_le _)⟩) (hcp)
      | 45, _, ho => by
        obtain rfl := Option.some.inj ho
        have e0 : A.tmps[0]?.getD undef = .pointer (some ⟨B, 0, none⟩) := (eval_getD A 0).symm.trans (hx 0 (by decide))
        unfold Oper.wp execOp
        go_simp
        exact hK _ _ (fun d hd => by cases hd; exact rfl) (Ch.refl _ _)
      | 46, _, ho => by
        obtain rfl := Option.some.inj ho
        have e48 : A.tmps[48]?.getD undef = .pointer (some ⟨B, 0, none⟩) := (eval_getD A 48).symm.trans (hr 48 (by decide) (by decide))
        unfold Oper.wp execOp
        go_simp
        exact hK _ _ (fun d hd => by cases hd; exact rfl) (Ch.refl _ _)
      | 47, _, ho => by
        obtain rfl := Option.some.inj ho
        have e49 : A.tmps[49]?.getD undef = .pointer (some ⟨B, 0, none⟩) := (eval_getD A 49).symm.trans (hr 49 (by decide) (by decide))
        unfold Oper.wp execOp
        go_simp
        exact hK _ _ (fun d hd => by cases hd; exact rfl) (Ch.refl _ _)
      | 48, _, ho => by
        obtain rfl := Option.some.inj ho
        have e50 : A.tmps[50]?.getD undef = .pointer (some ⟨B, 8, none⟩) := (eval_getD A 50).symm.trans (hr 50 (by decide) (by decide))
        have l0 : W'.cell? ⟨B, 8, none⟩ = some (.pointer t) := hB 8 _ rfl
        unfold Oper.wp execOp
        go_simp
        exact hK _ _ (fun d hd => by cases hd; exact rfl) (Ch.refl _ _)
      | 49, _, ho => by
        obtain rfl := Option.some.inj ho
        have e51 : A.tmps[51]?.getD undef = .pointer t := (eval_getD A 51).symm.trans (hr 51 (by decide) (by decide))
        unfold Oper.wp execOp
        go_simp
        (go_at_call 94; refine (back_f94 ht).mono ?_; rintro e W2 ⟨_, _, _, rfl, hcp⟩)
        exact hK _ _ (fun d hd => by cases hd; exact ⟨_, _, _, rfl⟩) (hcp)
      | 50, _, ho => by
        obtain rfl := Option.some.inj ho
        have e0 : A.tmps[0]?.getD undef = .pointer (some ⟨B, 0, none⟩) := (eval_getD A 0).symm.trans (hx 0 (by decide))
        unfold Oper.wp execOp
        go_simp
        exact hK _ _ (fun d hd => by cases hd; exact rfl) (Ch.refl _ _)
      | 51, _, ho => by
        obtain rfl := Option.some.inj ho
        have e53 : A.tmps[53]?.getD undef = .pointer (some ⟨B, 0, none⟩) := (eval_getD A 53).symm.trans (hr 53 (by decide) (by decide))
        unfold Oper.wp execOp
        go_simp
        exact hK _ _ (fun d hd => by cases hd; exact rfl) (Ch.refl _ _)
      | 52, _, ho => by
        obtain rfl := Option.some.inj ho
        have e54 : A.tmps[54]?.getD undef = .pointer (some ⟨B, 0, none⟩) := (eval_getD A 54).symm.trans (hr 54 (by decide) (by decide))
        unfold Oper.wp execOp
        go_simp
        exact hK _ _ (fun d hd => by cases hd; exact rfl) (Ch.refl _ _)
      | 53, _, ho => by
        obtain rfl := Option.some.inj ho
        have e55 : A.tmps[55]?.getD undef = .pointer (some ⟨B, 9, none⟩) := (eval_getD A 55).symm.trans (hr 55 (by decide) (by decide))
        have l0 : W'.cell? ⟨B, 9, none⟩ = some (.slice A4 la.length c4) := hB 9 _ rfl
        unfold Oper.wp execOp
        go_simp
        exact hK _ _ (fun d hd => by cases hd; exact rfl) (Ch.refl _ _)
      | 54, _, ho => by
        obtain rfl := Option.some.inj ho
        have e56 : A.tmps[56]?.getD undef = .slice A4 la.length c4 := (eval_getD A 56).symm.trans (hr 56 (by decide) (by decide))
        unfold Oper.wp execOp
        go_simp
        (go_at_call 95; refine (attributesOf_any hla hl4).mono ?_; rintro e W2 ⟨v, rfl, ho, hcp⟩; obtain ⟨SA, c, rfl, _, _⟩ := Lst.of_own (f := attrC) (fun _ => rfl) ho rfl)
        exact hK _ _ (fun d hd => by cases hd; exact ⟨_, _, rfl, owns_low ho (Nat.zero_le _)⟩) (hcp)
      | 55, _, ho => by
        obtain rfl := Option.some.inj ho
        have e7 : A.tmps[7]?.getD undef = .string name := (eval_getD A 7).symm.trans (hr 7 (by decide) (by decide))
        have e13 : A.tmps[13]?.getD undef = .int .i64 port := (eval_getD A 13).symm.trans (hr 13 (by decide) (by decide))
        obtain ⟨SA20, n20, c20, eq20_⟩ : ∃ (SA : Option Addr) (n : Nat) (c : Nat), A.eval (.tmp 20) = .slice SA n c := hr 20 (by decide) (by decide)
        have e20 : A.tmps[20]?.getD undef = .slice SA20 n20 c20 := (eval_getD A 20).symm.trans eq20_
        obtain ⟨SA26, c26, eq26_, p26_0⟩ : ∃ (SA : Option Addr) (c : Nat), A.eval (.tmp 26) = .slice SA lp.length c ∧ W'.ownsRow 0 9 1 (.slice SA lp.length c) lp.length (lp.flatMap strC) := hr 26 (by decide) (by decide)
        have e26 : A.tmps[26]?.getD undef = .slice SA26 lp.length c26 := (eval_getD A 26).symm.trans eq26_
        obtain ⟨SA32, c32, eq32_, p32_0⟩ : ∃ (SA : Option Addr) (c : Nat), A.eval (.tmp 32) = .slice SA lf.length c ∧ W'.ownsRow 0 9 1 (.slice SA lf.length c) lf.length (lf.flatMap strC) := hr 32 (by decide) (by decide)
        have e32 : A.tmps[32]?.getD undef = .slice SA32 lf.length c32 := (eval_getD A 32).symm.trans eq32_
        obtain ⟨SA37, n37, c37, eq37_⟩ : ∃ (SA : Option Addr) (n : Nat) (c : Nat), A.eval (.tmp 37) = .slice SA n c := hr 37 (by decide) (by decide)
        have e37 : A.tmps[37]?.getD undef = .slice SA37 n37 c37 := (eval_getD A 37).symm.trans eq37_
        obtain ⟨SA42, n42, c42, eq42_⟩ : ∃ (SA : Option Addr) (n : Nat) (c : Nat), A.eval (.tmp 42) = .slice SA n c := hr 42 (by decide) (by decide)
        have e42 : A.tmps[42]?.getD undef = .slice SA42 n42 c42 := (eval_getD A 42).symm.trans eq42_
        obtain ⟨SA47, c47, eq47_, p47_0⟩ : ∃ (SA : Option Addr) (c : Nat), A.eval (.tmp 47) = .slice SA lb.length c ∧ W'.ownsRow 0 45 3 (.slice SA lb.length c) lb.length (lb.flatMap bandC) := hr 47 (by decide) (by decide)
        have e47 : A.tmps[47]?.getD undef = .slice SA47 lb.length c47 := (eval_getD A 47).symm.trans eq47_
        obtain ⟨SA52, n52, c52, eq52_⟩ : ∃ (SA : Option Addr) (n : Nat) (c : Nat), A.eval (.tmp 52) = .slice SA n c := hr 52 (by decide) (by decide)
        have e52 : A.tmps[52]?.getD undef = .slice SA52 n52 c52 := (eval_getD A 52).symm.trans eq52_
        obtain ⟨SA57, c57, eq57_, p57_0⟩ : ∃ (SA : Option Addr) (c : Nat), A.eval (.tmp 57) = .slice SA la.length c ∧ W'.ownsRow 0 73 2 (.slice SA la.length c) la.length (la.flatMap attrC) := hr 57 (by decide) (by decide)
        have e57 : A.tmps[57]?.getD undef = .slice SA57 la.length c57 := (eval_getD A 57).symm.trans eq57_
        unfold Oper.wp execOp
        go_simp
        exact hK _ _ (fun d hd => by cases hd; exact ⟨SA20, n20, c20, SA26, c26, SA32, c32, SA37, n37, c37, SA42, n42, c42, SA47, c47, SA52, n52, c52, SA57, c57, rfl, p32_0, p57_0⟩) (Ch.refl _ _)
      | n + 56, hi, _ => absurd hi (by omega)

  · intro oo ho u W1 hR hu
    obtain rfl := Option.some.inj ho
    obtain ⟨S1, m1, d1, S2, d2, S3, d3, S4, m4, d4, S5, m5, d5, S6, d6, S7, m7, d7, S8, d8, hv, hres⟩ : ∃ (S1 : Option Addr) (m1 : Nat) (d1 : Nat) (S2 : Option Addr) (d2 : Nat) (S3 : Option Addr) (d3 : Nat) (S4 : Option Addr) (m4 : Nat) (d4 : Nat) (S5 : Option Addr) (m5 : Nat) (d5 : Nat) (S6 : Option Addr) (d6 : Nat) (S7 : Option Addr) (m7 : Nat) (d7 : Nat) (S8 : Option Addr) (d8 : Nat), u 58 = .agg #[.string name, .int .i64 port, .slice S1 m1 d1, .slice S2 lp.length d2, .slice S3 lf.length d3, .slice S4 m4 d4, .slice S5 m5 d5, .slice S6 lb.length d6, .slice S7 m7 d7, .slice S8 la.length d8] ∧ W1.ownsRow 0 9 1 (.slice S3 lf.length d3) lf.length (lf.flatMap strC) ∧ W1.ownsRow 0 73 2 (.slice S8 la.length d8) la.length (la.flatMap attrC) := hu 58 (by decide)
    have hR0 := (Ch.of_heap (Ch.refl _ W0) (w' := W0.drew) rfl rfl rfl rfl).trans hR
    have hbk := (hR0.block k (blk_lt HB.out) id).trans HB.out
    rw [medOf_frame]
    refine wp_store_row 66 (.tmp 2) (.tmp 58) rfl k #[.string name, .int .i64 port, .slice S1 m1 d1, .slice S2 lp.length d2, .slice S3 lf.length d3, .slice S4 m4 d4, .slice S5 m5 d5, .slice S6 lb.length d6, .slice S7 m7 d7, .slice S8 la.length d8] _ 66 rfl hv hbk Tryz.size66 rfl (by kernel_rfl) ?_
    have hb2 := setRow_heap W1 k _ #[.string name, .int .i64 port, .slice S1 m1 d1, .slice S2 lp.length d2, .slice S3 lf.length d3, .slice S4 m4 d4, .slice S5 m5 d5, .slice S6 lb.length d6, .slice S7 m7 d7, .slice S8 la.length d8] 66 (0, 0) hbk
    have hc2 : Ch (fun _ => False) w (W1.setRow k #[.string name, .int .i64 port, .slice S1 m1 d1, .slice S2 lp.length d2, .slice S3 lf.length d3, .slice S4 m4 d4, .slice S5 m5 d5, .slice S6 lb.length d6, .slice S7 m7 d7, .slice S8 la.length d8]) := (HX.out.trans hR0).setRow (.inl (by rw [hk]; exact Nat.le_refl _)) _
    have hl3 := own_row hres.1 hbk (by decide) #[.string name, .int .i64 port, .slice S1 m1 d1, .slice S2 lp.length d2, .slice S3 lf.length d3, .slice S4 m4 d4, .slice S5 m5 d5, .slice S6 lb.length d6, .slice S7 m7 d7, .slice S8 la.length d8]
    have hl8 := own_row hres.2 hbk (by decide) #[.string name, .int .i64 port, .slice S1 m1 d1, .slice S2 lp.length d2, .slice S3 lf.length d3, .slice S4 m4 d4, .slice S5 m5 d5, .slice S6 lb.length d6, .slice S7 m7 d7, .slice S8 la.length d8]
    have HB2 := Lib.hid hb2
    have HC2 := Lib.hid hc2
    have HL3 := Lib.hid hl3
    have HL8 := Lib.hid hl8
    clear hR hu hres hR0 hbk hb2 hc2 hl3 hl8 hv
    generalize W1.setRow k #[.string name, .int .i64 port, .slice S1 m1 d1, .slice S2 lp.length d2, .slice S3 lf.length d3, .slice S4 m4 d4, .slice S5 m5 d5, .slice S6 lb.length d6, .slice S7 m7 d7, .slice S8 la.length d8] = W2 at *
    dsimp only [Act.put, Exit.then]
    go_wp2
    refine bodyPost_ret (v := .agg #[.string name, .int .i64 port, .slice S1 m1 d1, .slice S2 lp.length d2, .slice S3 lf.length d3, .slice S4 m4 d4, .slice S5 m5 d5, .slice S6 lb.length d6, .slice S7 m7 d7, .slice S8 la.length d8]) (results_cell_row Tryz.results64 _ _ k 66 _ (0, 0) _ rfl HB2.out Tryz.underlying66 rfl Tryz.size66) rfl ?_
    exact ⟨S1, m1, d1, S2, d2, S3, d3, S4, m4, d4, S5, m5, d5, S6, d6, S7, m7, d7, S8, d8, _, _, rfl, HL3.out, HL8.out, HC2.out⟩

end Go.Proofs.YtimonhimfioohaaGreatDoor
