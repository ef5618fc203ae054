/- WithCodec: a codec is added as a format, a map and its parameters. -/
import Derived.Test.YtimonhimfioohaaGreatDoorSourceLaw
namespace Go.Proofs.YtimonhimfioohaaGreatDoor
open Go.RowKit

theorem itoa_any (n : Nat) (hn : n ≤ 255) (w : World) (htab : Lib.TabIs Tryz.prog w "internal/strconv.uint64pow10" .u64 Lib.pow10Tab) :
    Calls Tryz.prog 117 #[.int .i64 n] w fun e w' => e = .returned (.string ⟨(Lib.decDigits n).toArray⟩) ∧ Ch (fun _ => False) w w' := by
  refine (Tryz.strconv_Itoa n (by omega) (by omega) w htab).mono ?_
  rintro e w' ⟨rfl, k, os, rfl⟩
  refine ⟨?_, (Ch.of_heap (Ch.refl _ w) (w' := w.drewN k) rfl rfl rfl rfl).trans (Ch.more (w.drewN k) os)⟩
  rw [Lib.itoa_nonneg]

def codO (SB : Option Addr) (n dd : Nat) (k : Nat) : Prop := Value.ownBlock (.slice SB n dd) = some k
def codS (O : Nat → Prop) (i : Nat) : World → World → Prop := match i with
  | 10 => Ch O
  | _ => Ch (fun _ => False)
theorem codS_ne {O : Nat → Prop} {i : Nat} (h : i ≠ 10) : codS O i = Ch (fun _ => False) := by
  unfold codS
  split
  · exact absurd rfl h
  · rfl
def codT (L Z b n dd pay : Nat) (SB : Option Addr) (xs : List Value) (D : ByteArray) (d : Nat) (v : Value) (W : World) : Prop :=
  match d with
  | 14 => v = .pointer (some ⟨b, 0, none⟩)
  | 15 => v = .pointer (some ⟨b, 0, none⟩)
  | 16 => v = .pointer (some ⟨b, 0, none⟩)
  | 17 => v = .pointer (some ⟨b, 0, none⟩)
  | 18 => v = .pointer (some ⟨b, 4, none⟩)
  | 19 => v = .slice SB n dd
  | 20 => v = .int .u8 pay
  | 21 => v = .int .i64 pay
  | 22 => v = .string D
  | 23 => ∃ (bk : Nat), v = .slice (some ⟨bk, 0, none⟩) 1 1 ∧ Z ≤ bk ∧ W.heap[bk]? = some (.cells #[.string D] 9 (0, 0))
  | 24 => ∃ (g : Nat) (c : Nat), v = .slice (some ⟨g, 0, none⟩) (n + 1) c ∧ W.ownsRow L 9 1 (.slice (some ⟨g, 0, none⟩) (n + 1) c) (n + 1) (xs ++ [.string D]) ∧ (Value.ownBlock (.slice SB n dd) = some g ∨ Z ≤ g)
  | 25 => v = .pointer (some ⟨b, 0, none⟩)
  | 26 => v = .pointer (some ⟨b, 0, none⟩)
  | 27 => v = .pointer (some ⟨b, 4, none⟩)
  | _ => True

theorem codT_stays {L Z b n dd pay : Nat} {SB : Option Addr} {xs : List Value} {D : ByteArray} {d : Nat} {v : Value} {W W' : World} (h : codT L Z b n dd pay SB xs D d v W) (hc : Ch (fun _ => False) W W') : codT L Z b n dd pay SB xs D d v W' := by
  unfold codT at h ⊢
  split at h
  · exact h
  · exact h
  · exact h
  · exact h
  · exact h
  · exact h
  · exact h
  · exact h
  · exact h
  · obtain ⟨bk, eq_, p0, p1⟩ := h
    exact ⟨bk, eq_, p0, (hc.block _ (blk_lt p1) id).trans p1⟩
  · obtain ⟨g, c, eq_, p0, p1⟩ := h
    exact ⟨g, c, eq_, own_ch p0 hc, p1⟩
  · exact h
  · exact h
  · exact h
  · trivial

theorem codT_staysO {L Z b n dd pay : Nat} {SB : Option Addr} {xs : List Value} {D : ByteArray} {k : Nat} {x : Value} {W W' : World} (hd : k ≠ 24) (hZ : ∀ j, codO SB n dd j → j < Z) (h : codT L Z b n dd pay SB xs D k x W) (hc : Ch (codO SB n dd) W W') : codT L Z b n dd pay SB xs D k x W' := by
  unfold codT at h ⊢
  split at h
  · exact h
  · exact h
  · exact h
  · exact h
  · exact h
  · exact h
  · exact h
  · exact h
  · exact h
  · obtain ⟨k, eq_, p0, p1⟩ := h
    exact ⟨k, eq_, p0, (hc.block _ (blk_lt p1) (fun hO => by have := hZ _ hO; omega)).trans p1⟩
  · exact absurd rfl hd
  · exact h
  · exact h
  · exact h
  · trivial

set_option maxRecDepth 100000 in
theorem cod_frame (x0 x1 x2 x3 x4 x5 x6 x7 x8 x9 x10 x11 x12 x13 x14 x15 x16 x17 x18 x19 x20 x21 x22 x23 x24 x25 x26 x27 x28 x29 x30 x31 x32 x33 x34 x35 x36 x37 x38 x39 x40 x41 x42 x43 x44 x45 x46 x47 x48 x49 x50 x51 x52 x53 x54 x55 x56 x57 x58 x59 x60 : Value) (d : List Deferred) (u : Nat → Value) : frameOf ⟨#[x0, x1, x2, x3, x4, x5, x6, x7, x8, x9, x10, x11, x12, x13, x14, x15, x16, x17, x18, x19, x20, x21, x22, x23, x24, x25, x26, x27, x28, x29, x30, x31, x32, x33, x34, x35, x36, x37, x38, x39, x40, x41, x42, x43, x44, x45, x46, x47, x48, x49, x50, x51, x52, x53, x54, x55, x56, x57, x58, x59, x60], d⟩ [14, 15, 16, 17, 18, 19, 20, 21, 22, 23, 24, 25, 26, 27] u = ⟨#[x0, x1, x2, x3, x4, x5, x6, x7, x8, x9, x10, x11, x12, x13, u 14, u 15, u 16, u 17, u 18, u 19, u 20, u 21, u 22, u 23, u 24, u 25, u 26, u 27, x28, x29, x30, x31, x32, x33, x34, x35, x36, x37, x38, x39, x40, x41, x42, x43, x44, x45, x46, x47, x48, x49, x50, x51, x52, x53, x54, x55, x56, x57, x58, x59, x60], d⟩ := by kernel_rfl

/-- What a codec adds to the attributes. -/
def codecAttrs (D nm Dz Dc fm : ByteArray) (ch : Nat) (lx : List (ByteArray × ByteArray)) : Prop :=
  ∃ V, ((ch = 0 ∧ V = D ++ (ByteArray.mk #[32]) ++ nm ++ (ByteArray.mk #[47]) ++ Dz) ∨ (0 < ch ∧ V = D ++ (ByteArray.mk #[32]) ++ nm ++ (ByteArray.mk #[47]) ++ Dz ++ ((ByteArray.mk #[47]) ++ Dc))) ∧
    ((fm.toList.isEmpty = true ∧ lx = [((ByteArray.mk #[114, 116, 112, 109, 97, 112]), V)]) ∨ (fm.toList.isEmpty = false ∧ lx = [((ByteArray.mk #[114, 116, 112, 109, 97, 112]), V), ((ByteArray.mk #[102, 109, 116, 112]), D ++ (ByteArray.mk #[32]) ++ fm)]))

set_option maxRecDepth 100000 in
set_option maxHeartbeats 4000000 in
theorem withCodec_any {L b pay z ch : Nat} {name nm fm : ByteArray} {port : Int} {lp lf : List ByteArray} {lb : List (Bool × ByteArray × Int)} {la lx : List (ByteArray × ByteArray)} {w : World} (h : MedOwn L b name port lp lf lb la w) (hL : 8 < L)
    (hpay : pay ≤ 255) (hz : z < 4294967296) (hch : ch ≤ 65535) (hnm : nm.size ≤ 2147483647) (hfm : fm.size ≤ 2147483647) (hlf : lf.length ≤ 20) (hla : la.length ≤ 20) (htab : Lib.TabIs Tryz.prog w "internal/strconv.uint64pow10" .u64 Lib.pow10Tab)
    (hlx : codecAttrs ⟨(Lib.decDigits pay).toArray⟩ nm ⟨(Lib.decDigits z).toArray⟩ ⟨(Lib.decDigits ch).toArray⟩ fm ch lx) :
    Calls Tryz.prog 75 #[.pointer (some ⟨b, 0, none⟩), .int .u8 pay, .string nm, .int .u32 z, .int .u16 ch, .string fm] w fun e w' => e = .returned (.pointer (some ⟨b, 0, none⟩)) ∧
      MedOwn L b name port lp (lf ++ [⟨(Lib.decDigits pay).toArray⟩]) lb (la ++ lx) w' ∧ Ch (fun j => L ≤ j) w w' := by
  obtain ⟨p, SA, c, SB, dd, q, r, SC, m, t, SD, f, hL0, hblk, h1, h2, h3, h4, h5, h6, h7, h8, h9⟩ := h
  have HB := Lib.hid hblk
  have HL := Lib.hid hL0
  have HO := Lib.hid h3
  have H1 := Lib.hid h1
  have H2 := Lib.hid h2
  have H4 := Lib.hid h4
  have H5 := Lib.hid h5
  have H6 := Lib.hid h6
  have H7 := Lib.hid h7
  have H8 := Lib.hid h8
  have H9 := Lib.hid h9
  have HNO := Lib.hid (show ∀ (j : Nat) (cs : Array Value) (T : TypeId) (fr : Nat × Nat), codO SB lf.length dd j → w.heap[j]? = some (.cells cs T fr) → T = 9 from fun j cs T fr hO hj => own_type h3 hO hj)
  have HZ := Lib.hid (show ∀ j, codO SB lf.length dd j → L ≤ j ∧ j < w.heap.size from fun j hO => h3.lt j hO)
  have HLX := Lib.hid hlx
  have HT := Lib.hid htab
  clear h1 h2 h3 h4 h5 h6 h7 h8 h9 hblk hL0 hlx htab
  obtain ⟨n, hn⟩ : ∃ n, lf.length = n := ⟨_, rfl⟩
  rw [hn] at HB HO HNO HZ H9 hlf
  have HN := Lib.hid hn
  clear hn
  obtain ⟨D, hD⟩ : ∃ D : ByteArray, (ByteArray.mk (Lib.decDigits pay).toArray) = D := ⟨_, rfl⟩
  have HD := Lib.hid hD
  clear hD
  go_enter Tryz.func75, Tryz.ntmps75
  go_upto_region 1 with fail
  obtain ⟨Z, hZ⟩ : ∃ Z, w.heap.size = Z := ⟨_, rfl⟩
  refine wp_region_ops2 (by kernel_rfl) [14, 15, 16, 17, 18, 19, 20, 21, 22, 23, 24, 25, 26, 27] 14 (by kernel_rfl) (by kernel_rfl) (by kernel_rfl) (codT L Z b n dd pay SB (lf.flatMap strC) D) (fun b' => if b' = true then Ch (codO SB n dd) else Ch (fun _ => False)) (codS (codO SB n dd)) 10 (fun _ => Ch.refl _ _) ?_ ?_ ?_ ?_
  · intro i b' w0 w1 w2 _ hib hR hS
    by_cases hi : i = 10
    · subst hi
      have hbf := hib rfl
      subst hbf
      exact ((show Ch (fun _ => False) w0 w1 from hR).mono (fun _ h => h.elim)).trans hS
    · rw [if_neg hi]
      rw [codS_ne hi] at hS
      cases b' with
      | false => exact (show Ch (fun _ => False) w0 w1 from hR).trans hS
      | true => exact (show Ch (codO SB n dd) w0 w1 from hR).trans (hS.mono (fun _ h => h.elim))
  · intro i d1 x w1 w2 _ hdst hT hS
    by_cases hi : i = 10
    · subst hi
      exact codT_staysO (fun e => hdst (by subst e; rfl)) (fun j hj => by rw [← hZ]; exact (HZ.out j hj).2) hT hS
    · rw [codS_ne hi] at hS
      exact codT_stays hT hS
  · intro i oo hi ho A b' W' hb hR hr hx K hK
    have hRO : Ch (codO SB n dd) w W' := by
      cases b' with
      | false => exact ((Ch.of_heap (Ch.refl _ w) (w' := w.drew) rfl rfl rfl rfl).trans (show Ch (fun _ => False) w.drew W' from hR)).mono (fun _ h => h.elim)
      | true => exact (Ch.of_heap (Ch.refl _ w) (w' := w.drew) rfl rfl rfl rfl).trans (show Ch (codO SB n dd) w.drew W' from hR)
    have hZW : Z ≤ W'.heap.size := by rw [← hZ]; exact hRO.size
    have hbb : W'.heap[b]? = some (.cells #[.string name, .int .i64 port, .pointer p, .slice SA lp.length c, .slice SB n dd, .pointer q, .pointer r, .slice SC lb.length m, .pointer t, .slice SD la.length f] 226 (0, 0)) := (hRO.block b (blk_lt HB.out) (fun hO => absurd (HNO.out _ _ _ _ hO HB.out) (by decide))).trans HB.out
    have hLW : L ≤ W'.heap.size := by have := blk_lt hbb; have := HL.out; omega
    have hwp : IntKind.i64.wrap (pay : Int) = pay := IntWalk.i64_in _ (by omega)
    have ht := tab_ch HT.out hRO (fun hO => by have := (HZ.out _ hO).1; omega)
    clear hRO
    generalize hxs : lf.flatMap strC = xs at *
    exact match i, hi, ho with
      | 0, _, ho => by
        obtain rfl := Option.some.inj ho
        have e0 : A.tmps[0]?.getD undef = .pointer (some ⟨b, 0, none⟩) := (eval_getD A 0).symm.trans (hx 0 (by decide))
        unfold Oper.wp execOp
        go_simp
        exact hK _ _ (fun d hd => by cases hd; exact rfl) (Ch.refl _ _)
      | 1, _, ho => by
        obtain rfl := Option.some.inj ho
        have e0 : A.tmps[0]?.getD undef = .pointer (some ⟨b, 0, none⟩) := (eval_getD A 0).symm.trans (hx 0 (by decide))
        unfold Oper.wp execOp
        go_simp
        exact hK _ _ (fun d hd => by cases hd; exact rfl) (Ch.refl _ _)
      | 2, _, ho => by
        obtain rfl := Option.some.inj ho
        have e15 : A.tmps[15]?.getD undef = .pointer (some ⟨b, 0, none⟩) := (eval_getD A 15).symm.trans (hr 15 (by decide) (by decide))
        unfold Oper.wp execOp
        go_simp
        exact hK _ _ (fun d hd => by cases hd; exact rfl) (Ch.refl _ _)
      | 3, _, ho => by
        obtain rfl := Option.some.inj ho
        have e16 : A.tmps[16]?.getD undef = .pointer (some ⟨b, 0, none⟩) := (eval_getD A 16).symm.trans (hr 16 (by decide) (by decide))
        unfold Oper.wp execOp
        go_simp
        exact hK _ _ (fun d hd => by cases hd; exact rfl) (Ch.refl _ _)
      | 4, _, ho => by
        obtain rfl := Option.some.inj ho
        have e17 : A.tmps[17]?.getD undef = .pointer (some ⟨b, 0, none⟩) := (eval_getD A 17).symm.trans (hr 17 (by decide) (by decide))
        unfold Oper.wp execOp
        go_simp
        exact hK _ _ (fun d hd => by cases hd; exact rfl) (Ch.refl _ _)
      | 5, _, ho => by
        obtain rfl := Option.some.inj ho
        have e18 : A.tmps[18]?.getD undef = .pointer (some ⟨b, 4, none⟩) := (eval_getD A 18).symm.trans (hr 18 (by decide) (by decide))
        have l0 : W'.cell? ⟨b, 4, none⟩ = some (.slice SB n dd) := blk_cell hbb rfl
        unfold Oper.wp execOp
        go_simp
        exact hK _ _ (fun d hd => by cases hd; exact rfl) (Ch.refl _ _)
      | 6, _, ho => by
        obtain rfl := Option.some.inj ho
        have e1 : A.tmps[1]?.getD undef = .int .u8 pay := (eval_getD A 1).symm.trans (hx 1 (by decide))
        unfold Oper.wp execOp
        go_simp
        exact hK _ _ (fun d hd => by cases hd; exact rfl) (Ch.refl _ _)
      | 7, _, ho => by
        obtain rfl := Option.some.inj ho
        have e20 : A.tmps[20]?.getD undef = .int .u8 pay := (eval_getD A 20).symm.trans (hr 20 (by decide) (by decide))
        unfold Oper.wp execOp
        go_simp
        exact hK _ _ (fun d hd => by cases hd; exact rfl) (Ch.refl _ _)
      | 8, _, ho => by
        obtain rfl := Option.some.inj ho
        have e21 : A.tmps[21]?.getD undef = .int .i64 pay := (eval_getD A 21).symm.trans (hr 21 (by decide) (by decide))
        unfold Oper.wp execOp
        go_simp
        (go_at_call 117; refine (itoa_any pay hpay W' ht).mono ?_; rintro e W2 ⟨rfl, hcp⟩)
        exact hK _ _ (fun d hd => by cases hd; exact congrArg Value.string HD.out) hcp
      | 9, _, ho => by
        obtain rfl := Option.some.inj ho
        have e22 : A.tmps[22]?.getD undef = .string D := (eval_getD A 22).symm.trans (hr 22 (by decide) (by decide))
        unfold Oper.wp execOp
        go_simp
        exact hK _ _ (fun d hd => by cases hd; exact ⟨_, rfl, hZW, heap_alloc_new _ _⟩) (Ch.grown (World.grownBy_alloc _ _ none) (by simp))
      | 10, _, ho => by
        obtain rfl := Option.some.inj ho
        obtain ⟨bk23, eq23_, p23_0, p23_1⟩ : ∃ (bk : Nat), A.eval (.tmp 23) = .slice (some ⟨bk, 0, none⟩) 1 1 ∧ Z ≤ bk ∧ W'.heap[bk]? = some (.cells #[.string D] 9 (0, 0)) := hr 23 (by decide) (by decide)
        have e23 : A.tmps[23]?.getD undef = .slice (some ⟨bk23, 0, none⟩) 1 1 := (eval_getD A 23).symm.trans eq23_
        have e19 : A.eval (.tmp 19) = .slice SB n dd := hr 19 (by decide) (by decide)
        have hown' : W'.ownsRow L 9 1 (.slice SB n dd) n xs := by
          have hbf := hb rfl
          subst hbf
          exact own_ch HO.out (((Ch.of_heap (Ch.refl _ w) (w' := w.drew) rfl rfl rfl rfl).trans hR : Ch (fun _ => False) w W'))
        obtain ⟨i0, hi0, hz0, hz1, hz2⟩ := info_parts Tryz.info9
        refine wp_append_lies _ (.tmp 19) (.tmp 23) 28 rfl L 9 i0 _ 1 16 Tryz.underlying28 hi0 hz0 hz1 hz2 rfl (by decide) (.slice SB n dd) n xs e19 hown' ⟨bk23, 0, none⟩ 1 1 [.string D] eq23_ rfl (World.news_of_block p23_1) (by simp [Value.oneCell']) (by decide) (by unfold maxLen; omega) (by omega) hLW _ rfl ?_
        intro g cap W2 hown2 hgrow2 hat hlt
        exact hK _ _ (fun d hd => by cases hd; exact ⟨g, cap, rfl, hown2, hat.imp id (fun e => by omega)⟩) (Ch.grown hgrow2 (fun j hj => hj))
      | 11, _, ho => by
        obtain rfl := Option.some.inj ho
        have e14 : A.tmps[14]?.getD undef = .pointer (some ⟨b, 0, none⟩) := (eval_getD A 14).symm.trans (hr 14 (by decide) (by decide))
        unfold Oper.wp execOp
        go_simp
        exact hK _ _ (fun d hd => by cases hd; exact rfl) (Ch.refl _ _)
      | 12, _, ho => by
        obtain rfl := Option.some.inj ho
        have e25 : A.tmps[25]?.getD undef = .pointer (some ⟨b, 0, none⟩) := (eval_getD A 25).symm.trans (hr 25 (by decide) (by decide))
        unfold Oper.wp execOp
        go_simp
        exact hK _ _ (fun d hd => by cases hd; exact rfl) (Ch.refl _ _)
      | 13, _, ho => by
        obtain rfl := Option.some.inj ho
        have e26 : A.tmps[26]?.getD undef = .pointer (some ⟨b, 0, none⟩) := (eval_getD A 26).symm.trans (hr 26 (by decide) (by decide))
        unfold Oper.wp execOp
        go_simp
        exact hK _ _ (fun d hd => by cases hd; exact rfl) (Ch.refl _ _)
      | n + 14, hi, _ => absurd hi (by omega)

  · intro oo ho u b' W3 hp hR hu
    have hbt := hp (by decide)
    subst hbt
    obtain rfl := Option.some.inj ho
    obtain ⟨g, cap, hv, hown, hat⟩ : ∃ g cap, u 24 = .slice (some ⟨g, 0, none⟩) (n + 1) cap ∧ W3.ownsRow L 9 1 (.slice (some ⟨g, 0, none⟩) (n + 1) cap) (n + 1) (lf.flatMap strC ++ [Value.string D]) ∧ (Value.ownBlock (.slice SB n dd) = some g ∨ Z ≤ g) := hu 24 (by decide)
    have hv2 : u 27 = .pointer (some ⟨b, 4, none⟩) := hu 27 (by decide)
    have hR0 := (Ch.of_heap (Ch.refl _ w) (w' := w.drew) rfl rfl rfl rfl).trans (show Ch (codO SB n dd) w.drew W3 from hR)
    have hbb : W3.heap[b]? = some (.cells #[.string name, .int .i64 port, .pointer p, .slice SA lp.length c, .slice SB n dd, .pointer q, .pointer r, .slice SC lb.length m, .pointer t, .slice SD la.length f] 226 (0, 0)) := (hR0.block b (blk_lt HB.out) (fun hO => absurd (HNO.out _ _ _ _ hO HB.out) (by decide))).trans HB.out
    have hf : W3.frozen? ⟨b, 4, none⟩ = false := blk_frozen hbb
    have hold : W3.cell? ⟨b, 4, none⟩ = some (.slice SB n dd) := blk_cell hbb rfl
    have hk : Kp 9 w (W3.setCell ⟨b, 4, none⟩ (.slice (some ⟨g, 0, none⟩) (n + 1) cap)) := fun j cs T fr hj h9 h226 => by
      have hj3 : W3.heap[j]? = some (.cells cs T fr) := (hR0.block j (blk_lt hj) (fun hO => h9 (HNO.out _ _ _ _ hO hj))).trans hj
      refine (blk_set_other _ (fun e => ?_)).trans hj3
      subst e
      rw [hbb] at hj3
      injection hj3 with hj3
      injection hj3 with _ ht
      exact h226 ht.symm
    have hb4 := blk_set (j := 4) (.slice (some ⟨g, 0, none⟩) (n + 1) cap) hbb
    have hgb : g ≠ b := fun e => by
      have := own_type (j := g) hown rfl (by rw [e]; exact hbb)
      exact absurd this (by decide)
    have ho4 := hown.kept (grownBy_set W3 b 4 (.slice (some ⟨g, 0, none⟩) (n + 1) cap)) (.inr (by simp [Value.ownBlock, hgb]))
    have hprot : (W3.setCell ⟨b, 4, none⟩ (.slice (some ⟨g, 0, none⟩) (n + 1) cap)).ownsRow L 9 1 (.slice SA lp.length c) lp.length (lp.flatMap strC) := by
      refine owns_same H2.out fun j hj => ?_
      have hjl := (H2.out.lt j hj).2
      have hne : j ≠ b := fun e => by
        have := own_type H2.out hj (by rw [e]; exact HB.out)
        exact absurd this (by decide)
      exact (blk_set_other _ (Ne.symm hne)).trans (hR0.block j hjl (fun hO => H9.out j hj hO))
    have hap : ∀ k, (Value.slice SA lp.length c).ownBlock = some k → (Value.slice (some ⟨g, 0, none⟩) (n + 1) cap).ownBlock ≠ some k := fun k hk hk2 => by
      obtain rfl : g = k := by simpa [Value.ownBlock] using hk2
      rcases hat with hat | hat
      · exact H9.out g hk hat
      · have := (H2.out.lt g hk).2
        omega
    have hc4 : Ch (fun j => L ≤ j) w (W3.setCell ⟨b, 4, none⟩ (.slice (some ⟨g, 0, none⟩) (n + 1) cap)) := (hR0.mono (fun j hj => (HZ.out j hj).1)).trans (Ch.set _ HL.out _)
    have HM0 := Lib.hid (show MedOwn L b name port lp (lf ++ [D]) lb la (W3.setCell ⟨b, 4, none⟩ (.slice (some ⟨g, 0, none⟩) (n + 1) cap)) by
      refine ⟨p, SA, c, some ⟨g, 0, none⟩, cap, q, r, SC, m, t, SD, f, HL.out, ?_, H1.out.kp hk (by decide) (by decide), hprot, ?_, H4.out.kp hk (by decide) (by decide), (H5.out.kp hk (by decide) (by decide)).mono (fun _ k => sConn.kp k hk (by decide) (by decide)), own_kp H6.out hk (by decide) (by decide), H7.out.kp hk (by decide) (by decide), own_kp H8.out hk (by decide) (by decide), ?_⟩
      · rw [List.length_append, HN.out]
        exact hb4
      · rw [List.length_append, HN.out, List.flatMap_append]
        simpa [strC] using ho4
      · rw [List.length_append, HN.out]
        exact hap)
    have HC0 := Lib.hid hc4
    have HT0 := Lib.hid (tab_ch HT.out hc4 (by omega))
    clear hR hu hR0 hbb hk hb4 ho4 hc4 hown hgb hp hat hprot hap HB HO H1 H2 H4 H5 H6 H7 H8 H9 HNO HZ HT
    rw [cod_frame, hv, hv2]
    unfold Oper.wp execOp
    go_simp
    clear hf hold hv hv2
    generalize W3.setCell ⟨b, 4, none⟩ (.slice (some ⟨g, 0, none⟩) (n + 1) cap) = W0 at *
    have hd : D.size ≤ 20 := by rw [← HD.out]; exact dec_len 19 pay (Nat.lt_of_le_of_lt hpay (by decide))
    have HF := Lib.hid (fun W ht => formatUint_any pay (by omega) W ht)
    rw [HD.out] at HF HLX
    obtain ⟨Dz, hDz⟩ : ∃ Dz : ByteArray, (ByteArray.mk (Lib.decDigits z).toArray) = Dz := ⟨_, rfl⟩
    have hdz : Dz.size ≤ 20 := by rw [← hDz]; exact dec_len 19 z (Nat.lt_of_lt_of_le hz (by decide))
    have HFz := Lib.hid (fun W ht => formatUint_any z (by omega) W ht)
    obtain ⟨Dc, hDc⟩ : ∃ Dc : ByteArray, (ByteArray.mk (Lib.decDigits ch).toArray) = Dc := ⟨_, rfl⟩
    have hdc : Dc.size ≤ 20 := by rw [← hDc]; exact dec_len 19 ch (Nat.lt_of_le_of_lt hch (by decide))
    have HFc := Lib.hid (fun W ht => formatUint_any ch (by omega) W ht)
    rw [hDz] at HFz HLX
    rw [hDc] at HFc HLX
    clear hDz hDc
    go_wp2_with fail
    refine (HF.out _ HT0.out).mono ?_
    rintro e W1 ⟨rfl, hc1⟩
    have HM1 := Lib.hid (HM0.out.ch hc1)
    have HC1 := Lib.hid (HC0.out.trans (hc1.mono (fun _ h => h.elim)))
    have HT1 := Lib.hid (tab_ch HT0.out hc1 id)
    clear hc1
    have z1 : (D ++ (ByteArray.mk #[32])).size = D.size + (ByteArray.mk #[32]).size := ByteArray.size_append
    have z2 : (D ++ (ByteArray.mk #[32]) ++ nm).size = (D ++ (ByteArray.mk #[32])).size + nm.size := ByteArray.size_append
    have z3 : (D ++ (ByteArray.mk #[32]) ++ nm ++ (ByteArray.mk #[47])).size = (D ++ (ByteArray.mk #[32]) ++ nm).size + (ByteArray.mk #[47]).size := ByteArray.size_append
    have z4 : (D ++ (ByteArray.mk #[32]) ++ nm ++ (ByteArray.mk #[47]) ++ Dz).size = (D ++ (ByteArray.mk #[32]) ++ nm ++ (ByteArray.mk #[47])).size + Dz.size := ByteArray.size_append
    have z5 : ((ByteArray.mk #[47]) ++ Dc).size = (ByteArray.mk #[47]).size + Dc.size := ByteArray.size_append
    have z6 : (D ++ (ByteArray.mk #[32]) ++ nm ++ (ByteArray.mk #[47]) ++ Dz ++ ((ByteArray.mk #[47]) ++ Dc)).size = (D ++ (ByteArray.mk #[32]) ++ nm ++ (ByteArray.mk #[47]) ++ Dz).size + ((ByteArray.mk #[47]) ++ Dc).size := ByteArray.size_append
    have z7 : (D ++ (ByteArray.mk #[32]) ++ fm).size = (D ++ (ByteArray.mk #[32])).size + fm.size := ByteArray.size_append
    have y1 : (ByteArray.mk #[32]).size = 1 := rfl
    have y2 : (ByteArray.mk #[47]).size = 1 := rfl
    go_wp2_with fail
    refine (HFz.out _ HT1.out).mono ?_
    rintro e W2 ⟨rfl, hc2⟩
    have HM2 := Lib.hid (HM1.out.ch hc2)
    have HC2 := Lib.hid (HC1.out.trans (hc2.mono (fun _ h => h.elim)))
    have HT2 := Lib.hid (tab_ch HT1.out hc2 id)
    clear hc2
    obtain ⟨V, hV, hlx⟩ := HLX.out
    have hlf1 := HN.out
    rcases hV with ⟨h0, hV⟩ | ⟨h0, hV⟩
    · subst h0
      rcases hlx with ⟨hfe, hlx⟩ | ⟨hfe, hlx⟩
      · have HLX2 := Lib.hid hlx
        have HV := Lib.hid hV
        clear hlx hV HLX hlf1
        go_wp2_with fail
        refine (withValue_any HM2.out (by omega)).mono ?_
        rintro e W3 ⟨rfl, hm, hc⟩
        rw [← HV.out] at hm
        have HM3 := Lib.hid hm
        have HC3 := Lib.hid (HC2.out.trans hc)
        have HT3 := Lib.hid (tab_ch HT2.out hc (by omega))
        clear hm hc
        go_wp2
        refine bodyPost_ret (v := .pointer (some ⟨b, 0, none⟩)) (by simp [results, Tryz.results75]) rfl ?_
        refine ⟨rfl, ?_, HC3.out⟩
        have h8 := HM3.out
        rw [HLX2.out, HD.out]
        simpa using h8
      · have HLX2 := Lib.hid hlx
        have HV := Lib.hid hV
        clear hlx hV HLX hlf1
        go_wp2_with fail
        refine (withValue_any HM2.out (by omega)).mono ?_
        rintro e W3 ⟨rfl, hm, hc⟩
        rw [← HV.out] at hm
        have HM3 := Lib.hid hm
        have HC3 := Lib.hid (HC2.out.trans hc)
        have HT3 := Lib.hid (tab_ch HT2.out hc (by omega))
        clear hm hc
        go_wp2_with fail
        refine (HF.out _ HT3.out).mono ?_
        rintro e W4 ⟨rfl, hc⟩
        have HM4 := Lib.hid (HM3.out.ch hc)
        have HC4 := Lib.hid (HC3.out.trans (hc.mono (fun _ h => h.elim)))
        clear hc
        go_wp2_with fail
        refine (withValue_any HM4.out (by rw [List.length_append]; simp; omega)).mono ?_
        rintro e W5 ⟨rfl, hm, hc⟩
        have HM5 := Lib.hid hm
        have HC5 := Lib.hid (HC4.out.trans hc)
        clear hm hc
        go_wp2
        refine bodyPost_ret (v := .pointer (some ⟨b, 0, none⟩)) (by simp [results, Tryz.results75]) rfl ?_
        refine ⟨rfl, ?_, HC5.out⟩
        have h8 := HM5.out
        rw [HLX2.out, HD.out]
        simpa using h8
    · rcases hlx with ⟨hfe, hlx⟩ | ⟨hfe, hlx⟩
      · have HLX2 := Lib.hid hlx
        have HV := Lib.hid hV
        clear hlx hV HLX hlf1
        have hc0 : (0 : Int) < (ch : Int) := by omega
        go_wp2_with fail
        refine (HFc.out _ HT2.out).mono ?_
        rintro e W3 ⟨rfl, hc⟩
        have HM3 := Lib.hid (HM2.out.ch hc)
        have HC3 := Lib.hid (HC2.out.trans (hc.mono (fun _ h => h.elim)))
        have HT3 := Lib.hid (tab_ch HT2.out hc id)
        clear hc
        go_wp2_with fail
        refine (withValue_any HM3.out (by omega)).mono ?_
        rintro e W4 ⟨rfl, hm, hc⟩
        rw [← HV.out] at hm
        have HM4 := Lib.hid hm
        have HC4 := Lib.hid (HC3.out.trans hc)
        have HT4 := Lib.hid (tab_ch HT3.out hc (by omega))
        clear hm hc
        go_wp2
        refine bodyPost_ret (v := .pointer (some ⟨b, 0, none⟩)) (by simp [results, Tryz.results75]) rfl ?_
        refine ⟨rfl, ?_, HC4.out⟩
        have h8 := HM4.out
        rw [HLX2.out, HD.out]
        simpa using h8
      · have HLX2 := Lib.hid hlx
        have HV := Lib.hid hV
        clear hlx hV HLX hlf1
        have hc0 : (0 : Int) < (ch : Int) := by omega
        go_wp2_with fail
        refine (HFc.out _ HT2.out).mono ?_
        rintro e W3 ⟨rfl, hc⟩
        have HM3 := Lib.hid (HM2.out.ch hc)
        have HC3 := Lib.hid (HC2.out.trans (hc.mono (fun _ h => h.elim)))
        have HT3 := Lib.hid (tab_ch HT2.out hc id)
        clear hc
        go_wp2_with fail
        refine (withValue_any HM3.out (by omega)).mono ?_
        rintro e W4 ⟨rfl, hm, hc⟩
        rw [← HV.out] at hm
        have HM4 := Lib.hid hm
        have HC4 := Lib.hid (HC3.out.trans hc)
        have HT4 := Lib.hid (tab_ch HT3.out hc (by omega))
        clear hm hc
        go_wp2_with fail
        refine (HF.out _ HT4.out).mono ?_
        rintro e W5 ⟨rfl, hc⟩
        have HM5 := Lib.hid (HM4.out.ch hc)
        have HC5 := Lib.hid (HC4.out.trans (hc.mono (fun _ h => h.elim)))
        clear hc
        go_wp2_with fail
        refine (withValue_any HM5.out (by rw [List.length_append]; simp; omega)).mono ?_
        rintro e W6 ⟨rfl, hm, hc⟩
        have HM6 := Lib.hid hm
        have HC6 := Lib.hid (HC5.out.trans hc)
        clear hm hc
        go_wp2
        refine bodyPost_ret (v := .pointer (some ⟨b, 0, none⟩)) (by simp [results, Tryz.results75]) rfl ?_
        refine ⟨rfl, ?_, HC6.out⟩
        have h8 := HM6.out
        rw [HLX2.out, HD.out]
        simpa using h8

end Go.Proofs.YtimonhimfioohaaGreatDoor
