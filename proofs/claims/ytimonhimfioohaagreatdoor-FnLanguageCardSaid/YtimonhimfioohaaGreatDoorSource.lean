/- An attribute is added to a medium of the package. -/
import Derived.Test.YtimonhimfioohaaGreatDoorMedia
import Derived.Test.YtimonhimfioohaaGreatDoorReg2
namespace Go.Proofs.YtimonhimfioohaaGreatDoor
open Go.RowKit

/-- All blocks but those of one type and of media are as they were. -/
def Kp (E : TypeId) (w w' : World) : Prop := ∀ (b : Nat) (cs : Array Value) (T : TypeId) (fr : Nat × Nat), w.heap[b]? = some (.cells cs T fr) → T ≠ E → T ≠ 226 → w'.heap[b]? = some (.cells cs T fr)
theorem Ptr.kp {E : TypeId} {w w' : World} {T : TypeId} {R : List Value → Prop} {p : Option Addr} (h : Ptr w T R p) (hk : Kp E w w') (h1 : T ≠ E) (h2 : T ≠ 226) : Ptr w' T R p := h.keep fun b cs fr hb => (hk b cs T fr hb h1 h2).trans hb.symm
theorem sAddr.kp {E : TypeId} {w w' : World} {cs : List Value} (h : sAddr w cs) (hk : Kp E w w') (h1 : E ≠ 3) : sAddr w' cs := by
  obtain ⟨s, p, q, h4, h2, h3⟩ := h
  exact ⟨s, p, q, h4, h2.kp hk (Ne.symm h1) (by decide), h3.kp hk (Ne.symm h1) (by decide)⟩
theorem sConn.kp {E : TypeId} {w w' : World} {cs : List Value} (h : sConn w cs) (hk : Kp E w w') (h1 : E ≠ 3) (h2 : E ≠ 258) : sConn w' cs := by
  obtain ⟨s, t, p, h3, h4⟩ := h
  exact ⟨s, t, p, h3, (h4.kp hk (Ne.symm h2) (by decide)).mono fun _ k => sAddr.kp k hk h1⟩
theorem own_kp {E : TypeId} {w w' : World} {b e size n : Nat} {v : Value} {xs : List Value} (h : w.ownsRow b e size v n xs) (hk : Kp E w w') (h1 : e ≠ E) (h2 : e ≠ 226) : w'.ownsRow b e size v n xs := by
  refine ⟨h.1, h.2.imp id ?_⟩
  rintro ⟨g, cap, cur, k1, k2, k3, k4⟩
  exact ⟨g, cap, cur, k1, k2, hk _ _ _ _ k3 h1 h2, k4⟩
theorem own_type {w : World} {b e size n j T : Nat} {v : Value} {xs : List Value} {cs : Array Value} {fr : Nat × Nat} (h : w.ownsRow b e size v n xs) (hj : v.ownBlock = some j) (hb : w.heap[j]? = some (.cells cs T fr)) : T = e := by
  rcases h.2 with ⟨rfl, _⟩ | ⟨g, cap, cur, rfl, _, hg, _⟩
  · cases hj
  · obtain rfl : g = j := by simpa [Value.ownBlock] using hj
    rw [hg] at hb
    injection hb with hb
    injection hb with _ ht
    exact ht.symm

set_option maxRecDepth 100000 in
theorem newAttribute_any {k v : ByteArray} {w : World} : Calls Tryz.prog 115 #[.string k, .string v] w fun e w' => e = .returned (.agg #[.string k, .string v]) ∧ Ch (fun _ => False) w w' := by
  have hc : Ch (fun _ => False) w (w.alloc (.cells #[.string k, .string v] 240)) := Ch.grown (World.grownBy_alloc _ _ none) (by simp)
  have HC := Lib.hid hc
  clear hc
  go_enter Tryz.func115, Tryz.ntmps115
  go_wp2
  refine bodyPost_ret (v := .agg #[.string k, .string v]) (by simp [results, Tryz.results115, go_sem]) rfl ?_
  exact ⟨rfl, HC.out⟩
set_option maxRecDepth 100000 in
theorem newProperty_any {k : ByteArray} {w : World} : Calls Tryz.prog 116 #[.string k] w fun e w' => e = .returned (.agg #[.string k, .string ⟨#[]⟩]) ∧ Ch (fun _ => False) w w' := by
  have hc : Ch (fun _ => False) w (w.alloc (.cells #[.string k, .string ⟨#[]⟩] 240)) := Ch.grown (World.grownBy_alloc _ _ none) (by simp)
  have HC := Lib.hid hc
  clear hc
  go_enter Tryz.func116, Tryz.ntmps116
  go_wp2
  refine bodyPost_ret (v := .agg #[.string k, .string ⟨#[]⟩]) (by simp [results, Tryz.results116, go_sem]) rfl ?_
  exact ⟨rfl, HC.out⟩

def wvaO (SD : Option Addr) (n f : Nat) (k : Nat) : Prop := Value.ownBlock (.slice SD n f) = some k
def wvaS (O : Nat → Prop) (i : Nat) : World → World → Prop := match i with
  | 9 => Ch O
  | _ => Ch (fun _ => False)
theorem wvaS_ne {O : Nat → Prop} {i : Nat} (h : i ≠ 9) : wvaS O i = Ch (fun _ => False) := by
  unfold wvaS
  split
  · exact absurd rfl h
  · rfl
def wvaT (L Z b n f : Nat) (SD : Option Addr) (xs : List Value) (ak av : ByteArray) (d : Nat) (v : Value) (W : World) : Prop :=
  match d with
  | 7 => v = .pointer (some ⟨b, 0, none⟩)
  | 8 => v = .pointer (some ⟨b, 0, none⟩)
  | 9 => v = .pointer (some ⟨b, 0, none⟩)
  | 10 => v = .pointer (some ⟨b, 9, none⟩)
  | 11 => v = .slice SD n f
  | 12 => v = .string ak
  | 13 => v = .string av
  | 14 => v = .agg #[.string ak, .string av]
  | 15 => ∃ (bk : Nat), v = .slice (some ⟨bk, 0, none⟩) 1 1 ∧ Z ≤ bk ∧ W.heap[bk]? = some (.cells #[.string ak, .string av] 240 (0, 0))
  | 16 => ∃ (g : Nat) (c : Nat), v = .slice (some ⟨g, 0, none⟩) (n + 1) c ∧ W.ownsRow L 240 2 (.slice (some ⟨g, 0, none⟩) (n + 1) c) (n + 1) (xs ++ [.string ak, .string av])
  | 17 => v = .pointer (some ⟨b, 0, none⟩)
  | 18 => v = .pointer (some ⟨b, 9, none⟩)
  | _ => True

theorem wvaT_stays {L Z b n f : Nat} {SD : Option Addr} {xs : List Value} {ak av : ByteArray} {d : Nat} {v : Value} {W W' : World} (h : wvaT L Z b n f SD xs ak av d v W) (hc : Ch (fun _ => False) W W') : wvaT L Z b n f SD xs ak av d v W' := by
  unfold wvaT at h ⊢
  split at h
  · exact h
  · exact h
  · exact h
  · exact h
  · exact h
  · exact h
  · exact h
  · exact h
  · obtain ⟨bk, eq_, p0, p1⟩ := h
    exact ⟨bk, eq_, p0, (hc.block _ (blk_lt p1) id).trans p1⟩
  · obtain ⟨g, c, eq_, p0⟩ := h
    exact ⟨g, c, eq_, own_ch p0 hc⟩
  · exact h
  · exact h
  · trivial

theorem wvaT_staysO {L Z b n f : Nat} {SD : Option Addr} {xs : List Value} {ak av : ByteArray} {d : Nat} {x : Value} {W W' : World} (hd : d ≠ 16) (hZ : ∀ j, wvaO SD n f j → j < Z) (h : wvaT L Z b n f SD xs ak av d x W) (hc : Ch (wvaO SD n f) W W') : wvaT L Z b n f SD xs ak av d x W' := by
  unfold wvaT at h ⊢
  split at h
  · exact h
  · exact h
  · exact h
  · exact h
  · exact h
  · exact h
  · exact h
  · exact h
  · obtain ⟨k, eq_, p0, p1⟩ := h
    exact ⟨k, eq_, p0, (hc.block _ (blk_lt p1) (fun hO => by have := hZ _ hO; omega)).trans p1⟩
  · exact absurd rfl hd
  · exact h
  · exact h
  · trivial
set_option maxRecDepth 100000 in
theorem wva_frame (x0 x1 x2 x3 x4 x5 x6 x7 x8 x9 x10 x11 x12 x13 x14 x15 x16 x17 x18 x19 : Value) (d : List Deferred) (u : Nat → Value) : frameOf ⟨#[x0, x1, x2, x3, x4, x5, x6, x7, x8, x9, x10, x11, x12, x13, x14, x15, x16, x17, x18, x19], d⟩ [7, 8, 9, 10, 11, 12, 13, 14, 15, 16, 17, 18] u = ⟨#[x0, x1, x2, x3, x4, x5, x6, u 7, u 8, u 9, u 10, u 11, u 12, u 13, u 14, u 15, u 16, u 17, u 18, x19], d⟩ := by kernel_rfl

set_option maxRecDepth 100000 in
set_option maxHeartbeats 4000000 in
theorem withValue_any {L b : Nat} {name : ByteArray} {port : Int} {lp lf : List ByteArray} {lb : List (Bool × ByteArray × Int)} {la : List (ByteArray × ByteArray)} {ak av : ByteArray} {w : World} (h : MedOwn L b name port lp lf lb la w) (hla : la.length < 2147483647) :
    Calls Tryz.prog 73 #[.pointer (some ⟨b, 0, none⟩), .string ak, .string av] w fun e w' => e = .returned (.pointer (some ⟨b, 0, none⟩)) ∧ MedOwn L b name port lp lf lb (la ++ [(ak, av)]) w' ∧ Ch (fun j => L ≤ j) w w' := by
  obtain ⟨p, SA, c, SB, d, q, r, SC, m, t, SD, f, hL, hblk, h1, h2, h3, h4, h5, h6, h7, h8, h9⟩ := h
  have HB := Lib.hid hblk
  have HL := Lib.hid hL
  have HO := Lib.hid h8
  have H1 := Lib.hid h1
  have H2 := Lib.hid h2
  have H3 := Lib.hid h3
  have H4 := Lib.hid h4
  have H5 := Lib.hid h5
  have H6 := Lib.hid h6
  have H7 := Lib.hid h7
  have H9 := Lib.hid h9
  have HNO := Lib.hid (show ∀ (j : Nat) (cs : Array Value) (T : TypeId) (fr : Nat × Nat), wvaO SD la.length f j → w.heap[j]? = some (.cells cs T fr) → T = 240 from fun j cs T fr hO hj => own_type h8 hO hj)
  have HZ := Lib.hid (show ∀ j, wvaO SD la.length f j → L ≤ j ∧ j < w.heap.size from fun j hO => h8.lt j hO)
  clear h1 h2 h3 h4 h5 h6 h7 h8 h9 hblk hL
  generalize hn : la.length = n at *
  have HN := Lib.hid hn
  clear hn
  go_enter Tryz.func73, Tryz.ntmps73
  go_upto_region 1 with fail
  obtain ⟨Z, hZ⟩ : ∃ Z, w.heap.size = Z := ⟨_, rfl⟩
  refine wp_region_ops2 (by kernel_rfl) [7, 8, 9, 10, 11, 12, 13, 14, 15, 16, 17, 18] 12 (by kernel_rfl) (by kernel_rfl) (by kernel_rfl) (wvaT L Z b n f SD (la.flatMap attrC) ak av) (fun b' => if b' = true then Ch (wvaO SD n f) else Ch (fun _ => False)) (wvaS (wvaO SD n f)) 9 (fun _ => Ch.refl _ _) ?_ ?_ ?_ ?_
  · intro i b' w0 w1 w2 _ hib hR hS
    by_cases hi : i = 9
    · subst hi
      have hbf := hib rfl
      subst hbf
      exact ((show Ch (fun _ => False) w0 w1 from hR).mono (fun _ h => h.elim)).trans hS
    · rw [if_neg hi]
      rw [wvaS_ne hi] at hS
      cases b' with
      | false => exact (show Ch (fun _ => False) w0 w1 from hR).trans hS
      | true => exact (show Ch (wvaO SD n f) w0 w1 from hR).trans (hS.mono (fun _ h => h.elim))
  · intro i dd x w1 w2 _ hdst hT hS
    by_cases hi : i = 9
    · subst hi
      exact wvaT_staysO (fun e => hdst (by subst e; rfl)) (fun j hj => by rw [← hZ]; exact (HZ.out j hj).2) hT hS
    · rw [wvaS_ne hi] at hS
      exact wvaT_stays hT hS
  · intro i oo hi ho A b' W' hb hR hr hx K hK
    have hRO : Ch (wvaO SD n f) w W' := by
      cases b' with
      | false => exact ((Ch.of_heap (Ch.refl _ w) (w' := w.drew) rfl rfl rfl rfl).trans (show Ch (fun _ => False) w.drew W' from hR)).mono (fun _ h => h.elim)
      | true => exact (Ch.of_heap (Ch.refl _ w) (w' := w.drew) rfl rfl rfl rfl).trans (show Ch (wvaO SD n f) w.drew W' from hR)
    have hZW : Z ≤ W'.heap.size := by rw [← hZ]; exact hRO.size
    have hbb : W'.heap[b]? = some (.cells #[.string name, .int .i64 port, .pointer p, .slice SA lp.length c, .slice SB lf.length d, .pointer q, .pointer r, .slice SC lb.length m, .pointer t, .slice SD n f] 226 (0, 0)) := (hRO.block b (blk_lt HB.out) (fun hO => absurd (HNO.out _ _ _ _ hO HB.out) (by decide))).trans HB.out
    have hLW : L ≤ W'.heap.size := by have := blk_lt hbb; have := HL.out; omega
    clear hRO
    generalize hxs : la.flatMap attrC = xs at *
    exact match i, hi, ho with
      | 0, _, ho => by
        obtain rfl := Option.some.inj ho
        have e0 : A.tmps[0]?.getD undef = .pointer (some ⟨b, 0, none⟩) := (eval_getD A 0).symm.trans (hx 0 (by decide))
        unfold Oper.wp execOp
        go_simp
        exact hK _ _ (fun d hd => by cases hd; exact rfl) (Ch.refl _ _)
      | 1, _, ho => by
        obtain rfl := Option.some.inj ho
        have e0 : A.tmps[0]?.getD undef = .pointer (some ⟨b, 0, none⟩) := (eval_getD A 0).symm.trans (hx 0 (by decide))
        unfold Oper.wp execOp
        go_simp
        exact hK _ _ (fun d hd => by cases hd; exact rfl) (Ch.refl _ _)
      | 2, _, ho => by
        obtain rfl := Option.some.inj ho
        have e8 : A.tmps[8]?.getD undef = .pointer (some ⟨b, 0, none⟩) := (eval_getD A 8).symm.trans (hr 8 (by decide) (by decide))
        unfold Oper.wp execOp
        go_simp
        exact hK _ _ (fun d hd => by cases hd; exact rfl) (Ch.refl _ _)
      | 3, _, ho => by
        obtain rfl := Option.some.inj ho
        have e9 : A.tmps[9]?.getD undef = .pointer (some ⟨b, 0, none⟩) := (eval_getD A 9).symm.trans (hr 9 (by decide) (by decide))
        unfold Oper.wp execOp
        go_simp
        exact hK _ _ (fun d hd => by cases hd; exact rfl) (Ch.refl _ _)
      | 4, _, ho => by
        obtain rfl := Option.some.inj ho
        have e10 : A.tmps[10]?.getD undef = .pointer (some ⟨b, 9, none⟩) := (eval_getD A 10).symm.trans (hr 10 (by decide) (by decide))
        have l0 : W'.cell? ⟨b, 9, none⟩ = some (.slice SD n f) := blk_cell hbb rfl
        unfold Oper.wp execOp
        go_simp
        exact hK _ _ (fun d hd => by cases hd; exact rfl) (Ch.refl _ _)
      | 5, _, ho => by
        obtain rfl := Option.some.inj ho
        have e1 : A.tmps[1]?.getD undef = .string ak := (eval_getD A 1).symm.trans (hx 1 (by decide))
        unfold Oper.wp execOp
        go_simp
        exact hK _ _ (fun d hd => by cases hd; exact rfl) (Ch.refl _ _)
      | 6, _, ho => by
        obtain rfl := Option.some.inj ho
        have e2 : A.tmps[2]?.getD undef = .string av := (eval_getD A 2).symm.trans (hx 2 (by decide))
        unfold Oper.wp execOp
        go_simp
        exact hK _ _ (fun d hd => by cases hd; exact rfl) (Ch.refl _ _)
      | 7, _, ho => by
        obtain rfl := Option.some.inj ho
        have e12 : A.tmps[12]?.getD undef = .string ak := (eval_getD A 12).symm.trans (hr 12 (by decide) (by decide))
        have e13 : A.tmps[13]?.getD undef = .string av := (eval_getD A 13).symm.trans (hr 13 (by decide) (by decide))
        unfold Oper.wp execOp
        go_simp
        (go_at_call 115; refine (newAttribute_any).mono ?_; rintro e W2 ⟨rfl, hcp⟩)
        exact hK _ _ (fun d hd => by cases hd; exact rfl) hcp
      | 8, _, ho => by
        obtain rfl := Option.some.inj ho
        have e14 : A.tmps[14]?.getD undef = .agg #[.string ak, .string av] := (eval_getD A 14).symm.trans (hr 14 (by decide) (by decide))
        unfold Oper.wp execOp
        go_simp
        exact hK _ _ (fun d hd => by cases hd; exact ⟨_, rfl, hZW, heap_alloc_new _ _⟩) (Ch.grown (World.grownBy_alloc _ _ none) (by simp))
      | 9, _, ho => by
        obtain rfl := Option.some.inj ho
        obtain ⟨bk15, eq15_, p15_0, p15_1⟩ : ∃ (bk : Nat), A.eval (.tmp 15) = .slice (some ⟨bk, 0, none⟩) 1 1 ∧ Z ≤ bk ∧ W'.heap[bk]? = some (.cells #[.string ak, .string av] 240 (0, 0)) := hr 15 (by decide) (by decide)
        have e15 : A.tmps[15]?.getD undef = .slice (some ⟨bk15, 0, none⟩) 1 1 := (eval_getD A 15).symm.trans eq15_
        have e11 : A.eval (.tmp 11) = .slice SD n f := hr 11 (by decide) (by decide)
        have hown' : W'.ownsRow L 240 2 (.slice SD n f) n xs := by
          have hbf := hb rfl
          subst hbf
          exact own_ch HO.out (((Ch.of_heap (Ch.refl _ w) (w' := w.drew) rfl rfl rfl rfl).trans hR : Ch (fun _ => False) w W'))
        obtain ⟨i0, hi0, hz0, hz1, hz2⟩ := info_parts info240_c
        refine wp_append_lies _ (.tmp 11) (.tmp 15) 105 rfl L 240 i0 _ 2 32 Tryz.underlying105 hi0 hz0 hz1 hz2 rfl (by decide) (.slice SD n f) n xs e11 hown' ⟨bk15, 0, none⟩ 1 1 [.string ak, .string av] eq15_ rfl (World.news_of_block p15_1) (by simp [Value.oneCell']) (by decide) (by unfold maxLen; omega) (by omega) hLW _ rfl ?_
        intro g cap W2 hown2 hgrow2 hat hlt
        exact hK _ _ (fun d hd => by cases hd; exact ⟨g, cap, rfl, hown2⟩) (Ch.grown hgrow2 (fun j hj => hj))
      | 10, _, ho => by
        obtain rfl := Option.some.inj ho
        have e7 : A.tmps[7]?.getD undef = .pointer (some ⟨b, 0, none⟩) := (eval_getD A 7).symm.trans (hr 7 (by decide) (by decide))
        unfold Oper.wp execOp
        go_simp
        exact hK _ _ (fun d hd => by cases hd; exact rfl) (Ch.refl _ _)
      | 11, _, ho => by
        obtain rfl := Option.some.inj ho
        have e17 : A.tmps[17]?.getD undef = .pointer (some ⟨b, 0, none⟩) := (eval_getD A 17).symm.trans (hr 17 (by decide) (by decide))
        unfold Oper.wp execOp
        go_simp
        exact hK _ _ (fun d hd => by cases hd; exact rfl) (Ch.refl _ _)
      | n + 12, hi, _ => absurd hi (by omega)

  · intro oo ho u b' W3 hp hR hu
    have hbt := hp (by decide)
    subst hbt
    obtain rfl := Option.some.inj ho
    obtain ⟨g, cap, hv, hown⟩ : ∃ g cap, u 16 = .slice (some ⟨g, 0, none⟩) (n + 1) cap ∧ W3.ownsRow L 240 2 (.slice (some ⟨g, 0, none⟩) (n + 1) cap) (n + 1) (la.flatMap attrC ++ attrC (ak, av)) := hu 16 (by decide)
    have hv2 : u 18 = .pointer (some ⟨b, 9, none⟩) := hu 18 (by decide)
    have hR0 := (Ch.of_heap (Ch.refl _ w) (w' := w.drew) rfl rfl rfl rfl).trans (show Ch (wvaO SD n f) w.drew W3 from hR)
    have hbb : W3.heap[b]? = some (.cells #[.string name, .int .i64 port, .pointer p, .slice SA lp.length c, .slice SB lf.length d, .pointer q, .pointer r, .slice SC lb.length m, .pointer t, .slice SD n f] 226 (0, 0)) := (hR0.block b (blk_lt HB.out) (fun hO => absurd (HNO.out _ _ _ _ hO HB.out) (by decide))).trans HB.out
    have hf : W3.frozen? ⟨b, 9, none⟩ = false := blk_frozen hbb
    have hold : W3.cell? ⟨b, 9, none⟩ = some (.slice SD n f) := blk_cell hbb rfl
    have hk : Kp 240 w (W3.setCell ⟨b, 9, none⟩ (.slice (some ⟨g, 0, none⟩) (n + 1) cap)) := fun j cs T fr hj h240 h226 => by
      have hj3 : W3.heap[j]? = some (.cells cs T fr) := (hR0.block j (blk_lt hj) (fun hO => h240 (HNO.out _ _ _ _ hO hj))).trans hj
      refine (blk_set_other _ (fun e => ?_)).trans hj3
      subst e
      rw [hbb] at hj3
      injection hj3 with hj3
      injection hj3 with _ ht
      exact h226 ht.symm
    have hb4 := blk_set (j := 9) (.slice (some ⟨g, 0, none⟩) (n + 1) cap) hbb
    have hgb : g ≠ b := fun e => by
      have := own_type (j := g) hown rfl (by rw [e]; exact hbb)
      exact absurd this (by decide)
    have ho4 := hown.kept (grownBy_set W3 b 9 (.slice (some ⟨g, 0, none⟩) (n + 1) cap)) (.inr (by simp [Value.ownBlock, hgb]))
    have hc4 : Ch (fun j => L ≤ j) w (W3.setCell ⟨b, 9, none⟩ (.slice (some ⟨g, 0, none⟩) (n + 1) cap)) := (hR0.mono (fun j hj => (HZ.out j hj).1)).trans (Ch.set _ HL.out _)
    have HK := Lib.hid hk
    have HB4 := Lib.hid hb4
    have HO4 := Lib.hid ho4
    have HC4 := Lib.hid hc4
    clear hR hu hR0 hbb hk hb4 ho4 hc4 hown hgb hp
    rw [wva_frame, hv, hv2]
    unfold Oper.wp execOp
    go_simp
    clear hf hold hv hv2
    go_wp2
    refine bodyPost_ret (v := .pointer (some ⟨b, 0, none⟩)) (by simp [results, Tryz.results73]) rfl ?_
    refine ⟨rfl, ⟨p, SA, c, SB, d, q, r, SC, m, t, some ⟨g, 0, none⟩, cap, HL.out, ?_, H1.out.kp HK.out (by decide) (by decide), own_kp H2.out HK.out (by decide) (by decide), own_kp H3.out HK.out (by decide) (by decide), H4.out.kp HK.out (by decide) (by decide), (H5.out.kp HK.out (by decide) (by decide)).mono (fun _ k => sConn.kp k HK.out (by decide) (by decide)), own_kp H6.out HK.out (by decide) (by decide), H7.out.kp HK.out (by decide) (by decide), ?_, H9.out⟩, HC4.out⟩
    · have h9 := HB4.out
      rw [List.length_append, HN.out]
      exact h9
    · rw [List.length_append, HN.out, List.flatMap_append]
      simpa using HO4.out


def wpaO (SD : Option Addr) (n f : Nat) (k : Nat) : Prop := Value.ownBlock (.slice SD n f) = some k
def wpaS (O : Nat → Prop) (i : Nat) : World → World → Prop := match i with
  | 8 => Ch O
  | _ => Ch (fun _ => False)
theorem wpaS_ne {O : Nat → Prop} {i : Nat} (h : i ≠ 8) : wpaS O i = Ch (fun _ => False) := by
  unfold wpaS
  split
  · exact absurd rfl h
  · rfl
def wpaT (L Z b n f : Nat) (SD : Option Addr) (xs : List Value) (ak : ByteArray) (d : Nat) (v : Value) (W : World) : Prop :=
  match d with
  | 5 => v = .pointer (some ⟨b, 0, none⟩)
  | 6 => v = .pointer (some ⟨b, 0, none⟩)
  | 7 => v = .pointer (some ⟨b, 0, none⟩)
  | 8 => v = .pointer (some ⟨b, 9, none⟩)
  | 9 => v = .slice SD n f
  | 10 => v = .string ak
  | 11 => v = .agg #[.string ak, .string ⟨#[]⟩]
  | 12 => ∃ (bk : Nat), v = .slice (some ⟨bk, 0, none⟩) 1 1 ∧ Z ≤ bk ∧ W.heap[bk]? = some (.cells #[.string ak, .string ⟨#[]⟩] 240 (0, 0))
  | 13 => ∃ (g : Nat) (c : Nat), v = .slice (some ⟨g, 0, none⟩) (n + 1) c ∧ W.ownsRow L 240 2 (.slice (some ⟨g, 0, none⟩) (n + 1) c) (n + 1) (xs ++ [.string ak, .string ⟨#[]⟩])
  | 14 => v = .pointer (some ⟨b, 0, none⟩)
  | 15 => v = .pointer (some ⟨b, 9, none⟩)
  | _ => True

theorem wpaT_stays {L Z b n f : Nat} {SD : Option Addr} {xs : List Value} {ak : ByteArray} {d : Nat} {v : Value} {W W' : World} (h : wpaT L Z b n f SD xs ak d v W) (hc : Ch (fun _ => False) W W') : wpaT L Z b n f SD xs ak d v W' := by
  unfold wpaT at h ⊢
  split at h
  · exact h
  · exact h
  · exact h
  · exact h
  · exact h
  · exact h
  · exact h
  · obtain ⟨bk, eq_, p0, p1⟩ := h
    exact ⟨bk, eq_, p0, (hc.block _ (blk_lt p1) id).trans p1⟩
  · obtain ⟨g, c, eq_, p0⟩ := h
    exact ⟨g, c, eq_, own_ch p0 hc⟩
  · exact h
  · exact h
  · trivial

theorem wpaT_staysO {L Z b n f : Nat} {SD : Option Addr} {xs : List Value} {ak : ByteArray} {d : Nat} {x : Value} {W W' : World} (hd : d ≠ 13) (hZ : ∀ j, wpaO SD n f j → j < Z) (h : wpaT L Z b n f SD xs ak d x W) (hc : Ch (wpaO SD n f) W W') : wpaT L Z b n f SD xs ak d x W' := by
  unfold wpaT at h ⊢
  split at h
  · exact h
  · exact h
  · exact h
  · exact h
  · exact h
  · exact h
  · exact h
  · obtain ⟨k, eq_, p0, p1⟩ := h
    exact ⟨k, eq_, p0, (hc.block _ (blk_lt p1) (fun hO => by have := hZ _ hO; omega)).trans p1⟩
  · exact absurd rfl hd
  · exact h
  · exact h
  · trivial
set_option maxRecDepth 100000 in
theorem wpa_frame (x0 x1 x2 x3 x4 x5 x6 x7 x8 x9 x10 x11 x12 x13 x14 x15 x16 : Value) (d : List Deferred) (u : Nat → Value) : frameOf ⟨#[x0, x1, x2, x3, x4, x5, x6, x7, x8, x9, x10, x11, x12, x13, x14, x15, x16], d⟩ [5, 6, 7, 8, 9, 10, 11, 12, 13, 14, 15] u = ⟨#[x0, x1, x2, x3, x4, u 5, u 6, u 7, u 8, u 9, u 10, u 11, u 12, u 13, u 14, u 15, x16], d⟩ := by kernel_rfl

set_option maxRecDepth 100000 in
set_option maxHeartbeats 4000000 in
theorem withProperty_any {L b : Nat} {name : ByteArray} {port : Int} {lp lf : List ByteArray} {lb : List (Bool × ByteArray × Int)} {la : List (ByteArray × ByteArray)} {ak : ByteArray} {w : World} (h : MedOwn L b name port lp lf lb la w) (hla : la.length < 2147483647) :
    Calls Tryz.prog 74 #[.pointer (some ⟨b, 0, none⟩), .string ak] w fun e w' => e = .returned (.pointer (some ⟨b, 0, none⟩)) ∧ MedOwn L b name port lp lf lb (la ++ [(ak, ⟨#[]⟩)]) w' ∧ Ch (fun j => L ≤ j) w w' := by
  obtain ⟨p, SA, c, SB, d, q, r, SC, m, t, SD, f, hL, hblk, h1, h2, h3, h4, h5, h6, h7, h8, h9⟩ := h
  have HB := Lib.hid hblk
  have HL := Lib.hid hL
  have HO := Lib.hid h8
  have H1 := Lib.hid h1
  have H2 := Lib.hid h2
  have H3 := Lib.hid h3
  have H4 := Lib.hid h4
  have H5 := Lib.hid h5
  have H6 := Lib.hid h6
  have H7 := Lib.hid h7
  have H9 := Lib.hid h9
  have HNO := Lib.hid (show ∀ (j : Nat) (cs : Array Value) (T : TypeId) (fr : Nat × Nat), wpaO SD la.length f j → w.heap[j]? = some (.cells cs T fr) → T = 240 from fun j cs T fr hO hj => own_type h8 hO hj)
  have HZ := Lib.hid (show ∀ j, wpaO SD la.length f j → L ≤ j ∧ j < w.heap.size from fun j hO => h8.lt j hO)
  clear h1 h2 h3 h4 h5 h6 h7 h8 h9 hblk hL
  generalize hn : la.length = n at *
  have HN := Lib.hid hn
  clear hn
  go_enter Tryz.func74, Tryz.ntmps74
  go_upto_region 1 with fail
  obtain ⟨Z, hZ⟩ : ∃ Z, w.heap.size = Z := ⟨_, rfl⟩
  refine wp_region_ops2 (by kernel_rfl) [5, 6, 7, 8, 9, 10, 11, 12, 13, 14, 15] 11 (by kernel_rfl) (by kernel_rfl) (by kernel_rfl) (wpaT L Z b n f SD (la.flatMap attrC) ak) (fun b' => if b' = true then Ch (wpaO SD n f) else Ch (fun _ => False)) (wpaS (wpaO SD n f)) 8 (fun _ => Ch.refl _ _) ?_ ?_ ?_ ?_
  · intro i b' w0 w1 w2 _ hib hR hS
    by_cases hi : i = 8
    · subst hi
      have hbf := hib rfl
      subst hbf
      exact ((show Ch (fun _ => False) w0 w1 from hR).mono (fun _ h => h.elim)).trans hS
    · rw [if_neg hi]
      rw [wpaS_ne hi] at hS
      cases b' with
      | false => exact (show Ch (fun _ => False) w0 w1 from hR).trans hS
      | true => exact (show Ch (wpaO SD n f) w0 w1 from hR).trans (hS.mono (fun _ h => h.elim))
  · intro i dd x w1 w2 _ hdst hT hS
    by_cases hi : i = 8
    · subst hi
      exact wpaT_staysO (fun e => hdst (by subst e; rfl)) (fun j hj => by rw [← hZ]; exact (HZ.out j hj).2) hT hS
    · rw [wpaS_ne hi] at hS
      exact wpaT_stays hT hS
  · intro i oo hi ho A b' W' hb hR hr hx K hK
    have hRO : Ch (wpaO SD n f) w W' := by
      cases b' with
      | false => exact ((Ch.of_heap (Ch.refl _ w) (w' := w.drew) rfl rfl rfl rfl).trans (show Ch (fun _ => False) w.drew W' from hR)).mono (fun _ h => h.elim)
      | true => exact (Ch.of_heap (Ch.refl _ w) (w' := w.drew) rfl rfl rfl rfl).trans (show Ch (wpaO SD n f) w.drew W' from hR)
    have hZW : Z ≤ W'.heap.size := by rw [← hZ]; exact hRO.size
    have hbb : W'.heap[b]? = some (.cells #[.string name, .int .i64 port, .pointer p, .slice SA lp.length c, .slice SB lf.length d, .pointer q, .pointer r, .slice SC lb.length m, .pointer t, .slice SD n f] 226 (0, 0)) := (hRO.block b (blk_lt HB.out) (fun hO => absurd (HNO.out _ _ _ _ hO HB.out) (by decide))).trans HB.out
    have hLW : L ≤ W'.heap.size := by have := blk_lt hbb; have := HL.out; omega
    clear hRO
    generalize hxs : la.flatMap attrC = xs at *
    exact match i, hi, ho with
      | 0, _, ho => by
        obtain rfl := Option.some.inj ho
        have e0 : A.tmps[0]?.getD undef = .pointer (some ⟨b, 0, none⟩) := (eval_getD A 0).symm.trans (hx 0 (by decide))
        unfold Oper.wp execOp
        go_simp
        exact hK _ _ (fun d hd => by cases hd; exact rfl) (Ch.refl _ _)
      | 1, _, ho => by
        obtain rfl := Option.some.inj ho
        have e0 : A.tmps[0]?.getD undef = .pointer (some ⟨b, 0, none⟩) := (eval_getD A 0).symm.trans (hx 0 (by decide))
        unfold Oper.wp execOp
        go_simp
        exact hK _ _ (fun d hd => by cases hd; exact rfl) (Ch.refl _ _)
      | 2, _, ho => by
        obtain rfl := Option.some.inj ho
        have e6 : A.tmps[6]?.getD undef = .pointer (some ⟨b, 0, none⟩) := (eval_getD A 6).symm.trans (hr 6 (by decide) (by decide))
        unfold Oper.wp execOp
        go_simp
        exact hK _ _ (fun d hd => by cases hd; exact rfl) (Ch.refl _ _)
      | 3, _, ho => by
        obtain rfl := Option.some.inj ho
        have e7 : A.tmps[7]?.getD undef = .pointer (some ⟨b, 0, none⟩) := (eval_getD A 7).symm.trans (hr 7 (by decide) (by decide))
        unfold Oper.wp execOp
        go_simp
        exact hK _ _ (fun d hd => by cases hd; exact rfl) (Ch.refl _ _)
      | 4, _, ho => by
        obtain rfl := Option.some.inj ho
        have e8 : A.tmps[8]?.getD undef = .pointer (some ⟨b, 9, none⟩) := (eval_getD A 8).symm.trans (hr 8 (by decide) (by decide))
        have l0 : W'.cell? ⟨b, 9, none⟩ = some (.slice SD n f) := blk_cell hbb rfl
        unfold Oper.wp execOp
        go_simp
        exact hK _ _ (fun d hd => by cases hd; exact rfl) (Ch.refl _ _)
      | 5, _, ho => by
        obtain rfl := Option.some.inj ho
        have e1 : A.tmps[1]?.getD undef = .string ak := (eval_getD A 1).symm.trans (hx 1 (by decide))
        unfold Oper.wp execOp
        go_simp
        exact hK _ _ (fun d hd => by cases hd; exact rfl) (Ch.refl _ _)
      | 6, _, ho => by
        obtain rfl := Option.some.inj ho
        have e10 : A.tmps[10]?.getD undef = .string ak := (eval_getD A 10).symm.trans (hr 10 (by decide) (by decide))
        unfold Oper.wp execOp
        go_simp
        (go_at_call 116; refine (newProperty_any).mono ?_; rintro e W2 ⟨rfl, hcp⟩)
        exact hK _ _ (fun d hd => by cases hd; exact rfl) hcp
      | 7, _, ho => by
        obtain rfl := Option.some.inj ho
        have e11 : A.tmps[11]?.getD undef = .agg #[.string ak, .string ⟨#[]⟩] := (eval_getD A 11).symm.trans (hr 11 (by decide) (by decide))
        unfold Oper.wp execOp
        go_simp
        exact hK _ _ (fun d hd => by cases hd; exact ⟨_, rfl, hZW, heap_alloc_new _ _⟩) (Ch.grown (World.grownBy_alloc _ _ none) (by simp))
      | 8, _, ho => by
        obtain rfl := Option.some.inj ho
        obtain ⟨bk12, eq12_, p12_0, p12_1⟩ : ∃ (bk : Nat), A.eval (.tmp 12) = .slice (some ⟨bk, 0, none⟩) 1 1 ∧ Z ≤ bk ∧ W'.heap[bk]? = some (.cells #[.string ak, .string ⟨#[]⟩] 240 (0, 0)) := hr 12 (by decide) (by decide)
        have e12 : A.tmps[12]?.getD undef = .slice (some ⟨bk12, 0, none⟩) 1 1 := (eval_getD A 12).symm.trans eq12_
        have e9 : A.eval (.tmp 9) = .slice SD n f := hr 9 (by decide) (by decide)
        have hown' : W'.ownsRow L 240 2 (.slice SD n f) n xs := by
          have hbf := hb rfl
          subst hbf
          exact own_ch HO.out (((Ch.of_heap (Ch.refl _ w) (w' := w.drew) rfl rfl rfl rfl).trans hR : Ch (fun _ => False) w W'))
        obtain ⟨i0, hi0, hz0, hz1, hz2⟩ := info_parts info240_c
        refine wp_append_lies _ (.tmp 9) (.tmp 12) 105 rfl L 240 i0 _ 2 32 Tryz.underlying105 hi0 hz0 hz1 hz2 rfl (by decide) (.slice SD n f) n xs e9 hown' ⟨bk12, 0, none⟩ 1 1 [.string ak, .string ⟨#[]⟩] eq12_ rfl (World.news_of_block p12_1) (by simp [Value.oneCell']) (by decide) (by unfold maxLen; omega) (by omega) hLW _ rfl ?_
        intro g cap W2 hown2 hgrow2 hat hlt
        exact hK _ _ (fun d hd => by cases hd; exact ⟨g, cap, rfl, hown2⟩) (Ch.grown hgrow2 (fun j hj => hj))
      | 9, _, ho => by
        obtain rfl := Option.some.inj ho
        have e5 : A.tmps[5]?.getD undef = .pointer (some ⟨b, 0, none⟩) := (eval_getD A 5).symm.trans (hr 5 (by decide) (by decide))
        unfold Oper.wp execOp
        go_simp
        exact hK _ _ (fun d hd => by cases hd; exact rfl) (Ch.refl _ _)
      | 10, _, ho => by
        obtain rfl := Option.some.inj ho
        have e14 : A.tmps[14]?.getD undef = .pointer (some ⟨b, 0, none⟩) := (eval_getD A 14).symm.trans (hr 14 (by decide) (by decide))
        unfold Oper.wp execOp
        go_simp
        exact hK _ _ (fun d hd => by cases hd; exact rfl) (Ch.refl _ _)
      | n + 11, hi, _ => absurd hi (by omega)

  · intro oo ho u b' W3 hp hR hu
    have hbt := hp (by decide)
    subst hbt
    obtain rfl := Option.some.inj ho
    obtain ⟨g, cap, hv, hown⟩ : ∃ g cap, u 13 = .slice (some ⟨g, 0, none⟩) (n + 1) cap ∧ W3.ownsRow L 240 2 (.slice (some ⟨g, 0, none⟩) (n + 1) cap) (n + 1) (la.flatMap attrC ++ attrC (ak, ⟨#[]⟩)) := hu 13 (by decide)
    have hv2 : u 15 = .pointer (some ⟨b, 9, none⟩) := hu 15 (by decide)
    have hR0 := (Ch.of_heap (Ch.refl _ w) (w' := w.drew) rfl rfl rfl rfl).trans (show Ch (wpaO SD n f) w.drew W3 from hR)
    have hbb : W3.heap[b]? = some (.cells #[.string name, .int .i64 port, .pointer p, .slice SA lp.length c, .slice SB lf.length d, .pointer q, .pointer r, .slice SC lb.length m, .pointer t, .slice SD n f] 226 (0, 0)) := (hR0.block b (blk_lt HB.out) (fun hO => absurd (HNO.out _ _ _ _ hO HB.out) (by decide))).trans HB.out
    have hf : W3.frozen? ⟨b, 9, none⟩ = false := blk_frozen hbb
    have hold : W3.cell? ⟨b, 9, none⟩ = some (.slice SD n f) := blk_cell hbb rfl
    have hk : Kp 240 w (W3.setCell ⟨b, 9, none⟩ (.slice (some ⟨g, 0, none⟩) (n + 1) cap)) := fun j cs T fr hj h240 h226 => by
      have hj3 : W3.heap[j]? = some (.cells cs T fr) := (hR0.block j (blk_lt hj) (fun hO => h240 (HNO.out _ _ _ _ hO hj))).trans hj
      refine (blk_set_other _ (fun e => ?_)).trans hj3
      subst e
      rw [hbb] at hj3
      injection hj3 with hj3
      injection hj3 with _ ht
      exact h226 ht.symm
    have hb4 := blk_set (j := 9) (.slice (some ⟨g, 0, none⟩) (n + 1) cap) hbb
    have hgb : g ≠ b := fun e => by
      have := own_type (j := g) hown rfl (by rw [e]; exact hbb)
      exact absurd this (by decide)
    have ho4 := hown.kept (grownBy_set W3 b 9 (.slice (some ⟨g, 0, none⟩) (n + 1) cap)) (.inr (by simp [Value.ownBlock, hgb]))
    have hc4 : Ch (fun j => L ≤ j) w (W3.setCell ⟨b, 9, none⟩ (.slice (some ⟨g, 0, none⟩) (n + 1) cap)) := (hR0.mono (fun j hj => (HZ.out j hj).1)).trans (Ch.set _ HL.out _)
    have HK := Lib.hid hk
    have HB4 := Lib.hid hb4
    have HO4 := Lib.hid ho4
    have HC4 := Lib.hid hc4
    clear hR hu hR0 hbb hk hb4 ho4 hc4 hown hgb hp
    rw [wpa_frame, hv, hv2]
    unfold Oper.wp execOp
    go_simp
    clear hf hold hv hv2
    go_wp2
    refine bodyPost_ret (v := .pointer (some ⟨b, 0, none⟩)) (by simp [results, Tryz.results74]) rfl ?_
    refine ⟨rfl, ⟨p, SA, c, SB, d, q, r, SC, m, t, some ⟨g, 0, none⟩, cap, HL.out, ?_, H1.out.kp HK.out (by decide) (by decide), own_kp H2.out HK.out (by decide) (by decide), own_kp H3.out HK.out (by decide) (by decide), H4.out.kp HK.out (by decide) (by decide), (H5.out.kp HK.out (by decide) (by decide)).mono (fun _ k => sConn.kp k HK.out (by decide) (by decide)), own_kp H6.out HK.out (by decide) (by decide), H7.out.kp HK.out (by decide) (by decide), ?_, H9.out⟩, HC4.out⟩
    · have h9 := HB4.out
      rw [List.length_append, HN.out]
      exact h9
    · rw [List.length_append, HN.out, List.flatMap_append]
      simpa using HO4.out

end Go.Proofs.YtimonhimfioohaaGreatDoor
