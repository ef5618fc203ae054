/- ParseExtMap of the thin package. -/
import Derived.Test.YtimonhimfioohaaGreatDoorExtC
import Derived.Test.YtimonhimfioohaaGreatDoorReg7
namespace Go.Proofs.YtimonhimfioohaaGreatDoor
open Go.RowKit

theorem try_76 {p q : Value} {w : World} {Q : World → Prop} (h : Calls Tryz.prog 76 #[p, q] (w.alloc (.cells #[.bool false] 4)) fun e w' => e = .returned (.bool true) ∧ w'.heap[w.heap.size]? = some (.cells #[.bool false] 4 (0, 0)) ∧ Q w') :
    Calls Tryz.prog 44 #[.func (.func 76) #[] #[p, q]] w fun e w' => e = .returned (.bool true) ∧ ∃ w1, w1.heap[w.heap.size]? = some (.cells #[.bool false] 4 (0, 0)) ∧ Q w1 ∧ w' = w1.setCell ⟨w.heap.size, 0, none⟩ (.bool true) := by
  have hmf : ∀ (fn : Fn) (first cap : Array Value) (w : World), (Instr.makeFunc fn first cap).run Tryz.prog w = .ok (.func fn first cap) w := fun _ _ _ _ => rfl
  have H := Lib.hid h
  clear h
  go_enter_defers Tryz.func44, Tryz.ntmps44
  go_wp2_with fail
  go_at_call 76
  refine H.out.mono ?_
  rintro e w1 ⟨rfl, hb1, hq⟩
  have hc : w1.cell? ⟨w.heap.size, 0, none⟩ = some (.bool false) := blk_cell hb1 rfl
  have hz : w1.frozen? ⟨w.heap.size, 0, none⟩ = false := blk_frozen hb1
  have HB := Lib.hid hb1
  have HQ := Lib.hid hq
  clear hb1 hq
  go_wp2
  refine leaves_cons (f := 84) (args := #[.pointer (some ⟨w.heap.size, 0, none⟩)]) (by simp) (by simp [go_sem]) ?_
  refine (try1_idle ⟨w.heap.size, 0, none⟩ _).mono ?_
  rintro e u' w'' ⟨rfl, rfl, rfl⟩
  have hR : (w1.setCell ⟨w.heap.size, 0, none⟩ (.bool true)).cell? ⟨w.heap.size, 0, none⟩ = some (.bool true) := World.cell?_setCell_same _ _ _ hc
  simp [Leaves, settle, results, Tryz.results44, go_sem, hR]
  exact ⟨w1, HB.out, HQ.out, rfl⟩

theorem closure76 {E T v : Nat} {d : Int} {raw U : ByteArray} {ax : List ByteArray} {w : World} (hT : w.cell? ⟨T, 0, none⟩ = some (.string raw)) (h : Calls Tryz.prog 77 #[.pointer (some ⟨E, 0, none⟩), .string raw] w (ExtPost E v d U ax w)) :
    Calls Tryz.prog 76 #[.pointer (some ⟨E, 0, none⟩), .pointer (some ⟨T, 0, none⟩)] w fun e w' => e = .returned (.bool true) ∧ (∃ p q, w'.heap[E]? = some (.cells #[.int .i64 v, .int .i64 d, .pointer p, .pointer q] 159 (0, 0)) ∧ OptP w' 249 p [U] ∧ OptP w' 9 q ax) ∧ Ch (fun k => k = E) w w' := by
  have H := Lib.hid h
  clear h
  go_enter Tryz.func76, Tryz.ntmps76
  go_wp2_with fail
  refine H.out.mono ?_
  rintro e w1 ⟨rfl, hq, hc⟩
  have HQ := Lib.hid hq
  have HC := Lib.hid hc
  clear hq hc
  go_wp2
  go_ret
  exact ⟨rfl, HQ.out, HC.out⟩

theorem Tryz.size85 : (Tryz.prog.info? 85).map (·.size) = some 4 := by kernel_rfl
theorem OptP.other {w w' : World} {T t : TypeId} {K : Nat} {cs : Array Value} {fr : Nat × Nat} {p : Option Addr} {l : List ByteArray} (h : OptP w T p l) (hc : Ch (fun k => k = K) w w') (hK : w.heap[K]? = some (.cells cs t fr)) (hT : T ≠ t) : OptP w' T p l := by
  unfold OptP at *
  split at h
  · exact h
  · obtain ⟨b, h1, h2⟩ := h
    refine ⟨b, h1, (hc.block b (blk_lt h2) (fun e => ?_)).trans h2⟩
    subst e
    rw [h2] at hK
    injection hK with hK
    injection hK with _ ht
    exact hT ht
theorem lst_other {w : World} {K : Nat} {cs : Array Value} {l : List ByteArray} {A : Option Addr} (h : Lst w 1 strC A l) (hA : ∀ a, A = some a → a.block ≠ K) : Lst (w.setRow K cs) 1 strC A l := fun k a ha => by
  obtain ⟨b, o, rfl, h2⟩ := h k a ha
  refine ⟨b, o, rfl, fun j u hu => ?_⟩
  have h3 := h2 j u hu
  have h4 : (w.setRow K cs).heap[b]? = w.heap[b]? := setRow_other w K b cs (fun e => hA ⟨b, o, none⟩ rfl (by first | exact e | exact e.symm))
  exact (World.cell?_of_block (a := ⟨b, o + (k * 1 + j), none⟩) h4).trans h3
def rowAt (RB : Nat) (W : World) : Prop := ∃ old : Array Value, W.heap[RB]? = some (.cells old 85 (0, 0)) ∧ old.size = 4
def pexT (Z E RB v : Nat) (d : Int) (U : ByteArray) (ax : List ByteArray) (p q : Option Addr) (f : Nat → Bool) (k : Nat) (v' : Value) (W : World) : Prop :=
  match k with
  | 9 => v' = .pointer (some ⟨E, 0, none⟩)
  | 10 => v' = .int .i64 v
  | 11 => v' = .pointer (some ⟨E, 1, none⟩)
  | 12 => v' = .int .i64 d
  | 13 => v' = .pointer (some ⟨E, 2, none⟩)
  | 14 => v' = .pointer p
  | 15 => ∃ (A : Option Addr) (c : Nat), v' = .slice A 1 c ∧ Lst W 1 strC A [U] ∧ ∀ a, A = some a → Z ≤ a.block
  | 16 => v' = .pointer (some ⟨E, 3, none⟩)
  | 17 => v' = .pointer q
  | 18 => ∃ (A : Option Addr) (c : Nat), v' = .slice A ax.length c ∧ Lst W 1 strC A ax ∧ ∀ a, A = some a → Z ≤ a.block
  | 19 => ∃ (A : Option Addr) (c : Nat) (B : Option Addr) (cc : Nat), v' = .agg #[.int .i64 v, .int .i64 d, .slice A 1 c, .slice B ax.length cc] ∧ Lst W 1 strC A [U] ∧ Lst W 1 strC B ax ∧ (∀ a, A = some a → Z ≤ a.block) ∧ (∀ a, B = some a → Z ≤ a.block) ∧ (f 11 = true → W.heap[RB]? = some (.cells #[.int .i64 v, .int .i64 d, .slice A 1 c, .slice B ax.length cc] 85 (0, 0)))
  | _ => True

theorem pex_stay {Z E RB v : Nat} {d : Int} {U : ByteArray} {ax : List ByteArray} {p q : Option Addr} {f : Nat → Bool} {i k : Nat} {x : Value} {W W' : World} (hi : i ≠ 11) (hRB : RB < W.heap.size) (hc : Ch (fun _ => False) W W') (h : pexT Z E RB v d U ax p q f k x W) : pexT Z E RB v d U ax p q (upd f i) k x W' := by
  unfold pexT at h ⊢
  split at h
  · exact h
  · exact h
  · exact h
  · exact h
  · exact h
  · exact h
  · obtain ⟨A, c, h1, h2, h3⟩ := h
    exact ⟨A, c, h1, h2.ch hc, h3⟩
  · exact h
  · exact h
  · obtain ⟨A, c, h1, h2, h3⟩ := h
    exact ⟨A, c, h1, h2.ch hc, h3⟩
  · obtain ⟨A, c, B, cc, h1, h2, h3, h4, h5, h6⟩ := h
    refine ⟨A, c, B, cc, h1, h2.ch hc, h3.ch hc, h4, h5, fun hf => ?_⟩
    have hf' : f 11 = true := by simpa [upd, Ne.symm hi] using hf
    exact (hc.block RB hRB id).trans (h6 hf')
  · trivial

set_option maxRecDepth 100000 in
theorem pex_frame (x0 x1 x2 x3 x4 x5 x6 x7 x8 x9 x10 x11 x12 x13 x14 x15 x16 x17 x18 x19 : Value) (d : List Deferred) (u : Nat → Value) : frameOf ⟨#[x0, x1, x2, x3, x4, x5, x6, x7, x8, x9, x10, x11, x12, x13, x14, x15, x16, x17, x18, x19], d⟩ [9, 10, 11, 12, 13, 14, 15, 16, 17, 18, 19] u = ⟨#[x0, x1, x2, x3, x4, x5, x6, x7, x8, u 9, u 10, u 11, u 12, u 13, u 14, u 15, u 16, u 17, u 18, u 19], d⟩ := by kernel_rfl

set_option maxRecDepth 100000 in
set_option maxHeartbeats 4000000 in
theorem parseExt_any {v : Nat} {d : Int} {raw U : ByteArray} {ax : List ByteArray} {w : World} (hax : ax.length ≤ 1)
    (h : ∀ (E : Nat) (W : World), W.heap[E]? = some (.cells #[.int .i64 0, .int .i64 0, .pointer none, .pointer none] 159 (0, 0)) → Ch (fun _ => False) w W → Calls Tryz.prog 77 #[.pointer (some ⟨E, 0, none⟩), .string raw] W (ExtPost E v d U ax W)) :
    Calls Tryz.prog 40 #[.string raw] w fun e w' => ∃ A c B cc, e = .returned (.tuple #[.agg #[.int .i64 v, .int .i64 d, .slice A 1 c, .slice B ax.length cc], .bool true]) ∧ Lst w' 1 strC A [U] ∧ Lst w' 1 strC B ax ∧ Ch (fun _ => False) w w' := by
  have hmf : ∀ (fn : Fn) (first cap : Array Value) (w : World), (Instr.makeFunc fn first cap).run Tryz.prog w = .ok (.func fn first cap) w := fun _ _ _ _ => rfl
  have hA : Ch (fun _ => False) w (((w.alloc (.cells #[.string raw] 9)).alloc (.cells #[.int .i64 0, .int .i64 0, .slice none 0 0, .slice none 0 0] 85)).alloc (.cells #[.int .i64 0, .int .i64 0, .pointer none, .pointer none] 159)) := ((Ch.grown (World.grownBy_alloc _ _ none) (by simp)).trans (Ch.grown (World.grownBy_alloc _ _ none) (by simp))).trans (Ch.grown (World.grownBy_alloc _ _ none) (by simp))
  have hT : (((w.alloc (.cells #[.string raw] 9)).alloc (.cells #[.int .i64 0, .int .i64 0, .slice none 0 0, .slice none 0 0] 85)).alloc (.cells #[.int .i64 0, .int .i64 0, .pointer none, .pointer none] 159)).heap[w.heap.size]? = some (.cells #[.string raw] 9 (0, 0)) :=
    (heap_alloc_old _ _ (by simp; omega)).trans ((heap_alloc_old _ _ (by simp)).trans (heap_alloc_new w _))
  have hR : (((w.alloc (.cells #[.string raw] 9)).alloc (.cells #[.int .i64 0, .int .i64 0, .slice none 0 0, .slice none 0 0] 85)).alloc (.cells #[.int .i64 0, .int .i64 0, .pointer none, .pointer none] 159)).heap[w.heap.size + 1]? = some (.cells #[.int .i64 0, .int .i64 0, .slice none 0 0, .slice none 0 0] 85 (0, 0)) := by
    have h1 := heap_alloc_new (w.alloc (.cells #[.string raw] 9)) (.cells #[.int .i64 0, .int .i64 0, .slice none 0 0, .slice none 0 0] 85)
    rw [World.size_alloc] at h1
    exact (heap_alloc_old _ _ (by simp)).trans h1
  have hE : (((w.alloc (.cells #[.string raw] 9)).alloc (.cells #[.int .i64 0, .int .i64 0, .slice none 0 0, .slice none 0 0] 85)).alloc (.cells #[.int .i64 0, .int .i64 0, .pointer none, .pointer none] 159)).heap[w.heap.size + 1 + 1]? = some (.cells #[.int .i64 0, .int .i64 0, .pointer none, .pointer none] 159 (0, 0)) := by
    have h1 := heap_alloc_new ((w.alloc (.cells #[.string raw] 9)).alloc (.cells #[.int .i64 0, .int .i64 0, .slice none 0 0, .slice none 0 0] 85)) (.cells #[.int .i64 0, .int .i64 0, .pointer none, .pointer none] 159)
    simpa using h1
  have H := Lib.hid h
  clear h
  go_enter Tryz.func40, Tryz.ntmps40
  go_wp2_with fail
  generalize hW : (((w.alloc (.cells #[.string raw] 9)).alloc (.cells #[.int .i64 0, .int .i64 0, .slice none 0 0, .slice none 0 0] 85)).alloc (.cells #[.int .i64 0, .int .i64 0, .pointer none, .pointer none] 159)) = W0 at *
  have hal : Ch (fun _ => False) W0 (W0.alloc (.cells #[.bool false] 4)) := Ch.grown (World.grownBy_alloc _ _ none) (by simp)
  have hcl := closure76 (blk_cell ((hal.block _ (blk_lt hT) id).trans hT) rfl) (H.out _ _ ((hal.block _ (blk_lt hE) id).trans hE) (hA.trans hal))
  have htr := try_76 (w := W0) (Q := fun w' => (∃ p q, w'.heap[w.heap.size + 1 + 1]? = some (.cells #[.int .i64 v, .int .i64 d, .pointer p, .pointer q] 159 (0, 0)) ∧ OptP w' 249 p [U] ∧ OptP w' 9 q ax) ∧ Ch (fun k => k = w.heap.size + 1 + 1) (W0.alloc (.cells #[.bool false] 4)) w') (hcl.mono (by
    rintro e w' ⟨rfl, hq, hc⟩
    have hlt := blk_lt hE
    exact ⟨rfl, (hc.block _ (by simp) (by omega)).trans (heap_alloc_new _ _), hq, hc⟩))
  refine htr.mono ?_
  rintro e W2 ⟨rfl, w1, hb1, ⟨⟨p, q, hE1, hp1, hq1⟩, hc1⟩, rfl⟩
  have hne : ∀ (j : Nat) (cs : Array Value) (T : TypeId), w1.heap[j]? = some (.cells cs T (0, 0)) → T ≠ 4 → (w1.setCell ⟨W0.heap.size, 0, none⟩ (.bool true)).heap[j]? = some (.cells cs T (0, 0)) := fun j cs T hj hT4 =>
    (blk_set_other _ (fun e => by
      rw [← e, hb1] at hj
      injection hj with hj
      injection hj with _ ht
      exact hT4 ht.symm)).trans hj
  have hsc : Ch (fun k => k = W0.heap.size) w1 (w1.setCell ⟨W0.heap.size, 0, none⟩ (.bool true)) := Ch.set (S := fun k => k = W0.heap.size) (k := W0.heap.size) _ rfl _
  have HE := Lib.hid (hne _ _ _ hE1 (by decide))
  have HP := Lib.hid (hp1.other hsc hb1 (by decide))
  have HQ := Lib.hid (hq1.other hsc hb1 (by decide))
  have hlt := blk_lt hE
  have HRB := Lib.hid (hne _ _ _ ((hc1.block _ (by have := blk_lt hR; simp; omega) (by omega)).trans ((hal.block _ (blk_lt hR) id).trans hR)) (by decide))
  have HC := Lib.hid (show Ch (fun _ => False) w (w1.setCell ⟨W0.heap.size, 0, none⟩ (.bool true)) from ((hA.trans hal).fresh hc1 (fun i hi => .inl (by omega))).fresh hsc (fun i hi => .inl (by rw [hi]; exact hA.size)))
  have HRBg := Lib.hid (show w.heap.size ≤ w.heap.size + 1 by omega)
  clear hmf hT hR hE hal hcl htr hb1 hE1 hp1 hq1 hc1 hne hsc hA hlt
  generalize (w1.setCell ⟨W0.heap.size, 0, none⟩ (.bool true)) = W2 at *
  have HEne := Lib.hid (show w.heap.size + 1 + 1 ≠ w.heap.size + 1 by omega)
  obtain ⟨RB, hRB⟩ : ∃ RB, w.heap.size + 1 = RB := ⟨_, rfl⟩
  rw [hRB] at HRB HRBg HEne HE ⊢
  clear hRB
  obtain ⟨E, hE⟩ : ∃ E, RB + 1 = E := ⟨_, rfl⟩
  rw [hE] at HE HEne ⊢
  clear hE hW
  go_upto_region 4 with fail
  obtain ⟨Z, hZ⟩ : ∃ Z, W2.heap.size = Z := ⟨_, rfl⟩
  refine wp_region_ops7 (by kernel_rfl) [9, 10, 11, 12, 13, 14, 15, 16, 17, 18, 19] 12 [] (by kernel_rfl) (by kernel_rfl) (by kernel_rfl) (pexT Z E RB v d U ax p q) (fun W W' => Ch (fun k => k = RB) W W' ∧ (rowAt RB W → rowAt RB W')) (fun _ => ⟨Ch.refl _ _, id⟩) (fun _ _ _ h k => ⟨h.1.trans k.1, fun x => k.2 (h.2 x)⟩) (fun q hq => by cases hq) ?_ ?_
  · intro i oo hi ho A f W' hf hdep hcl hR2 hr hx K hK
    have hR := hR2.1
    have hR0 := (Ch.of_heap (Ch.refl _ W2) (w' := W2.drew) rfl rfl rfl rfl).trans hR
    have hZW : Z ≤ W'.heap.size := by rw [← hZ]; exact hR0.size
    have hRBl : RB < W'.heap.size := Nat.lt_of_lt_of_le (blk_lt HRB.out) hR0.size
    have hRBz : RB < Z := by rw [← hZ]; exact blk_lt HRB.out
    have hE : W'.heap[E]? = some (.cells #[.int .i64 v, .int .i64 d, .pointer p, .pointer q] 159 (0, 0)) := (hR0.block E (blk_lt HE.out) HEne.out).trans HE.out
    have hp := HP.out.other hR0 HRB.out (by decide)
    have hq := HQ.out.other hR0 HRB.out (by decide)
    have hRB : rowAt RB W' := hR2.2 ⟨_, HRB.out, rfl⟩
    exact match i, hi, ho with
      | 0, _, ho => by
        obtain rfl := Option.some.inj ho
        have e4 : A.tmps[4]?.getD undef = .pointer (some ⟨E, 0, none⟩) := (eval_getD A 4).symm.trans (hx 4 (by decide))
        unfold Oper.wp execOp
        go_simp
        have hcc : Ch (fun _ => False) W' _ := Ch.refl _ _
        exact hK _ _ (fun k hk => by cases hk; exact rfl) ⟨hcc.mono (fun _ h => h.elim), fun ⟨old, h1, h2⟩ => ⟨old, (hcc.block RB hRBl id).trans h1, h2⟩⟩ (fun k _ _ h => pex_stay (by decide) hRBl hcc h)
      | 1, _, ho => by
        obtain rfl := Option.some.inj ho
        have e9 : A.tmps[9]?.getD undef = .pointer (some ⟨E, 0, none⟩) := (eval_getD A 9).symm.trans (hr 9 (by decide) (by decide))
        have l0 : W'.cell? ⟨E, 0, none⟩ = some (.int .i64 v) := blk_cell hE rfl
        unfold Oper.wp execOp
        go_simp
        have hcc : Ch (fun _ => False) W' _ := Ch.refl _ _
        exact hK _ _ (fun k hk => by cases hk; exact rfl) ⟨hcc.mono (fun _ h => h.elim), fun ⟨old, h1, h2⟩ => ⟨old, (hcc.block RB hRBl id).trans h1, h2⟩⟩ (fun k _ _ h => pex_stay (by decide) hRBl hcc h)
      | 2, _, ho => by
        obtain rfl := Option.some.inj ho
        have e4 : A.tmps[4]?.getD undef = .pointer (some ⟨E, 0, none⟩) := (eval_getD A 4).symm.trans (hx 4 (by decide))
        unfold Oper.wp execOp
        go_simp
        have hcc : Ch (fun _ => False) W' _ := Ch.refl _ _
        exact hK _ _ (fun k hk => by cases hk; exact rfl) ⟨hcc.mono (fun _ h => h.elim), fun ⟨old, h1, h2⟩ => ⟨old, (hcc.block RB hRBl id).trans h1, h2⟩⟩ (fun k _ _ h => pex_stay (by decide) hRBl hcc h)
      | 3, _, ho => by
        obtain rfl := Option.some.inj ho
        have e11 : A.tmps[11]?.getD undef = .pointer (some ⟨E, 1, none⟩) := (eval_getD A 11).symm.trans (hr 11 (by decide) (by decide))
        have l0 : W'.cell? ⟨E, 1, none⟩ = some (.int .i64 d) := blk_cell hE rfl
        unfold Oper.wp execOp
        go_simp
        have hcc : Ch (fun _ => False) W' _ := Ch.refl _ _
        exact hK _ _ (fun k hk => by cases hk; exact rfl) ⟨hcc.mono (fun _ h => h.elim), fun ⟨old, h1, h2⟩ => ⟨old, (hcc.block RB hRBl id).trans h1, h2⟩⟩ (fun k _ _ h => pex_stay (by decide) hRBl hcc h)
      | 4, _, ho => by
        obtain rfl := Option.some.inj ho
        have e4 : A.tmps[4]?.getD undef = .pointer (some ⟨E, 0, none⟩) := (eval_getD A 4).symm.trans (hx 4 (by decide))
        unfold Oper.wp execOp
        go_simp
        have hcc : Ch (fun _ => False) W' _ := Ch.refl _ _
        exact hK _ _ (fun k hk => by cases hk; exact rfl) ⟨hcc.mono (fun _ h => h.elim), fun ⟨old, h1, h2⟩ => ⟨old, (hcc.block RB hRBl id).trans h1, h2⟩⟩ (fun k _ _ h => pex_stay (by decide) hRBl hcc h)
      | 5, _, ho => by
        obtain rfl := Option.some.inj ho
        have e13 : A.tmps[13]?.getD undef = .pointer (some ⟨E, 2, none⟩) := (eval_getD A 13).symm.trans (hr 13 (by decide) (by decide))
        have l0 : W'.cell? ⟨E, 2, none⟩ = some (.pointer p) := blk_cell hE rfl
        unfold Oper.wp execOp
        go_simp
        have hcc : Ch (fun _ => False) W' _ := Ch.refl _ _
        exact hK _ _ (fun k hk => by cases hk; exact rfl) ⟨hcc.mono (fun _ h => h.elim), fun ⟨old, h1, h2⟩ => ⟨old, (hcc.block RB hRBl id).trans h1, h2⟩⟩ (fun k _ _ h => pex_stay (by decide) hRBl hcc h)
      | 6, _, ho => by
        obtain rfl := Option.some.inj ho
        have e14 : A.tmps[14]?.getD undef = .pointer p := (eval_getD A 14).symm.trans (hr 14 (by decide) (by decide))
        unfold Oper.wp execOp
        go_simp
        (go_at_call 78; refine (urls_l hp (by simp)).mono ?_; rintro e W2 ⟨A, c, rfl, hl, hz, hcp⟩)
        have hcc : Ch (fun _ => False) W' _ := hcp
        exact hK _ _ (fun k hk => by cases hk; exact ⟨A, c, rfl, hl, fun a ha => Nat.le_trans hZW (hz a ha)⟩) ⟨hcc.mono (fun _ h => h.elim), fun ⟨old, h1, h2⟩ => ⟨old, (hcc.block RB hRBl id).trans h1, h2⟩⟩ (fun k _ _ h => pex_stay (by decide) hRBl hcc h)
      | 7, _, ho => by
        obtain rfl := Option.some.inj ho
        have e4 : A.tmps[4]?.getD undef = .pointer (some ⟨E, 0, none⟩) := (eval_getD A 4).symm.trans (hx 4 (by decide))
        unfold Oper.wp execOp
        go_simp
        have hcc : Ch (fun _ => False) W' _ := Ch.refl _ _
        exact hK _ _ (fun k hk => by cases hk; exact rfl) ⟨hcc.mono (fun _ h => h.elim), fun ⟨old, h1, h2⟩ => ⟨old, (hcc.block RB hRBl id).trans h1, h2⟩⟩ (fun k _ _ h => pex_stay (by decide) hRBl hcc h)
      | 8, _, ho => by
        obtain rfl := Option.some.inj ho
        have e16 : A.tmps[16]?.getD undef = .pointer (some ⟨E, 3, none⟩) := (eval_getD A 16).symm.trans (hr 16 (by decide) (by decide))
        have l0 : W'.cell? ⟨E, 3, none⟩ = some (.pointer q) := blk_cell hE rfl
        unfold Oper.wp execOp
        go_simp
        have hcc : Ch (fun _ => False) W' _ := Ch.refl _ _
        exact hK _ _ (fun k hk => by cases hk; exact rfl) ⟨hcc.mono (fun _ h => h.elim), fun ⟨old, h1, h2⟩ => ⟨old, (hcc.block RB hRBl id).trans h1, h2⟩⟩ (fun k _ _ h => pex_stay (by decide) hRBl hcc h)
      | 9, _, ho => by
        obtain rfl := Option.some.inj ho
        have e17 : A.tmps[17]?.getD undef = .pointer q := (eval_getD A 17).symm.trans (hr 17 (by decide) (by decide))
        unfold Oper.wp execOp
        go_simp
        (go_at_call 79; refine (texts_l hq hax).mono ?_; rintro e W2 ⟨A, c, rfl, hl, hz, hcp⟩)
        have hcc : Ch (fun _ => False) W' _ := hcp
        exact hK _ _ (fun k hk => by cases hk; exact ⟨A, c, rfl, hl, fun a ha => Nat.le_trans hZW (hz a ha)⟩) ⟨hcc.mono (fun _ h => h.elim), fun ⟨old, h1, h2⟩ => ⟨old, (hcc.block RB hRBl id).trans h1, h2⟩⟩ (fun k _ _ h => pex_stay (by decide) hRBl hcc h)
      | 10, _, ho => by
        obtain rfl := Option.some.inj ho
        have e10 : A.tmps[10]?.getD undef = .int .i64 v := (eval_getD A 10).symm.trans (hr 10 (by decide) (by decide))
        have e12 : A.tmps[12]?.getD undef = .int .i64 d := (eval_getD A 12).symm.trans (hr 12 (by decide) (by decide))
        obtain ⟨SA, cSA, eq15, lSA, zSA⟩ : ∃ (A' : Option Addr) (c : Nat), A.eval (.tmp 15) = .slice A' 1 c ∧ Lst W' 1 strC A' [U] ∧ ∀ a, A' = some a → Z ≤ a.block := hr 15 (by decide) (by decide)
        have e15 : A.tmps[15]?.getD undef = .slice SA 1 cSA := (eval_getD A 15).symm.trans eq15
        obtain ⟨SB, cSB, eq18, lSB, zSB⟩ : ∃ (A' : Option Addr) (c : Nat), A.eval (.tmp 18) = .slice A' ax.length c ∧ Lst W' 1 strC A' ax ∧ ∀ a, A' = some a → Z ≤ a.block := hr 18 (by decide) (by decide)
        have e18 : A.tmps[18]?.getD undef = .slice SB ax.length cSB := (eval_getD A 18).symm.trans eq18
        unfold Oper.wp execOp
        go_simp
        have hcc : Ch (fun _ => False) W' _ := Ch.refl _ _
        exact hK _ _ (fun k hk => by cases hk; exact ⟨SA, cSA, SB, cSB, rfl, lSA, lSB, zSA, zSB, fun hf9 => absurd hf9 (by have hns : f 11 = false := Bool.eq_false_iff.2 (fun h => by have h1 := hcl 11 h 10 (by decide); rw [hf] at h1; cases h1); simp [upd, hns])⟩) ⟨hcc.mono (fun _ h => h.elim), fun ⟨old, h1, h2⟩ => ⟨old, (hcc.block RB hRBl id).trans h1, h2⟩⟩ (fun k _ _ h => pex_stay (by decide) hRBl hcc h)
      | 11, _, ho => by
        obtain rfl := Option.some.inj ho
        obtain ⟨SA, cA, SB, cB, eq19, lSA, lSB, zSA, zSB, _⟩ : ∃ (A' : Option Addr) (c : Nat) (B : Option Addr) (cc : Nat), A.eval (.tmp 19) = .agg #[.int .i64 v, .int .i64 d, .slice A' 1 c, .slice B ax.length cc] ∧ Lst W' 1 strC A' [U] ∧ Lst W' 1 strC B ax ∧ (∀ a, A' = some a → Z ≤ a.block) ∧ (∀ a, B = some a → Z ≤ a.block) ∧ (f 11 = true → W'.heap[RB]? = some (.cells #[.int .i64 v, .int .i64 d, .slice A' 1 c, .slice B ax.length cc] 85 (0, 0))) := hr 19 (by decide) (by decide)
        have e2 : A.eval (.tmp 2) = .pointer (some ⟨RB, 0, none⟩) := hx 2 (by decide)
        obtain ⟨old, hRBo⟩ := hRB
        refine wp_store_row 85 (.tmp 2) (.tmp 19) rfl RB #[.int .i64 v, .int .i64 d, .slice SA 1 cA, .slice SB ax.length cB] old 85 e2 eq19 hRBo.1 Tryz.size85 hRBo.2 (by as_aux_lemma => kernel_rfl) ?_
        have hset := setRow_heap _ _ _ #[.int .i64 v, .int .i64 d, .slice SA 1 cA, .slice SB ax.length cB] _ _ hRBo.1
        have hoth : ∀ (l : List ByteArray) (S : Option Addr), Lst W' 1 strC S l → (∀ a, S = some a → Z ≤ a.block) → Lst (W'.setRow RB #[.int .i64 v, .int .i64 d, .slice SA 1 cA, .slice SB ax.length cB]) 1 strC S l := fun l S hl hz => lst_other hl (fun a ha => by have := hz a ha; omega)
        refine hK _ _ (fun k hk => by cases hk) ⟨(Ch.refl (fun k => k = RB) W').setRow (.inr rfl) _, fun _ => ⟨_, hset, rfl⟩⟩ (fun k hk hne hT => ?_)
        have hkm : k ∈ [9, 10, 11, 12, 13, 14, 15, 16, 17, 18, 19] := by simpa using hk
        simp only [List.mem_cons, List.not_mem_nil, or_false] at hkm
        rcases hkm with rfl | rfl | rfl | rfl | rfl | rfl | rfl | rfl | rfl | rfl | rfl
        · exact hT
        · exact hT
        · exact hT
        · exact hT
        · exact hT
        · exact hT
        · obtain ⟨S, c, h1, h2, h3⟩ := hT
          exact ⟨S, c, h1, hoth _ _ h2 h3, h3⟩
        · exact hT
        · exact hT
        · obtain ⟨S, c, h1, h2, h3⟩ := hT
          exact ⟨S, c, h1, hoth _ _ h2 h3, h3⟩
        · exact ⟨SA, cA, SB, cB, eq19, hoth _ _ lSA zSA, hoth _ _ lSB zSB, zSA, zSB, fun _ => hset⟩
      | n + 12, hi, _ => absurd hi (by omega)

  · intro oo ho u f W3 hfa hR2 hu
    have hR := hR2.1
    obtain rfl := Option.some.inj ho
    obtain ⟨SA, cA, SB, cB, hv, lSA, lSB, _, _, hrb⟩ : ∃ (A' : Option Addr) (c : Nat) (B : Option Addr) (cc : Nat), u 19 = .agg #[.int .i64 v, .int .i64 d, .slice A' 1 c, .slice B ax.length cc] ∧ Lst W3 1 strC A' [U] ∧ Lst W3 1 strC B ax ∧ (∀ a, A' = some a → Z ≤ a.block) ∧ (∀ a, B = some a → Z ≤ a.block) ∧ (f 11 = true → W3.heap[RB]? = some (.cells #[.int .i64 v, .int .i64 d, .slice A' 1 c, .slice B ax.length cc] 85 (0, 0))) := hu 19 (by decide)
    have hrb := hrb (hfa 11 (by decide))
    have HC3 := Lib.hid (HC.out.fresh ((Ch.of_heap (Ch.refl _ W2) (w' := W2.drew) rfl rfl rfl rfl).trans hR) (fun i hi => .inl (by have := HRBg.out; omega)))
    have hl := run_loadVar_row W3 RB 85 85 #[.int .i64 v, .int .i64 d, .slice SA 1 cA, .slice SB ax.length cB] (0, 0) _ hrb Tryz.underlying85 rfl Tryz.size85
    have HL := Lib.hid hl
    have HA := Lib.hid lSA
    have HB := Lib.hid lSB
    clear hR hR2 hu hv lSA lSB hrb hl
    rw [pex_frame]
    unfold Oper.wp execOp
    go_simp
    go_wp2
    have hl := HL.out
    refine bodyPost_ret (v := .tuple #[.agg #[.int .i64 v, .int .i64 d, .slice SA 1 cA, .slice SB ax.length cB], .bool true]) (by simp [results, Tryz.results40, asAddr, hl]) rfl ?_
    exact ⟨SA, cA, SB, cB, rfl, HA.out, HB.out, HC3.out⟩
end Go.Proofs.YtimonhimfioohaaGreatDoor
