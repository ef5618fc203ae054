/- The line r=1 1 0 (package sdp). -/
import Derived.Test.YtimonhimfioohaaGreatDoorMergB
import Derived.Test.YtimonhimfioohaaGreatDoorMergA
import Derived.OwnWalk
import Derived.Laws.CopyRow
import Derived.Test.YtimonhimfioohaaGreatDoorPort
import Derived.Test.YtimonhimfioohaaGreatDoorSplit

namespace Go.Proofs.YtimonhimfioohaaGreatDoor
open Go.RowKit

theorem info199_l : (Tryz.prog.info? 199).map (fun i => (i.zero, i.size, i.bytes)) = some (some (.agg #[.int .i64 0, .int .i64 0, .slice none 0 0]), 3, 40) := by kernel_rfl

def replT (G m gf capf : Nat) (L Z n : Nat) (v : Value) (xs : List Value) (f : Nat → Bool) (d : Nat) (v' : Value) (W : World) : Prop :=
  match d with
  | 100 => v' = .pointer (some ⟨G, m * 3, none⟩)
  | 101 => v' = .pointer (some ⟨G, m * 3, none⟩)
  | 102 => v' = .pointer (some ⟨G, m * 3, none⟩)
  | 103 => v' = .pointer (some ⟨G, m * 3 + 2, none⟩)
  | 104 => f 7 = true ∨ (v' = v ∧ W.ownsRow L 199 3 v n xs)
  | 105 => v' = .agg #[.int .i64 1, .int .i64 1, .slice (some ⟨gf, 0, none⟩) 1 capf]
  | 106 => f 7 = true ∨ ∃ (k : Nat) , v' = .slice (some ⟨k, 0, none⟩) 1 1 ∧ W.heap[k]? = some (.cells #[.int .i64 1, .int .i64 1, .slice (some ⟨gf, 0, none⟩) 1 capf] 199 (0, 0))
  | 107 => f 7 = true ∧ (W.ownsRow L 199 3 v' (n + 1) (xs ++ [.int .i64 1, .int .i64 1, .slice (some ⟨gf, 0, none⟩) 1 capf]) ∧ lies v Z v')
  | 108 => v' = .pointer (some ⟨G, m * 3, none⟩)
  | 109 => v' = .pointer (some ⟨G, m * 3 + 2, none⟩)
  | _ => True
theorem repl_stay {G m gf capf : Nat} {L Z n : Nat} {v : Value} {xs : List Value} {f : Nat → Bool} {i d : Nat} {x : Value} {W W' : World} (hc : Ch (fun _ => False) W W') (h : replT G m gf capf L Z n v xs f d x W) : replT G m gf capf L Z n v xs (upd f i) d x W' := by
  unfold replT at h ⊢
  split at h
  · exact h
  · exact h
  · exact h
  · exact h
  · exact h.elim (fun h => .inl (by unfold upd; split <;> first | rfl | exact h)) (fun h => .inr ⟨h.1, own_ch h.2 hc⟩)
  · exact h
  · rcases h with h | ⟨k, e, hk⟩
    · exact .inl (by unfold upd; split <;> first | rfl | exact h)
    · exact .inr ⟨k, e, (hc.block _ (blk_lt hk) id).trans hk⟩
  · obtain ⟨h, ho, hz⟩ := h
    exact ⟨(by unfold upd; split <;> first | rfl | exact h), own_ch ho hc, hz⟩
  · exact h
  · exact h
  · trivial
theorem repl_stayA {G m gf capf : Nat} {L Z n : Nat} {v : Value} {xs : List Value} {f : Nat → Bool} {d : Nat} {x : Value} {W W' : World} (hd : d ≠ 107) (_hQ : W.ownsRow L 199 3 v n xs) (_hc : Ch (fun j => v.ownBlock = some j) W W') (h : replT G m gf capf L Z n v xs f d x W) : replT G m gf capf L Z n v xs (upd f 7) d x W' := by
  unfold replT at h ⊢
  split at h
  · exact h
  · exact h
  · exact h
  · exact h
  · exact .inl (by simp [upd])
  · exact h
  · exact .inl (by simp [upd])
  · exact absurd rfl hd
  · exact h
  · exact h
  · trivial
set_option maxRecDepth 100000 in
theorem repl_frame (x0 x1 x2 x3 x4 x5 x6 x7 x8 x9 x10 x11 x12 x13 x14 x15 x16 x17 x18 x19 x20 x21 x22 x23 x24 x25 x26 x27 x28 x29 x30 x31 x32 x33 x34 x35 x36 x37 x38 x39 x40 x41 x42 x43 x44 x45 x46 x47 x48 x49 x50 x51 x52 x53 x54 x55 x56 x57 x58 x59 x60 x61 x62 x63 x64 x65 x66 x67 x68 x69 x70 x71 x72 x73 x74 x75 x76 x77 x78 x79 x80 x81 x82 x83 x84 x85 x86 x87 x88 x89 x90 x91 x92 x93 x94 x95 x96 x97 x98 x99 x100 x101 x102 x103 x104 x105 x106 x107 x108 x109 : Value) (d : List Deferred) (u : Nat → Value) : frameOf ⟨#[x0, x1, x2, x3, x4, x5, x6, x7, x8, x9, x10, x11, x12, x13, x14, x15, x16, x17, x18, x19, x20, x21, x22, x23, x24, x25, x26, x27, x28, x29, x30, x31, x32, x33, x34, x35, x36, x37, x38, x39, x40, x41, x42, x43, x44, x45, x46, x47, x48, x49, x50, x51, x52, x53, x54, x55, x56, x57, x58, x59, x60, x61, x62, x63, x64, x65, x66, x67, x68, x69, x70, x71, x72, x73, x74, x75, x76, x77, x78, x79, x80, x81, x82, x83, x84, x85, x86, x87, x88, x89, x90, x91, x92, x93, x94, x95, x96, x97, x98, x99, x100, x101, x102, x103, x104, x105, x106, x107, x108, x109], d⟩ [100, 101, 102, 103, 104, 105, 106, 107, 108, 109] u = ⟨#[x0, x1, x2, x3, x4, x5, x6, x7, x8, x9, x10, x11, x12, x13, x14, x15, x16, x17, x18, x19, x20, x21, x22, x23, x24, x25, x26, x27, x28, x29, x30, x31, x32, x33, x34, x35, x36, x37, x38, x39, x40, x41, x42, x43, x44, x45, x46, x47, x48, x49, x50, x51, x52, x53, x54, x55, x56, x57, x58, x59, x60, x61, x62, x63, x64, x65, x66, x67, x68, x69, x70, x71, x72, x73, x74, x75, x76, x77, x78, x79, x80, x81, x82, x83, x84, x85, x86, x87, x88, x89, x90, x91, x92, x93, x94, x95, x96, x97, x98, x99, u 100, u 101, u 102, u 103, u 104, u 105, u 106, u 107, u 108, u 109], d⟩ := by kernel_rfl

section
variable {ae : Addr} {S : Nat → Prop} {L D C : Nat} {s : ByteArray} {w0 : World} {cs : Array Value} {i : Nat} {w : World}

/-- The state in unmarshalRepeatTimes' walk. -/
structure RSt (ae : Addr) (S : Nat → Prop) (L D C : Nat) (s : ByteArray) (w0 : World) (cs : Array Value) (T : Nat) (ct : Array Value) (Bt m : Nat) (v : Value) (xt : List Value) (Br n : Nat) (vr : Value) (xs : List Value) (z : Nat) (i : Nat) (W : World) : Prop where
  vs : VSt ae S L D C s w0 cs 199 T ct i W
  hr : W.ownsRow Br 199 3 vr n xs
  ht : W.ownsRow Bt 193 3 v (m + 1) xt
  zw : z ≤ W.heap.size
  rl : ∀ k, vr.ownBlock = some k → k ≠ L ∧ k < z
  tl : ∀ k, v.ownBlock = some k → k ≠ L ∧ k < z
  tz : z ≤ T
section
variable {ct : Array Value} {T Bt m Br n z j : Nat} {v vr : Value} {xt xs : List Value} {W W' : World}
theorem RSt.mv (h : RSt ae S L D C s w0 cs T ct Bt m v xt Br n vr xs z i W) (hm : Mv L (2 + 1) j W W') (hj : j ≤ s.size) : RSt ae S L D C s w0 cs T ct Bt m v xt Br n vr xs z j W' :=
  ⟨h.vs.mv hm hj, own_chX h.hr (hm.ch (S := fun k => k = L) rfl) fun k hk hv => (h.rl k hv).1 hk, own_chX h.ht (hm.ch (S := fun k => k = L) rfl) fun k hk hv => (h.tl k hv).1 hk, by rw [hm.heap]; simpa [World.setCell] using h.zw, h.rl, h.tl, h.tz⟩
theorem RSt.chF (h : RSt ae S L D C s w0 cs T ct Bt m v xt Br n vr xs z i W) (hc : Ch (fun _ => False) W W') : RSt ae S L D C s w0 cs T ct Bt m v xt Br n vr xs z i W' :=
  ⟨h.vs.chF hc, own_ch h.hr hc, own_ch h.ht hc, Nat.le_trans h.zw hc.size, h.rl, h.tl, h.tz⟩
theorem RSt.set (h : RSt ae S L D C s w0 cs T ct Bt m v xt Br n vr xs z i W) (k : Nat) (x : Value) : RSt ae S L D C s w0 cs T (ct.setIfInBounds k x) Bt m v xt Br n vr xs z i (W.setCell ⟨T, k, none⟩ x) :=
  ⟨h.vs.set k x, owns_same h.hr fun k hk => blk_set_other _ (fun e => by have := (h.rl k hk).2; have := h.tz; omega), owns_same h.ht fun k hk => blk_set_other _ (fun e => by have := (h.tl k hk).2; have := h.tz; omega), by simpa [World.setCell] using h.zw, h.rl, h.tl, h.tz⟩
end

set_option maxRecDepth 100000 in
set_option maxHeartbeats 8000000 in
/-- 'r=1 1 0'. -/
theorem rep_line {Bt Br m n : Nat} {v vr : Value} {xt xs : List Value} (h : St ae S L D C s w0 cs i w) {r : List UInt8} (hl : s.data.toList.drop i = 49 :: 32 :: 49 :: 32 :: 48 :: 13 :: 10 :: r) (hr : lead isNl r = 0)
    (hv : cs[14]? = some v) (hot : w.ownsRow Bt 193 3 v (m + 1) (xt ++ [.int .u64 0, .int .u64 0, vr])) (hBt : 6 < Bt) (hm : m ≤ 100000) (hSt : ∀ k, v.ownBlock = some k → S k)
    (hown : w.ownsRow Br 199 3 vr n xs) (hB : Br ≤ w.heap.size) (hB6 : 6 < Br) (hn : n ≤ 100000) (hS : ∀ k, vr.ownBlock = some k → S k) :
    Calls Tryz.prog 227 #[.pointer (some ⟨L, 0, none⟩)] w fun e w' => e = .returned (.tuple #[.func (.func 217) #[] #[], .nilIface]) ∧
      ∃ vr' vo, St ae S L D C s w0 cs (i + 7) w' ∧ w'.ownsRow Bt 193 3 v (m + 1) (xt ++ [.int .u64 0, .int .u64 0, vr']) ∧ w'.ownsRow Br 199 3 vr' (n + 1) (xs ++ [.int .i64 1, .int .i64 1, vo]) ∧ w'.ownsRow w.heap.size 2 1 vo 1 [.int .i64 0] ∧ lies vr w.heap.size vr' := by
  have hlen : i + 7 ≤ s.size := drop_len hl (by simp) h.le
  have HL := Lib.hid hl
  have HX := Lib.hid (show lead isNl (s.data.toList.drop (i + 5)) = 2 from by rw [step_drop hl rfl]; show lead isNl r + 1 + 1 = 2; rw [hr])
  have H0 := Lib.hid (VSt.mk0 h #[.int .i64 0, .int .i64 0, .slice none 0 0] 199)
  have HROWR := Lib.hid (h.row hown hB6 (by decide) (by decide))
  have HROWT := Lib.hid (h.row hot hBt (by decide) (by decide))
  have HSR := Lib.hid hS
  have HLT := Lib.hid (show ∀ k, vr.ownBlock = some k → k < w.heap.size from fun k hk => (hown.lt k hk).2)
  have hal : Ch (fun _ => False) w (w.alloc (.cells #[.int .i64 0, .int .i64 0, .slice none 0 0] 199)) := Ch.grown (World.grownBy_alloc _ _ none) (by simp)
  have HO0 := Lib.hid (own_ch hown hal)
  obtain ⟨G, cap, hvG⟩ := own_form hot
  subst hvG
  have HOT0 := Lib.hid (own_ch hot hal)
  have hxl : xt.length = m * 3 := by
    have h1 := hot.1
    simp at h1
    omega
  have HXL := Lib.hid hxl
  have HSG := Lib.hid (hSt G rfl)
  have HGX := Lib.hid (HROWT.out G rfl)
  have HGLT := Lib.hid ((hot.lt G rfl).2)
  have HVD := Lib.hid hv
  clear h hl hr hown hot hv hS hSt hal hxl
  go_enter Tryz.func227, Tryz.ntmps227
  obtain ⟨T, hT⟩ : ∃ T, w.heap.size = T := ⟨_, rfl⟩
  rw [hT] at H0
  have HW := Lib.hid hT
  have HS0 := Lib.hid (show w.heap.size ≤ (w.alloc (.cells #[.int .i64 0, .int .i64 0, .slice none 0 0] 199)).heap.size by simp)
  have hvD := blk_cell H0.out.st.desc HVD.out
  have hp := H0.out.st.p0
  go_upto_region 3 with fail
  generalize w.alloc (.cells #[.int .i64 0, .int .i64 0, .slice none 0 0] 199) = W0 at *
  go_quiet (fail)
  clear hvD hp
  have hR1 : RSt ae S L D C s w0 cs T #[.int .i64 0, .int .i64 0, .slice none 0 0] Bt m (.slice (some ⟨G, 0, none⟩) (m + 1) cap) (xt ++ [.int .u64 0, .int .u64 0, vr]) Br n vr xs w.heap.size i (W0.drewN nq) :=
    RSt.chF ⟨H0.out, HO0.out, HOT0.out, HS0.out, fun k hk => ⟨(HROWR.out k hk).1, HLT.out k hk⟩, fun k hk => ⟨(HROWT.out k hk).1, by cases hk; exact HGLT.out⟩, Nat.le_of_eq HW.out⟩ (Ch.of_heap (Ch.refl _ _) rfl rfl rfl rfl)
  have R1 := Lib.hid hR1
  clear hR1 hT H0 HO0 HOT0 HS0
  generalize W0.drewN nq = W1 at *
  go_wp2_with fail
  refine (field_at R1.out.vs.st HL.out (by simp) (n := 1) (m := 2) rfl (t := ⟨#[49]⟩) rfl (j := i + 2) rfl).mono ?_
  rintro e w2 ⟨rfl, hm2⟩
  have R2 := Lib.hid (R1.out.mv hm2 (by omega))
  clear hm2
  go_wp2_with fail
  refine (units_one _).mono ?_
  rintro e w3 ⟨rfl, hc3⟩
  have R3 := Lib.hid (R2.out.chF hc3)
  have z3 : w3.frozen? ⟨T, 0, none⟩ = false := blk_frozen R3.out.vs.tb
  have c3 : w3.cell? ⟨T, 0, none⟩ = some (.int .i64 0) := blk_cell R3.out.vs.tb rfl
  clear hc3
  go_wp2_with fail
  have R4 := Lib.hid (R3.out.set 0 (.int .i64 1))
  clear z3 c3
  generalize w3.setCell ⟨T, 0, none⟩ (.int .i64 1) = W4 at *
  refine (field_at R4.out.vs.st (step_drop HL.out rfl) (by simp) (n := 1) (m := 2) rfl (t := ⟨#[49]⟩) rfl (j := i + 4) rfl).mono ?_
  rintro e w5 ⟨rfl, hm5⟩
  have R5 := Lib.hid (R4.out.mv hm5 (by omega))
  clear hm5
  go_wp2_with fail
  refine (units_one _).mono ?_
  rintro e w6 ⟨rfl, hc6⟩
  have R6 := Lib.hid (R5.out.chF hc6)
  have z6 : w6.frozen? ⟨T, 1, none⟩ = false := blk_frozen R6.out.vs.tb
  have c6 : w6.cell? ⟨T, 1, none⟩ = some (.int .i64 0) := blk_cell R6.out.vs.tb rfl
  clear hc6
  go_wp2_with fail
  have R7 := Lib.hid (R6.out.set 1 (.int .i64 1))
  clear z6 c6
  generalize w6.setCell ⟨T, 1, none⟩ (.int .i64 1) = W7 at *
  refine wp_loop_rounds 2 ?_
  rw [rounds_succ]
  go_wp2_with fail
  refine (field_at R7.out.vs.st (step_drop HL.out rfl) (by simp) (n := 1) (m := 1) rfl (t := ⟨#[48]⟩) rfl (j := i + 5) rfl).mono ?_
  rintro e w8 ⟨rfl, hm8⟩
  have R8 := Lib.hid (R7.out.mv hm8 (by omega))
  clear hm8
  go_wp2_with fail
  refine (units_zero _).mono ?_
  rintro e w9 ⟨rfl, hc9⟩
  have R9 := Lib.hid (R8.out.chF hc9)
  clear hc9
  obtain ⟨i0, hi0, hz0, hz1, hz2⟩ := info_parts info2_c
  have c9 : w9.cell? ⟨T, 2, none⟩ = some (.slice none 0 0) := blk_cell R9.out.vs.tb rfl
  have HNW := Lib.hid (show (w9.alloc (.cells #[.int .i64 0] 2)).heap[w9.heap.size]? = some (.cells #[.int .i64 0] 2 (0, 0)) from heap_alloc_new _ _)
  have R9a := Lib.hid (R9.out.chF (Ch.grown (World.grownBy_alloc w9 (.cells #[.int .i64 0] 2) none) (by simp)))
  go_wp2_with (at_builtin; refine wpList_append_lies _ rfl (.tmp 88) (.tmp 90) 197 rfl w.heap.size 2 i0 _ 1 8 Tryz.underlying197 hi0 hz0 hz1 hz2 rfl (by decide) (.slice none 0 0) 0 [] rfl (World.ownsRow_nil _ _ _ _) ⟨w9.heap.size, 0, none⟩ 1 1 [.int .i64 0] rfl rfl (World.news_of_block HNW.out) (by simp [Value.oneCell']) (by decide) (by unfold maxLen; omega) (by omega) R9a.out.zw _ rfl ?_; intro gf capf w10 hown10 hgrow10 hat10 hlt10; have R10 := Lib.hid (R9a.out.chF (Ch.grown hgrow10 (fun k hk => by cases hk))); have HF10 := Lib.hid hown10; have c10 : w10.cell? ⟨T, 2, none⟩ = some (.slice none 0 0) := blk_cell R10.out.vs.tb rfl; have z10 : w10.frozen? ⟨T, 2, none⟩ = false := blk_frozen R10.out.vs.tb; clear hown10 hgrow10 hat10 hlt10)
  rw [show (0 + 1 : Nat) = 1 from rfl] at HF10
  have R11 := Lib.hid (R10.out.set 2 (.slice (some ⟨gf, 0, none⟩) 1 capf))
  have HNT := Lib.hid (show ∀ k, (Value.slice (some ⟨gf, 0, none⟩) 1 capf).ownBlock = some k → T ≠ k from fun k hk e => by subst e; exact absurd (own_type HF10.out hk R10.out.vs.tb) (by decide))
  have HF11 := Lib.hid (owns_same (w' := w10.setCell ⟨T, 2, none⟩ (.slice (some ⟨gf, 0, none⟩) 1 capf)) HF10.out fun k hk => blk_set_other _ (HNT.out k hk))
  clear c9 c10 z10 hi0 hz0 hz1 hz2
  clear HF10 HNT
  generalize w10.setCell ⟨T, 2, none⟩ (.slice (some ⟨gf, 0, none⟩) 1 capf) = W11 at *
  rw [rounds_succ]
  go_wp2_with fail
  refine (field_at R11.out.vs.st (step_drop HL.out rfl) (by simp) (n := 0) (m := 0) rfl (t := ⟨#[]⟩) rfl (j := i + 5) rfl).mono ?_
  rintro e w12 ⟨rfl, hm12⟩
  have R12 := Lib.hid (R11.out.mv hm12 (by omega))
  have HF12 := Lib.hid (own_chX HF11.out (hm12.ch (S := fun k => k = L) rfl) (own_off HF11.out (NotT.one R11.out.vs.st.lexb (by decide))))
  clear hm12
  go_wp2_with fail
  refine (nextLine_ok R12.out.vs.st.lx).mono ?_
  rw [HX.out]
  rintro e w13 ⟨rfl, hm13⟩
  have R13 := Lib.hid (R12.out.mv hm13 hlen)
  have HOF := Lib.hid (own_chX HF12.out (hm13.ch (S := fun k => k = L) rfl) (own_off HF12.out (NotT.one R12.out.vs.st.lexb (by decide))))
  clear hm13
  go_upto_region 27 with fail
  have H9 := Lib.hid (show VSt ae S L D C s w0 cs 199 T #[.int .i64 1, .int .i64 1, .slice (some ⟨gf, 0, none⟩) 1 capf] (i + 7) w13 from R13.out.vs)
  have HOWN := Lib.hid R13.out.hr
  have HOT := Lib.hid R13.out.ht
  have HZW := Lib.hid R13.out.zw
  have HLW := Lib.hid (Nat.le_trans hB HZW.out)
  have HTBK := Lib.hid (show ¬ (vr.ownBlock = some T) from fun e => by have := HLT.out T e; have := HW.out; omega)
  have HGBK := Lib.hid (show ¬ (vr.ownBlock = some G) from own_ne2 HOWN.out HOT.out (by decide) rfl)
  obtain ⟨curG, hcurG⟩ : ∃ cur, w13.heap[G]? = some (.cells cur 193 (0, 0)) := by
    rcases HOT.out.2 with ⟨h1, _⟩ | ⟨g', cap', cur, he, _, hb, _⟩
    · cases h1
    · cases he
      exact ⟨cur, hb⟩
  have HGB := Lib.hid hcurG
  have hGV : w13.cell? ⟨G, m * 3 + 2, none⟩ = some vr := by
    have h1 := HOT.out.cellAt (m * 3 + 2) (by omega)
    simpa [← HXL.out] using h1
  have HGV := Lib.hid hGV
  have HXS := Lib.hid (show ∀ u : Value, (xt ++ [Value.int .u64 0, Value.int .u64 0, vr]).set (m * 3 + 2) u = xt ++ [Value.int .u64 0, Value.int .u64 0, u] from fun u => by
    rw [← HXL.out, List.set_append_right _ _ (by omega), Nat.add_sub_cancel_left]
    rfl)
  clear hcurG hGV
  clear R1 R2 R3 R4 R5 R6 R7 R8 R9 R9a R10 R11 R12 R13 HF11 HF12 HNW
  refine wp_region_ops8 (by kernel_rfl) [100, 101, 102, 103, 104, 105, 106, 107, 108, 109] 10 [] (by kernel_rfl) (by kernel_rfl) (by kernel_rfl) (replT G m gf capf Br w.heap.size n vr xs) (appR Br 199 3 n vr xs 7 w13) ⟨Ch.of_heap (Ch.refl _ w13) rfl rfl rfl rfl, .inr HOWN.out⟩ (fun q hq => by cases hq) ?_ ?_
  · intro i oo hi ho A f W' hf hdep hcl hR hr hx K hK
    have hRc := hR.1
    have hLW : Br ≤ W'.heap.size := Nat.le_trans HLW.out hRc.size
    have hZW : w.heap.size ≤ W'.heap.size := Nat.le_trans HZW.out hRc.size
    have hGv : W'.cell? ⟨G, m * 3 + 2, none⟩ = some vr := hRc.cell HGV.out HGBK.out
    have hT : W'.heap[T]? = some (.cells #[.int .i64 1, .int .i64 1, .slice (some ⟨gf, 0, none⟩) 1 capf] 199 (0, 0)) := (hRc.block T (blk_lt H9.out.tb) HTBK.out).trans H9.out.tb
    exact match i, hi, ho with
      | 0, _, ho => by
        obtain rfl := Option.some.inj ho
        have e6 : A.tmps[6]?.getD undef = .pointer (some ⟨G, m * 3, none⟩) := (eval_getD A 6).symm.trans (hx 6 (by decide))
        unfold Oper.wp execOp
        go_simp
        have hcc : Ch (fun _ => False) W' _ := Ch.refl _ _
        exact hK _ _ (fun d hd => by cases hd; exact rfl) (appR_step (by decide) hcc hR) (fun d _ _ h => repl_stay hcc h)
      | 1, _, ho => by
        obtain rfl := Option.some.inj ho
        have e6 : A.tmps[6]?.getD undef = .pointer (some ⟨G, m * 3, none⟩) := (eval_getD A 6).symm.trans (hx 6 (by decide))
        unfold Oper.wp execOp
        go_simp
        have hcc : Ch (fun _ => False) W' _ := Ch.refl _ _
        exact hK _ _ (fun d hd => by cases hd; exact rfl) (appR_step (by decide) hcc hR) (fun d _ _ h => repl_stay hcc h)
      | 2, _, ho => by
        obtain rfl := Option.some.inj ho
        have e101 : A.tmps[101]?.getD undef = .pointer (some ⟨G, m * 3, none⟩) := (eval_getD A 101).symm.trans (hr 101 (by decide) (by decide))
        unfold Oper.wp execOp
        go_simp
        have hcc : Ch (fun _ => False) W' _ := Ch.refl _ _
        exact hK _ _ (fun d hd => by cases hd; exact rfl) (appR_step (by decide) hcc hR) (fun d _ _ h => repl_stay hcc h)
      | 3, _, ho => by
        obtain rfl := Option.some.inj ho
        have e102 : A.tmps[102]?.getD undef = .pointer (some ⟨G, m * 3, none⟩) := (eval_getD A 102).symm.trans (hr 102 (by decide) (by decide))
        unfold Oper.wp execOp
        go_simp
        have hcc : Ch (fun _ => False) W' _ := Ch.refl _ _
        exact hK _ _ (fun d hd => by cases hd; exact rfl) (appR_step (by decide) hcc hR) (fun d _ _ h => repl_stay hcc h)
      | 4, _, ho => by
        obtain rfl := Option.some.inj ho
        have e103 : A.tmps[103]?.getD undef = .pointer (some ⟨G, m * 3 + 2, none⟩) := (eval_getD A 103).symm.trans (hr 103 (by decide) (by decide))
        have hl0 := hGv
        unfold Oper.wp execOp
        go_simp
        have hfa : f 7 = false := Bool.eq_false_iff.2 (fun h => by have h1 := hcl 7 h 4 (by decide); rw [hf] at h1; cases h1)
        have hcc : Ch (fun _ => False) W' _ := Ch.refl _ _
        exact hK _ _ (fun d hd => by cases hd; exact .inr ⟨rfl, hR.2.resolve_left (by rw [hfa]; decide)⟩) (appR_step (by decide) hcc hR) (fun d _ _ h => repl_stay hcc h)
      | 5, _, ho => by
        obtain rfl := Option.some.inj ho
        have l0 : W'.cell? ⟨T, 0, none⟩ = some (.int .i64 1) := blk_cell hT rfl
        have l1 : W'.cell? ⟨T, 1, none⟩ = some (.int .i64 1) := blk_cell hT rfl
        have l2 : W'.cell? ⟨T, 2, none⟩ = some (.slice (some ⟨gf, 0, none⟩) 1 capf) := blk_cell hT rfl
        have e5 : A.tmps[5]?.getD undef = .pointer (some ⟨T, 0, none⟩) := (eval_getD A 5).symm.trans (hx 5 (by decide))
        unfold Oper.wp execOp
        go_simp
        have hcc : Ch (fun _ => False) W' _ := Ch.refl _ _
        exact hK _ _ (fun d hd => by cases hd; exact rfl) (appR_step (by decide) hcc hR) (fun d _ _ h => repl_stay hcc h)
      | 6, _, ho => by
        obtain rfl := Option.some.inj ho
        have e105 : A.tmps[105]?.getD undef = .agg #[.int .i64 1, .int .i64 1, .slice (some ⟨gf, 0, none⟩) 1 capf] := (eval_getD A 105).symm.trans (hr 105 (by decide) (by decide))
        unfold Oper.wp execOp
        go_simp
        have hcc : Ch (fun _ => False) W' (W'.alloc (.cells #[.int .i64 1, .int .i64 1, .slice (some ⟨gf, 0, none⟩) 1 capf] 199)) := Ch.grown (World.grownBy_alloc _ _ none) (by simp)
        exact hK _ _ (fun d hd => by cases hd; exact .inr ⟨_, rfl, heap_alloc_new _ _⟩) (appR_step (by decide) hcc hR) (fun d _ _ h => repl_stay hcc h)
      | 7, _, ho => by
        obtain rfl := Option.some.inj ho
        have hls : f 7 = true ∨ (A.eval (.tmp 104) = vr ∧ W'.ownsRow Br 199 3 vr n xs) := hr 104 (by decide) (by decide)
        obtain ⟨els, hown⟩ := hls.resolve_left (by rw [hf]; decide)
        have hbs : f 7 = true ∨ ∃ (k : Nat) , A.eval (.tmp 106) = .slice (some ⟨k, 0, none⟩) 1 1 ∧ W'.heap[k]? = some (.cells #[.int .i64 1, .int .i64 1, .slice (some ⟨gf, 0, none⟩) 1 capf] 199 (0, 0)) := hr 106 (by decide) (by decide)
        obtain ⟨k, ebs, hk⟩ := hbs.resolve_left (by rw [hf]; decide)
        obtain ⟨i0, hi0, hz0, hz1, hz2⟩ := info_parts info199_l
        refine wp_append_lies _ (.tmp 104) (.tmp 106) 191 rfl Br 199 i0 _ 3 40 Tryz.underlying191 hi0 hz0 hz1 hz2 rfl (by decide) vr n xs els hown ⟨k, 0, none⟩ 1 1 [.int .i64 1, .int .i64 1, .slice (some ⟨gf, 0, none⟩) 1 capf] ebs rfl (World.news_of_block hk) (by simp [Value.oneCell']) (by decide) (by unfold maxLen; omega) (by omega) hLW _ rfl ?_
        intro g cap W2 hown2 hgrow2 hat hlt
        have hco : Ch (fun j => vr.ownBlock = some j) W' W2 := Ch.grown hgrow2 (fun j hj => hj)
        exact hK _ _ (fun d hd => by cases hd; exact ⟨by simp [upd], hown2, lies_at hat hZW⟩) (appR_app hco hR) (fun d _ hne h => repl_stayA (fun e => hne (by subst e; rfl)) hown hco h)
      | 8, _, ho => by
        obtain rfl := Option.some.inj ho
        have e100 : A.tmps[100]?.getD undef = .pointer (some ⟨G, m * 3, none⟩) := (eval_getD A 100).symm.trans (hr 100 (by decide) (by decide))
        unfold Oper.wp execOp
        go_simp
        have hcc : Ch (fun _ => False) W' _ := Ch.refl _ _
        exact hK _ _ (fun d hd => by cases hd; exact rfl) (appR_step (by decide) hcc hR) (fun d _ _ h => repl_stay hcc h)
      | 9, _, ho => by
        obtain rfl := Option.some.inj ho
        have e108 : A.tmps[108]?.getD undef = .pointer (some ⟨G, m * 3, none⟩) := (eval_getD A 108).symm.trans (hr 108 (by decide) (by decide))
        unfold Oper.wp execOp
        go_simp
        have hcc : Ch (fun _ => False) W' _ := Ch.refl _ _
        exact hK _ _ (fun d hd => by cases hd; exact rfl) (appR_step (by decide) hcc hR) (fun d _ _ h => repl_stay hcc h)
      | n + 10, hi, _ => absurd hi (by omega)
  · intro oo ho u f W3 hfa hR hu
    obtain rfl := Option.some.inj ho
    have hap : f 7 = true ∧ (W3.ownsRow Br 199 3 (u 107) (n + 1) (xs ++ [.int .i64 1, .int .i64 1, .slice (some ⟨gf, 0, none⟩) 1 capf]) ∧ lies vr w.heap.size ((u 107))) := hu 107 (by decide)
    have hRc := hR.1
    have hv1 : u 109 = .pointer (some ⟨G, m * 3 + 2, none⟩) := hu 109 (by decide)
    have hc3 : W3.cell? ⟨G, m * 3 + 2, none⟩ = some vr := hRc.cell HGV.out HGBK.out
    have hG3 := (hRc.block G (blk_lt HGB.out) HGBK.out).trans HGB.out
    have hf3 : W3.frozen? ⟨G, m * 3 + 2, none⟩ = false := blk_frozen hG3
    have HG3 := Lib.hid hG3
    have ⟨ho9, hz9⟩ := hap.2
    obtain ⟨g9, cap9, hvn⟩ := own_form ho9
    rw [hvn] at ho9 hz9
    have HO9a := Lib.hid ho9
    have HZ9 := Lib.hid hz9
    have HT9 := Lib.hid (own_chX HOT.out hRc (fun k hk => own_ne2 HOT.out HOWN.out (by decide) hk))
    have HF9 := Lib.hid (own_chX HOF.out hRc (fun k hk => own_ne2 HOF.out HOWN.out (by decide) hk))
    have H10 := Lib.hid (H9.out.st.chX hRc (fun k hk => HROWR.out k hk) HSR.out)
    clear hR hu hfa hRc hap ho9 hz9 hG3
    rw [repl_frame, hv1, hvn]
    unfold Oper.wp execOp
    go_simp
    clear hv1 hf3 hc3 hvn
    have H11 := Lib.hid (H10.out.old (grownBy_set _ G (m * 3 + 2) (.slice (some ⟨g9, 0, none⟩) (n + 1) cap9)) (by simp; exact Ne.symm HGX.out.1) (by simp; exact Ne.symm HGX.out.2.1) (by simp; exact Ne.symm HGX.out.2.2) (fun k hk => by cases hk; exact .inr HSG.out))
    have hset := own_set (j := m * 3 + 2) (u := .slice (some ⟨g9, 0, none⟩) (n + 1) cap9) HT9.out
    rw [HXS.out] at hset
    have HSET := Lib.hid hset
    clear hset
    go_wp2_with fail
    go_ret2
    refine ⟨rfl, .slice (some ⟨g9, 0, none⟩) (n + 1) cap9, .slice (some ⟨gf, 0, none⟩) 1 capf, H11.out, HSET.out, ?_, ?_, fun k hk => HZ9.out k hk⟩
    · exact owns_same HO9a.out fun k hk => blk_set_other _ (fun e => own_not HO9a.out HG3.out (by decide) (by rw [hk, e]))
    · exact owns_same HF9.out fun k hk => blk_set_other _ (fun e => own_not HF9.out HG3.out (by decide) (by rw [hk, e]))

end
end Go.Proofs.YtimonhimfioohaaGreatDoor

namespace Go.Proofs.YtimonhimfioohaaGreatDoor
open Go.RowKit

/-- 'copy' between rows whose elements have several cells. -/
theorem run_copy_many {P : Program} (w : World) (dT sT ty elem : TypeId) (sz g dLen dCap : Nat) (a : Addr) (sLen sCap : Nat) (cur : Array Value) (t : TypeId) (cs : List Value)
    (hu : P.underlying dT = some (.slice elem)) (hs : (P.info? elem).map (·.size) = some sz)
    (hg : w.heap[g]? = some (.cells cur t (0, 0))) (hn : cs.length = Nat.min sLen dLen * sz)
    (hsrc : ∀ j v, cs[j]? = some v → w.cell? (a.add j) = some v) (hfit : cs.length ≤ cur.size) (h1 : ∀ v ∈ cs, v.oneCell' = true) :
    (Builtin.copy_ #[dT, sT] ty #[.slice (some ⟨g, 0, none⟩) dLen dCap, .slice (some a) sLen sCap]).run P w =
      .ok (goInt (Nat.min sLen dLen)) (w.setRow g (cs ++ cur.toList.drop cs.length).toArray) := by
  have hl := run_loadCells_list (P := P) w a cs hsrc
  have hst := run_storeCells_at P g 0 t cs 0 cur w hg (by simpa using hfit) h1
  cases hq : P.info? elem with
  | none => simp [hq] at hs
  | some i =>
    have hi : i.size = sz := by simpa [hq] using hs
    rw [hn] at hl
    have hst' : (storeCells ⟨g, 0, none⟩ cs).run P w = .ok () (w.setRow g (cs ++ cur.toList.drop cs.length).toArray) := by simpa using hst
    simp [Builtin.copy_, run_underlying hu, Builtin.lenOf, Builtin.firstCells, sizeOf, typeInfo, hq, hi, hl, hst']
theorem wpList_copy_many {P : Program} {w : World} {ops : Array Oper} {rest : List Oper} {o : Oper} {a : Act} {Q : Exit → Act → World → Prop} (hgd : o.guard = none) (d s : Operand) (dT sT : TypeId)
    (ho : o.op = .call { callee := .builtin .copy, args := #[d, s], argTypes := #[dT, sT] }) (elem : TypeId) (sz : Nat) (hu : P.underlying dT = some (.slice elem)) (hsz : (P.info? elem).map (·.size) = some sz)
    (g dLen dCap : Nat) (ad : Addr) (sLen sCap : Nat) (hd : a.eval d = .slice (some ⟨g, 0, none⟩) dLen dCap) (hs : a.eval s = .slice (some ad) sLen sCap)
    (cur : Array Value) (t : TypeId) (hg : w.heap[g]? = some (.cells cur t (0, 0))) (cs : List Value) (hn : cs.length = Nat.min sLen dLen * sz)
    (hsrc : ∀ j v, cs[j]? = some v → w.cell? (ad.add j) = some v) (hfit : cs.length ≤ cur.size) (h1 : ∀ v ∈ cs, v.oneCell' = true)
    (h : wpList P ops Q rest (a.put o.dst (goInt (Nat.min sLen dLen))) (w.setRow g (cs ++ cur.toList.drop cs.length).toArray)) : wpList P ops Q (o :: rest) a w := by
  refine wpList_plain hgd fun K hK => ?_
  have hrun := run_copy_many (P := P) w dT sT o.type elem sz g dLen dCap ad sLen sCap cur t cs hu hsz hg hn hsrc hfit h1
  unfold Oper.wp
  simp [execOp, ho, resolve, invoke, builtin, hd, hs, hrun, Result.andThen]
  exact hK _ _ h

set_option maxRecDepth 100000 in
set_option maxHeartbeats 4000000 in
theorem cloneSession_any {C Bs : Nat} {va vm : Value} {la : List (ByteArray × ByteArray)} {w : World} (hC : w.heap[C]? = some (.cells #[va, vm] 172 (0, 0))) (ho : w.ownsRow Bs 240 2 va la.length (la.flatMap attrC)) (hn : la.length ≤ 100000) :
    Calls Tryz.prog 87 #[.pointer (some ⟨C, 0, none⟩)] w fun e w' => ∃ a n c va', e = .returned (.slice a n c) ∧ w'.ownsRow w.heap.size 240 2 (.slice a n c) la.length (la.flatMap attrC) ∧ w'.heap[C]? = some (.cells #[va', vm] 172 (0, 0)) ∧
      w'.ownsRow Bs 240 2 va' 0 [] ∧ (∀ k, va'.ownBlock = some k → va.ownBlock = some k) ∧ Ch (fun k => k = C) w w' := by
  obtain ⟨i0, hi0, hz0, hz1, hz2⟩ := info_parts info240_c
  cases la with
  | nil =>
    obtain ⟨S0, c0, hv⟩ := own_slice ho
    have hva := hv
    subst hv
    have hc : w.cell? ⟨C, 0, none⟩ = some (.slice S0 0 c0) := blk_cell hC rfl
    have HO := Lib.hid ho
    have HC := Lib.hid hC
    clear ho hC
    go_enter Tryz.func87, Tryz.ntmps87
    go_wp2
    refine bodyPost_ret (v := .slice none 0 0) (by simp [results, Tryz.results87]) rfl ?_
    exact ⟨none, 0, 0, _, rfl, World.ownsRow_nil _ _ _ _, HC.out, HO.out, fun _ h => h, Ch.refl _ _⟩
  | cons x l =>
    obtain ⟨g, cap, hv⟩ := own_form ho
    subst hv
    obtain ⟨n, hnl⟩ : ∃ n, l.length = n := ⟨_, rfl⟩
    have hc : w.cell? ⟨C, 0, none⟩ = some (.slice (some ⟨g, 0, none⟩) (n + 1) cap) := blk_cell hC (by rw [← hnl]; rfl)
    have hn' : n + 1 ≤ 100000 := by rw [← hnl]; exact hn
    have ho' : w.ownsRow Bs 240 2 (.slice (some ⟨g, 0, none⟩) (n + 1) cap) (n + 1) ((x :: l).flatMap attrC) := by rw [← hnl]; exact ho
    have hlen := ho'.1
    have hsrc : ∀ j v, ((x :: l).flatMap attrC)[j]? = some v → w.cell? ⟨g, j, none⟩ = some v := fun j v hj => by
      rw [ho'.cellAt j (by rw [← hlen]; exact (List.getElem?_eq_some_iff.1 hj).1)]
      exact hj
    have h1 : ∀ v ∈ (x :: l).flatMap attrC, v.oneCell' = true := fun v hv => by
      obtain ⟨y, _, hy⟩ := List.mem_flatMap.1 hv
      exact attrC_one y v hy
    have HO := Lib.hid ho'
    have HC := Lib.hid (show w.heap[C]? = some (.cells #[.slice (some ⟨g, 0, none⟩) (n + 1) cap, vm] 172 (0, 0)) from by rw [← hnl]; exact hC)
    have HSRC := Lib.hid hsrc
    have HONE := Lib.hid h1
    have HLEN := Lib.hid hlen
    have HNL := Lib.hid hnl
    obtain ⟨ys, hys⟩ : ∃ ys, (x :: l).flatMap attrC = ys := ⟨_, rfl⟩
    have HYS := Lib.hid hys
    rw [hys] at HO HSRC HONE HLEN
    have HGC := Lib.hid (show g ≠ C from fun e => by subst e; exact absurd (own_type HO.out rfl hC) (by decide))
    have HGW := Lib.hid ((HO.out.lt g rfl).2)
    clear ho ho' hC hsrc h1 hlen hn hnl hys
    have q0 : (((n : Int) + 1) == 0) = false := by simp; omega
    have q1 : ((((n + 1 : Nat)) : Int) == 0) = false := by simp; omega
    go_enter Tryz.func87, Tryz.ntmps87
    go_wp2_with (refine wpList_make_full _ rfl (.tmp 14) (.tmp 14) 105 rfl w.heap.size 240 i0 _ 2 Tryz.underlying105 hi0 hz0 hz1 .i64 .i64 ((n : Int) + 1) ((n : Int) + 1) (n + 1) rfl rfl (by omega) (by omega) (by rw [hz2]; omega) (by unfold maxLen; omega) (Nat.le_refl _) ?_; intro w1 hown1 hgrow1; have HO1 := Lib.hid hown1; have hc1 := Ch.grown (S := fun _ => False) hgrow1 (fun k hk => by cases hk); have HCH1 := Lib.hid hc1; have e1 : w1.cell? ⟨C, 0, none⟩ = some (.slice (some ⟨g, 0, none⟩) (n + 1) cap) := hc1.cell0 hc; clear hown1 hgrow1 hc1)
    obtain ⟨cur, hcur, hcsz⟩ : ∃ cur, w1.heap[w.heap.size]? = some (.cells cur 240 (0, 0)) ∧ cur.size = (n + 1) * 2 := by
      rcases HO1.out.2 with ⟨h1, _⟩ | ⟨g', cap', cur, he, _, hb, _, _, hsz, _⟩
      · cases h1
      · cases he
        exact ⟨cur, hb, hsz⟩
    have HCUR := Lib.hid hcur
    have HSR1 := Lib.hid (show ∀ j v, ys[j]? = some v → w1.cell? ((⟨g, 0, none⟩ : Addr).add j) = some v from fun j v hj => by
      have ha : (⟨g, 0, none⟩ : Addr).add j = ⟨g, j, none⟩ := by unfold Addr.add; split <;> simp_all
      rw [ha]
      exact HCH1.out.cell0 (HSRC.out j v hj))
    clear hcur
    have hC1 := (HCH1.out.block C (blk_lt HC.out) id).trans HC.out
    have HCL := Lib.hid (blk_lt HC.out)
    obtain ⟨W2, hW2⟩ : ∃ W2, w1.setRow w.heap.size (ys ++ cur.toList.drop ys.length).toArray = W2 := ⟨_, rfl⟩
    have hdrop : (ys ++ cur.toList.drop ys.length).toArray = ys.toArray := by
      rw [List.drop_of_length_le (by simp; rw [HLEN.out, hcsz]; exact Nat.le_refl _), List.append_nil]
    have hG2 : W2.heap[w.heap.size]? = some (.cells ys.toArray 240 (0, 0)) := by
      rw [← hW2, hdrop]
      exact setRow_heap _ _ _ _ _ _ HCUR.out
    have hC2 : W2.heap[C]? = some (.cells #[.slice (some ⟨g, 0, none⟩) (n + 1) cap, vm] 172 (0, 0)) := by
      rw [← hW2]
      exact (setRow_other _ _ _ _ (Nat.ne_of_lt HCL.out)).trans hC1
    have hCH2 : Ch (fun _ => False) w W2 := by
      rw [← hW2]
      exact HCH1.out.setRow (.inl (Nat.le_refl _)) _
    have c2 : W2.cell? ⟨C, 0, none⟩ = some (.slice (some ⟨g, 0, none⟩) (n + 1) cap) := blk_cell hC2 rfl
    have z2 : W2.frozen? ⟨C, 0, none⟩ = false := blk_frozen hC2
    have HG2 := Lib.hid hG2
    have HC2 := Lib.hid hC2
    have HCH2 := Lib.hid hCH2
    have HW2 := Lib.hid hW2
    clear hC1 hdrop hG2 hC2 hCH2 hW2
    have hcp : (Builtin.copy_ #[105, 105] 3 #[.slice (some ⟨w.heap.size, 0, none⟩) (n + 1) (n + 1), .slice (some ⟨g, 0, none⟩) (n + 1) cap]).run Tryz.prog w1 = .ok (goInt (Nat.min (n + 1) (n + 1))) W2 := by
      rw [← HW2.out]
      exact run_copy_many w1 105 105 3 240 2 w.heap.size (n + 1) (n + 1) ⟨g, 0, none⟩ (n + 1) cap cur 240 ys Tryz.underlying105 (by rw [hi0]; simp [hz1]) HCUR.out (by rw [HLEN.out]; simp) HSR1.out (by rw [HLEN.out, hcsz]; exact Nat.le_refl _) HONE.out
    rw [hcp]
    go_wp2
    refine bodyPost_ret (v := .slice (some ⟨w.heap.size, 0, none⟩) (n + 1) (n + 1)) (by simp [results, Tryz.results87]) rfl ?_
    have HGN := Lib.hid (show w.heap.size ≠ C by have := HCL.out; omega)
    rw [HYS.out]
    rw [HNL.out]
    refine ⟨_, _, _, .slice (some ⟨g, 0, none⟩) 0 cap, rfl, ⟨HLEN.out, .inr ⟨w.heap.size, n + 1, ys.toArray, rfl, Nat.le_refl _, (blk_set_other _ (Ne.symm HGN.out)).trans HG2.out, Nat.le_refl _, by unfold maxLen; omega, by simp [HLEN.out], by simp [← HLEN.out]⟩⟩, blk_set _ HC2.out, ?_, ?_, (HCH2.out.mono (fun _ h => h.elim)).trans (Ch.set (S := fun k => k = C) (k := C) _ rfl _)⟩
    · refine ⟨rfl, .inr ?_⟩
      rcases HO.out.2 with ⟨h1, _⟩ | ⟨g', cap', cur', he, hb, hg', _, hm, hsz, _⟩
      · cases h1
      · cases he
        exact ⟨g, cap, cur', rfl, hb, (blk_set_other _ (Ne.symm HGC.out)).trans ((HCH2.out.block g HGW.out id).trans hg'), Nat.zero_le _, hm, hsz, by simp⟩
    · intro k hk
      simpa [Value.ownBlock] using hk

set_option maxRecDepth 100000 in
set_option maxHeartbeats 4000000 in
theorem cloneMedia_any {C Bs : Nat} {va vm : Value} {la : List (ByteArray × ByteArray)} {w : World} (hC : w.heap[C]? = some (.cells #[vm, va] 172 (0, 0))) (ho : w.ownsRow Bs 240 2 va la.length (la.flatMap attrC)) (hn : la.length ≤ 100000) :
    Calls Tryz.prog 130 #[.pointer (some ⟨C, 0, none⟩)] w fun e w' => ∃ a n c va', e = .returned (.slice a n c) ∧ w'.ownsRow w.heap.size 240 2 (.slice a n c) la.length (la.flatMap attrC) ∧ w'.heap[C]? = some (.cells #[vm, va'] 172 (0, 0)) ∧
      w'.ownsRow Bs 240 2 va' 0 [] ∧ (∀ k, va'.ownBlock = some k → va.ownBlock = some k) ∧ Ch (fun k => k = C) w w' := by
  obtain ⟨i0, hi0, hz0, hz1, hz2⟩ := info_parts info240_c
  cases la with
  | nil =>
    obtain ⟨S0, c0, hv⟩ := own_slice ho
    have hva := hv
    subst hv
    have hc : w.cell? ⟨C, 1, none⟩ = some (.slice S0 0 c0) := blk_cell hC rfl
    have HO := Lib.hid ho
    have HC := Lib.hid hC
    clear ho hC
    go_enter Tryz.func130, Tryz.ntmps130
    go_wp2
    refine bodyPost_ret (v := .slice none 0 0) (by simp [results, Tryz.results130]) rfl ?_
    exact ⟨none, 0, 0, _, rfl, World.ownsRow_nil _ _ _ _, HC.out, HO.out, fun _ h => h, Ch.refl _ _⟩
  | cons x l =>
    obtain ⟨g, cap, hv⟩ := own_form ho
    subst hv
    obtain ⟨n, hnl⟩ : ∃ n, l.length = n := ⟨_, rfl⟩
    have hc : w.cell? ⟨C, 1, none⟩ = some (.slice (some ⟨g, 0, none⟩) (n + 1) cap) := blk_cell hC (by rw [← hnl]; rfl)
    have hn' : n + 1 ≤ 100000 := by rw [← hnl]; exact hn
    have ho' : w.ownsRow Bs 240 2 (.slice (some ⟨g, 0, none⟩) (n + 1) cap) (n + 1) ((x :: l).flatMap attrC) := by rw [← hnl]; exact ho
    have hlen := ho'.1
    have hsrc : ∀ j v, ((x :: l).flatMap attrC)[j]? = some v → w.cell? ⟨g, j, none⟩ = some v := fun j v hj => by
      rw [ho'.cellAt j (by rw [← hlen]; exact (List.getElem?_eq_some_iff.1 hj).1)]
      exact hj
    have h1 : ∀ v ∈ (x :: l).flatMap attrC, v.oneCell' = true := fun v hv => by
      obtain ⟨y, _, hy⟩ := List.mem_flatMap.1 hv
      exact attrC_one y v hy
    have HO := Lib.hid ho'
    have HC := Lib.hid (show w.heap[C]? = some (.cells #[vm, .slice (some ⟨g, 0, none⟩) (n + 1) cap] 172 (0, 0)) from by rw [← hnl]; exact hC)
    have HSRC := Lib.hid hsrc
    have HONE := Lib.hid h1
    have HLEN := Lib.hid hlen
    have HNL := Lib.hid hnl
    obtain ⟨ys, hys⟩ : ∃ ys, (x :: l).flatMap attrC = ys := ⟨_, rfl⟩
    have HYS := Lib.hid hys
    rw [hys] at HO HSRC HONE HLEN
    have HGC := Lib.hid (show g ≠ C from fun e => by subst e; exact absurd (own_type HO.out rfl hC) (by decide))
    have HGW := Lib.hid ((HO.out.lt g rfl).2)
    clear ho ho' hC hsrc h1 hlen hn hnl hys
    have q0 : (((n : Int) + 1) == 0) = false := by simp; omega
    have q1 : ((((n + 1 : Nat)) : Int) == 0) = false := by simp; omega
    go_enter Tryz.func130, Tryz.ntmps130
    go_wp2_with (refine wpList_make_full _ rfl (.tmp 14) (.tmp 14) 105 rfl w.heap.size 240 i0 _ 2 Tryz.underlying105 hi0 hz0 hz1 .i64 .i64 ((n : Int) + 1) ((n : Int) + 1) (n + 1) rfl rfl (by omega) (by omega) (by rw [hz2]; omega) (by unfold maxLen; omega) (Nat.le_refl _) ?_; intro w1 hown1 hgrow1; have HO1 := Lib.hid hown1; have hc1 := Ch.grown (S := fun _ => False) hgrow1 (fun k hk => by cases hk); have HCH1 := Lib.hid hc1; have e1 : w1.cell? ⟨C, 1, none⟩ = some (.slice (some ⟨g, 0, none⟩) (n + 1) cap) := hc1.cell0 hc; clear hown1 hgrow1 hc1)
    obtain ⟨cur, hcur, hcsz⟩ : ∃ cur, w1.heap[w.heap.size]? = some (.cells cur 240 (0, 0)) ∧ cur.size = (n + 1) * 2 := by
      rcases HO1.out.2 with ⟨h1, _⟩ | ⟨g', cap', cur, he, _, hb, _, _, hsz, _⟩
      · cases h1
      · cases he
        exact ⟨cur, hb, hsz⟩
    have HCUR := Lib.hid hcur
    have HSR1 := Lib.hid (show ∀ j v, ys[j]? = some v → w1.cell? ((⟨g, 0, none⟩ : Addr).add j) = some v from fun j v hj => by
      have ha : (⟨g, 0, none⟩ : Addr).add j = ⟨g, j, none⟩ := by unfold Addr.add; split <;> simp_all
      rw [ha]
      exact HCH1.out.cell0 (HSRC.out j v hj))
    clear hcur
    have hC1 := (HCH1.out.block C (blk_lt HC.out) id).trans HC.out
    have HCL := Lib.hid (blk_lt HC.out)
    obtain ⟨W2, hW2⟩ : ∃ W2, w1.setRow w.heap.size (ys ++ cur.toList.drop ys.length).toArray = W2 := ⟨_, rfl⟩
    have hdrop : (ys ++ cur.toList.drop ys.length).toArray = ys.toArray := by
      rw [List.drop_of_length_le (by simp; rw [HLEN.out, hcsz]; exact Nat.le_refl _), List.append_nil]
    have hG2 : W2.heap[w.heap.size]? = some (.cells ys.toArray 240 (0, 0)) := by
      rw [← hW2, hdrop]
      exact setRow_heap _ _ _ _ _ _ HCUR.out
    have hC2 : W2.heap[C]? = some (.cells #[vm, .slice (some ⟨g, 0, none⟩) (n + 1) cap] 172 (0, 0)) := by
      rw [← hW2]
      exact (setRow_other _ _ _ _ (Nat.ne_of_lt HCL.out)).trans hC1
    have hCH2 : Ch (fun _ => False) w W2 := by
      rw [← hW2]
      exact HCH1.out.setRow (.inl (Nat.le_refl _)) _
    have c2 : W2.cell? ⟨C, 1, none⟩ = some (.slice (some ⟨g, 0, none⟩) (n + 1) cap) := blk_cell hC2 rfl
    have z2 : W2.frozen? ⟨C, 1, none⟩ = false := blk_frozen hC2
    have HG2 := Lib.hid hG2
    have HC2 := Lib.hid hC2
    have HCH2 := Lib.hid hCH2
    have HW2 := Lib.hid hW2
    clear hC1 hdrop hG2 hC2 hCH2 hW2
    have hcp : (Builtin.copy_ #[105, 105] 3 #[.slice (some ⟨w.heap.size, 0, none⟩) (n + 1) (n + 1), .slice (some ⟨g, 0, none⟩) (n + 1) cap]).run Tryz.prog w1 = .ok (goInt (Nat.min (n + 1) (n + 1))) W2 := by
      rw [← HW2.out]
      exact run_copy_many w1 105 105 3 240 2 w.heap.size (n + 1) (n + 1) ⟨g, 0, none⟩ (n + 1) cap cur 240 ys Tryz.underlying105 (by rw [hi0]; simp [hz1]) HCUR.out (by rw [HLEN.out]; simp) HSR1.out (by rw [HLEN.out, hcsz]; exact Nat.le_refl _) HONE.out
    rw [hcp]
    go_wp2
    refine bodyPost_ret (v := .slice (some ⟨w.heap.size, 0, none⟩) (n + 1) (n + 1)) (by simp [results, Tryz.results130]) rfl ?_
    have HGN := Lib.hid (show w.heap.size ≠ C by have := HCL.out; omega)
    rw [HYS.out]
    rw [HNL.out]
    refine ⟨_, _, _, .slice (some ⟨g, 0, none⟩) 0 cap, rfl, ⟨HLEN.out, .inr ⟨w.heap.size, n + 1, ys.toArray, rfl, Nat.le_refl _, (blk_set_other _ (Ne.symm HGN.out)).trans HG2.out, Nat.le_refl _, by unfold maxLen; omega, by simp [HLEN.out], by simp [← HLEN.out]⟩⟩, blk_set _ HC2.out, ?_, ?_, (HCH2.out.mono (fun _ h => h.elim)).trans (Ch.set (S := fun k => k = C) (k := C) _ rfl _)⟩
    · refine ⟨rfl, .inr ?_⟩
      rcases HO.out.2 with ⟨h1, _⟩ | ⟨g', cap', cur', he, hb, hg', _, hm, hsz, _⟩
      · cases h1
      · cases he
        exact ⟨g, cap, cur', rfl, hb, (blk_set_other _ (Ne.symm HGC.out)).trans ((HCH2.out.block g HGW.out id).trans hg'), Nat.zero_le _, hm, hsz, by simp⟩
    · intro k hk
      simpa [Value.ownBlock] using hk


set_option maxRecDepth 100000 in
set_option maxHeartbeats 1600000 in
/-- The last medium gets its attributes. -/
theorem populate_any {C D Bs Bm m b : Nat} {vc vm v : Value} {xm : List Value} {cs ct : Array Value} {lm : List (ByteArray × ByteArray)} {w : World} (hD : w.heap[D]? = some (.cells cs 108 (0, 0))) (hv : cs[18]? = some v)
    (ho18 : w.ownsRow Bm 145 1 v (m + 1) (xm ++ [.pointer (some ⟨b, 0, none⟩)])) (hm : m ≤ 100000) (hb : w.heap[b]? = some (.cells ct 226 (0, 0))) (hct : ct.size = 10)
    (hC : w.heap[C]? = some (.cells #[vc, vm] 172 (0, 0))) (ho : w.ownsRow Bs 240 2 vm lm.length (lm.flatMap attrC)) (hn : lm.length ≤ 100000) :
    Calls Tryz.prog 88 #[.pointer (some ⟨C, 0, none⟩), .pointer (some ⟨D, 0, none⟩)] w fun e w' => e = .returned (.tuple #[]) ∧ ∃ v9 vm', w'.heap[b]? = some (.cells (ct.setIfInBounds 9 v9) 226 (0, 0)) ∧ w'.heap[C]? = some (.cells #[vc, vm'] 172 (0, 0)) ∧
      w'.ownsRow w.heap.size 240 2 v9 lm.length (lm.flatMap attrC) ∧ w'.ownsRow Bs 240 2 vm' 0 [] ∧ (∀ k, vm'.ownBlock = some k → vm.ownBlock = some k) ∧ Ch (fun k => k = b ∨ k = C) w w' := by
  obtain ⟨g, cap, hvg⟩ := own_form ho18
  subst hvg
  have hvD : w.cell? ⟨D, 18, none⟩ = some (.slice (some ⟨g, 0, none⟩) (m + 1) cap) := blk_cell hD hv
  have hlen0 : (xm ++ [Value.pointer (some ⟨b, 0, none⟩)]).length = (m + 1) * 1 := ho18.1
  have hxs : xm.length = m := by simpa using hlen0
  have cg : w.cell? ⟨g, m, none⟩ = some (.pointer (some ⟨b, 0, none⟩)) := by
    have h1 := ho18.cellAt m (by simp)
    simpa [← hxs] using h1
  have HC := Lib.hid hC
  have HB := Lib.hid hb
  have HO := Lib.hid ho
  have HBC := Lib.hid (ne_of_ty hb hC (by decide))
  have q0 : (((m : Int) + 1) == 0) = false := by simp; omega
  have q1 : ((m : Int) + 1 ≠ 0) := by omega
  clear hC hb ho hD hv hlen0 ho18
  go_enter Tryz.func88, Tryz.ntmps88
  go_upto_region 1 with fail
  go_quiet (fail)
  clear cg hvD hxs q0 q1
  have hC1 : (w.drewN nq).heap[C]? = some (.cells #[vc, vm] 172 (0, 0)) := HC.out
  have ho1 : (w.drewN nq).ownsRow Bs 240 2 vm lm.length (lm.flatMap attrC) := own_ch HO.out (Ch.of_heap (w' := w.drewN nq) (Ch.refl _ w) rfl rfl rfl rfl)
  have F1 := Lib.hid (cloneMedia_any hC1 ho1 hn)
  clear hC1 ho1
  go_wp2_with fail
  refine F1.out.mono ?_
  rintro e w1 ⟨a, n9, c9, vm', rfl, ho9, hC1, hom, hlm, hch⟩
  have hb1 := (hch.block b (blk_lt HB.out) HBC.out).trans (show (w.drewN nq).heap[b]? = _ from HB.out)
  have z1 : w1.frozen? ⟨b, 9, none⟩ = false := blk_frozen hb1
  have c1 : w1.cell? ⟨b, 9, none⟩ = some ct[9] := blk_cell hb1 (Array.getElem?_eq_getElem (by omega))
  have HB1 := Lib.hid hb1
  have HC1 := Lib.hid hC1
  have HO9 := Lib.hid ho9
  have HOM := Lib.hid hom
  have HLM := Lib.hid hlm
  have HCH := Lib.hid hch
  clear hb1 hC1 ho9 hom hlm hch F1
  go_wp2_with fail
  go_end0
  refine ⟨rfl, _, vm', blk_set _ HB1.out, (blk_set_other _ HBC.out).trans HC1.out, owns_same HO9.out fun k hk => blk_set_other _ (fun e => own_not HO9.out HB1.out (by decide) (by rw [hk, e])), owns_same HOM.out fun k hk => blk_set_other _ (fun e => own_not HOM.out HB1.out (by decide) (by rw [hk, e])), HLM.out, ?_⟩
  exact ((Ch.of_heap (w' := w.drewN nq) (Ch.refl _ w) rfl rfl rfl rfl).trans (HCH.out.mono fun _ h => .inr h)).trans (Ch.set (S := fun k => k = b ∨ k = C) (k := b) _ (.inl rfl) _)
end Go.Proofs.YtimonhimfioohaaGreatDoor

namespace Go.Proofs.YtimonhimfioohaaGreatDoor
open Go.RowKit

set_option maxRecDepth 100000 in
set_option maxHeartbeats 4000000 in
theorem split_no {s : ByteArray} {c : UInt8} (hs : s.size ≤ 4294967295) (hn : c ∉ s.data.toList) (w : World) :
    Calls Tryz.prog 120 #[.string s, .string ⟨#[c]⟩] w fun e w' => ∃ g cap, e = .returned (.slice (some ⟨g, 0, none⟩) 1 cap) ∧ w'.cell? ⟨g, 0, none⟩ = some (.string s) ∧ Ch (fun _ => False) w w' := by
  have HF := Lib.hid (index_none (c := c) hs (fun j hj e => hn (by rw [← e]; exact byte_in hj)) w)
  obtain ⟨i0, hi0, hz0, hz1, hz2⟩ := info_parts Tryz.info9
  have HB1 := Lib.hid (show (w.alloc (.cells #[.string s] 9)).heap[w.heap.size]? = some (.cells #[.string s] 9 (0, 0)) from heap_alloc_new w _)
  have HC1 := Lib.hid (show Ch (fun _ => False) w (w.alloc (.cells #[.string s] 9)) from Ch.grown (World.grownBy_alloc _ _ none) (by simp))
  have HSZ := Lib.hid (show w.heap.size ≤ (w.alloc (.cells #[.string s] 9)).heap.size by simp)
  clear hn
  go_enter Tryz.func120, Tryz.ntmps120
  go_wp2
  refine wp_loop_rounds 1 ?_
  rw [rounds_succ]
  go_wp2_with fail
  go_at_call 141
  refine HF.out.mono ?_
  rintro e w1 ⟨rfl, rfl⟩
  go_wp2_with (at_builtin; refine wpList_append_lies _ rfl (.tmp 12) (.tmp 14) 28 rfl w.heap.size 9 i0 _ 1 16 Tryz.underlying28 hi0 hz0 hz1 hz2 rfl (by decide) (.slice none 0 0) 0 [] rfl (World.ownsRow_nil _ _ _ _) ⟨w.heap.size, 0, none⟩ 1 1 [.string s] rfl rfl (World.news_of_block HB1.out) (by simp [Value.oneCell']) (by decide) (by unfold maxLen; omega) (by omega) HSZ.out _ rfl ?_; intro g cap W1 hown hgrow hat hlt; have HO := Lib.hid hown; have HC := Lib.hid (HC1.out.old hgrow (fun k hk => by cases hk)); clear hown hgrow hat hlt)
  refine bodyPost_ret (v := .slice (some ⟨g, 0, none⟩) 1 cap) (by simp [results, Tryz.results120]) rfl ?_
  exact ⟨g, cap, rfl, by simpa using HO.out.cellAt 0 (by decide), HC.out⟩

theorem info145_l : (Tryz.prog.info? 145).map (fun i => (i.zero, i.size, i.bytes)) = some (some (.pointer none), 1, 8) := by kernel_rfl

def medlT (LX D T : Nat) (L Z n : Nat) (v : Value) (xs : List Value) (f : Nat → Bool) (d : Nat) (v' : Value) (W : World) : Prop :=
  match d with
  | 138 => v' = .pointer (some ⟨LX, 0, none⟩)
  | 139 => v' = .pointer (some ⟨LX, 0, none⟩)
  | 140 => v' = .pointer (some ⟨LX, 0, none⟩)
  | 141 => v' = .pointer (some ⟨D, 0, none⟩)
  | 142 => v' = .pointer (some ⟨LX, 0, none⟩)
  | 143 => v' = .pointer (some ⟨LX, 0, none⟩)
  | 144 => v' = .pointer (some ⟨LX, 0, none⟩)
  | 145 => v' = .pointer (some ⟨D, 0, none⟩)
  | 146 => v' = .pointer (some ⟨D, 0, none⟩)
  | 147 => v' = .pointer (some ⟨D, 18, none⟩)
  | 148 => f 12 = true ∨ (v' = v ∧ W.ownsRow L 145 1 v n xs)
  | 149 => f 12 = true ∨ ∃ (k : Nat) , v' = .slice (some ⟨k, 0, none⟩) 1 1 ∧ W.heap[k]? = some (.cells #[.pointer (some ⟨T, 0, none⟩)] 145 (0, 0))
  | 150 => f 12 = true ∧ (W.ownsRow L 145 1 v' (n + 1) (xs ++ [.pointer (some ⟨T, 0, none⟩)]) ∧ lies v Z v')
  | 151 => v' = .pointer (some ⟨D, 0, none⟩)
  | 152 => v' = .pointer (some ⟨D, 18, none⟩)
  | _ => True
theorem medl_stay {LX D T : Nat} {L Z n : Nat} {v : Value} {xs : List Value} {f : Nat → Bool} {i d : Nat} {x : Value} {W W' : World} (hc : Ch (fun _ => False) W W') (h : medlT LX D T L Z n v xs f d x W) : medlT LX D T L Z n v xs (upd f i) d x W' := by
  unfold medlT at h ⊢
  split at h
  · exact h
  · exact h
  · exact h
  · exact h
  · exact h
  · exact h
  · exact h
  · exact h
  · exact h
  · exact h
  · exact h.elim (fun h => .inl (by unfold upd; split <;> first | rfl | exact h)) (fun h => .inr ⟨h.1, own_ch h.2 hc⟩)
  · rcases h with h | ⟨k, e, hk⟩
    · exact .inl (by unfold upd; split <;> first | rfl | exact h)
    · exact .inr ⟨k, e, (hc.block _ (blk_lt hk) id).trans hk⟩
  · obtain ⟨h, ho, hz⟩ := h
    exact ⟨(by unfold upd; split <;> first | rfl | exact h), own_ch ho hc, hz⟩
  · exact h
  · exact h
  · trivial
theorem medl_stayA {LX D T : Nat} {L Z n : Nat} {v : Value} {xs : List Value} {f : Nat → Bool} {d : Nat} {x : Value} {W W' : World} (hd : d ≠ 150) (_hQ : W.ownsRow L 145 1 v n xs) (_hc : Ch (fun j => v.ownBlock = some j) W W') (h : medlT LX D T L Z n v xs f d x W) : medlT LX D T L Z n v xs (upd f 12) d x W' := by
  unfold medlT at h ⊢
  split at h
  · exact h
  · exact h
  · exact h
  · exact h
  · exact h
  · exact h
  · exact h
  · exact h
  · exact h
  · exact h
  · exact .inl (by simp [upd])
  · exact .inl (by simp [upd])
  · exact absurd rfl hd
  · exact h
  · exact h
  · trivial
set_option maxRecDepth 100000 in
theorem medl_frame (x0 x1 x2 x3 x4 x5 x6 x7 x8 x9 x10 x11 x12 x13 x14 x15 x16 x17 x18 x19 x20 x21 x22 x23 x24 x25 x26 x27 x28 x29 x30 x31 x32 x33 x34 x35 x36 x37 x38 x39 x40 x41 x42 x43 x44 x45 x46 x47 x48 x49 x50 x51 x52 x53 x54 x55 x56 x57 x58 x59 x60 x61 x62 x63 x64 x65 x66 x67 x68 x69 x70 x71 x72 x73 x74 x75 x76 x77 x78 x79 x80 x81 x82 x83 x84 x85 x86 x87 x88 x89 x90 x91 x92 x93 x94 x95 x96 x97 x98 x99 x100 x101 x102 x103 x104 x105 x106 x107 x108 x109 x110 x111 x112 x113 x114 x115 x116 x117 x118 x119 x120 x121 x122 x123 x124 x125 x126 x127 x128 x129 x130 x131 x132 x133 x134 x135 x136 x137 x138 x139 x140 x141 x142 x143 x144 x145 x146 x147 x148 x149 x150 x151 x152 : Value) (d : List Deferred) (u : Nat → Value) : frameOf ⟨#[x0, x1, x2, x3, x4, x5, x6, x7, x8, x9, x10, x11, x12, x13, x14, x15, x16, x17, x18, x19, x20, x21, x22, x23, x24, x25, x26, x27, x28, x29, x30, x31, x32, x33, x34, x35, x36, x37, x38, x39, x40, x41, x42, x43, x44, x45, x46, x47, x48, x49, x50, x51, x52, x53, x54, x55, x56, x57, x58, x59, x60, x61, x62, x63, x64, x65, x66, x67, x68, x69, x70, x71, x72, x73, x74, x75, x76, x77, x78, x79, x80, x81, x82, x83, x84, x85, x86, x87, x88, x89, x90, x91, x92, x93, x94, x95, x96, x97, x98, x99, x100, x101, x102, x103, x104, x105, x106, x107, x108, x109, x110, x111, x112, x113, x114, x115, x116, x117, x118, x119, x120, x121, x122, x123, x124, x125, x126, x127, x128, x129, x130, x131, x132, x133, x134, x135, x136, x137, x138, x139, x140, x141, x142, x143, x144, x145, x146, x147, x148, x149, x150, x151, x152], d⟩ [138, 139, 140, 141, 142, 143, 144, 145, 146, 147, 148, 149, 150, 151, 152] u = ⟨#[x0, x1, x2, x3, x4, x5, x6, x7, x8, x9, x10, x11, x12, x13, x14, x15, x16, x17, x18, x19, x20, x21, x22, x23, x24, x25, x26, x27, x28, x29, x30, x31, x32, x33, x34, x35, x36, x37, x38, x39, x40, x41, x42, x43, x44, x45, x46, x47, x48, x49, x50, x51, x52, x53, x54, x55, x56, x57, x58, x59, x60, x61, x62, x63, x64, x65, x66, x67, x68, x69, x70, x71, x72, x73, x74, x75, x76, x77, x78, x79, x80, x81, x82, x83, x84, x85, x86, x87, x88, x89, x90, x91, x92, x93, x94, x95, x96, x97, x98, x99, x100, x101, x102, x103, x104, x105, x106, x107, x108, x109, x110, x111, x112, x113, x114, x115, x116, x117, x118, x119, x120, x121, x122, x123, x124, x125, x126, x127, x128, x129, x130, x131, x132, x133, x134, x135, x136, x137, u 138, u 139, u 140, u 141, u 142, u 143, u 144, u 145, u 146, u 147, u 148, u 149, u 150, u 151, u 152], d⟩ := by kernel_rfl

section
variable {ae : Addr} {S : Nat → Prop} {L D C : Nat} {s : ByteArray} {w0 : World} {cs : Array Value} {i : Nat} {w : World}

/-- The state in unmarshalMediaDescription's walk. -/
structure MSt (ae : Addr) (S : Nat → Prop) (L D C : Nat) (s : ByteArray) (w0 : World) (cs : Array Value) (T : Nat) (ct : Array Value) (Bo n : Nat) (v : Value) (xs : List Value) (z : Nat) (i : Nat) (W : World) : Prop where
  vs : VSt ae S L D C s w0 cs 226 T ct i W
  ho : W.ownsRow Bo 145 1 v n xs
  zw : z ≤ W.heap.size
section
variable {ct : Array Value} {T Bo n z j : Nat} {v : Value} {xs : List Value} {W W' : World}
theorem own_lx {b e sz n : Nat} {v : Value} {xs : List Value} (h : St ae S L D C s w0 cs i W) (hm : Mv L (2 + 1) j W W') (ho : W.ownsRow b e sz v n xs) (he : 170 ≠ e) : W'.ownsRow b e sz v n xs :=
  own_chX ho (hm.ch (S := fun k => k = L) rfl) (own_off ho (NotT.one h.lexb he))
theorem own_tb {b e sz n k Y : Nat} {v x : Value} {xs : List Value} (hT : W.heap[T]? = some (.cells ct Y (0, 0))) (ho : W.ownsRow b e sz v n xs) (he : Y ≠ e) : (W.setCell ⟨T, k, none⟩ x).ownsRow b e sz v n xs :=
  owns_same ho fun k hk => blk_set_other _ (fun e' => own_not ho hT he (by rw [hk, e']))
theorem MSt.mv (h : MSt ae S L D C s w0 cs T ct Bo n v xs z i W) (hm : Mv L (2 + 1) j W W') (hj : j ≤ s.size) : MSt ae S L D C s w0 cs T ct Bo n v xs z j W' :=
  ⟨h.vs.mv hm hj, own_lx h.vs.st hm h.ho (by decide), by rw [hm.heap]; simpa [World.setCell] using h.zw⟩
theorem MSt.chF (h : MSt ae S L D C s w0 cs T ct Bo n v xs z i W) (hc : Ch (fun _ => False) W W') : MSt ae S L D C s w0 cs T ct Bo n v xs z i W' :=
  ⟨h.vs.chF hc, own_ch h.ho hc, Nat.le_trans h.zw hc.size⟩
theorem MSt.set (h : MSt ae S L D C s w0 cs T ct Bo n v xs z i W) (k : Nat) (x : Value) : MSt ae S L D C s w0 cs T (ct.setIfInBounds k x) Bo n v xs z i (W.setCell ⟨T, k, none⟩ x) :=
  ⟨h.vs.set k x, own_tb h.vs.tb h.ho (by decide), by simpa [World.setCell] using h.zw⟩
theorem MSt.alloc (h : MSt ae S L D C s w0 cs T ct Bo n v xs z i W) (o : Obj) : MSt ae S L D C s w0 cs T ct Bo n v xs z i (W.alloc o) := h.chF (Ch.grown (World.grownBy_alloc _ _ none) (by simp))
/-- While a row of another type changes. -/
theorem MSt.row (h : MSt ae S L D C s w0 cs T ct Bo n v xs z i W) {b e sz m : Nat} {u : Value} {ys : List Value} (hu : W.ownsRow b e sz u m ys) (hb : 6 < b) (hS : ∀ k, u.ownBlock = some k → w0.heap.size ≤ k) (hc : Ch (fun k => u.ownBlock = some k) W W') (h1 : 170 ≠ e) (h2 : 108 ≠ e) (h3 : 226 ≠ e) (h4 : 145 ≠ e) : MSt ae S L D C s w0 cs T ct Bo n v xs z i W' := by
  have hr := h.vs.st.row hu hb h1 h2
  have hT : u.ownBlock ≠ some T := own_not hu h.vs.tb h3
  refine ⟨⟨⟨(hc.block _ (blk_lt h.vs.st.lexb) fun hx => (hr _ hx).1 rfl).trans h.vs.st.lexb, (hc.block _ (blk_lt h.vs.st.desc) fun hx => (hr _ hx).2.1 rfl).trans h.vs.st.desc, hc.cell h.vs.st.eof fun hx => (hr _ hx).2.2 rfl, h.vs.st.l6, h.vs.st.d6, h.vs.st.ld, h.vs.st.sz, h.vs.st.le, h.vs.st.csz, h.vs.st.ch.fresh hc fun k hk => .inl (hS k hk), h.vs.st.sl, h.vs.st.sd⟩,
    (hc.block _ (blk_lt h.vs.tb) hT).trans h.vs.tb, h.vs.tl, h.vs.td, h.vs.t6, h.vs.ts⟩, own_chX h.ho hc fun k hk => own_ne2 h.ho hu h4.symm hk, Nat.le_trans h.zw hc.size⟩
end

theorem port_one (w : World) : Calls Tryz.prog 97 #[.string ⟨#[49]⟩] w fun e w' => e = .returned (.tuple #[.int .i64 1, .nilIface]) ∧ Ch (fun _ => False) w w' := parsePort_in (m := 1) (by decide) (by decide) (by decide) w

set_option maxRecDepth 100000 in
set_option maxHeartbeats 16000000 in
/-- 'm=audio 1 RTP/AVP 0'. -/
theorem med_line {Bo n : Nat} {v : Value} {xs : List Value} {Q : World → Prop} (hpop : Calls Tryz.prog 88 #[.pointer (some ⟨C, 0, none⟩), .pointer (some ⟨D, 0, none⟩)] w.drew fun e w1 => e = .returned (.tuple #[]) ∧ Q w1)
    (h0 : St ae S L D C s w0 cs i w) (hQ : ∀ w1, Q w1 → St ae S L D C s w0 cs i w1 ∧ w1.ownsRow Bo 145 1 v n xs ∧ Bo ≤ w1.heap.size) {r : List UInt8} (hl : s.data.toList.drop i = 97 :: 117 :: 100 :: 105 :: 111 :: 32 :: 49 :: 32 :: 82 :: 84 :: 80 :: 47 :: 65 :: 86 :: 80 :: 32 :: 48 :: 13 :: 10 :: r) (hr : lead isNl r = 0)
    (hv : cs[18]? = some v) (hB6 : 6 < Bo) (hn : n ≤ 100000) :
    Calls Tryz.prog 228 #[.pointer (some ⟨L, 0, none⟩)] w fun e w' => e = .returned (.tuple #[.func (.func 233) #[] #[], .nilIface]) ∧
      ∃ w1 g cap b v3 v4, Q w1 ∧ St ae (fun k => (k = L ∨ k = D) ∨ v.ownBlock = some k) L D C s w1 (cs.setIfInBounds 18 (.slice (some ⟨g, 0, none⟩) (n + 1) cap)) (i + 19) w' ∧ w'.ownsRow Bo 145 1 (.slice (some ⟨g, 0, none⟩) (n + 1) cap) (n + 1) (xs ++ [.pointer (some ⟨b, 0, none⟩)]) ∧ lies v w1.heap.size (.slice (some ⟨g, 0, none⟩) (n + 1) cap) ∧
        w'.heap[b]? = some (.cells (mC none v3 v4 none none (.slice none 0 0) none (.slice none 0 0)) 226 (0, 0)) ∧ w1.heap.size ≤ b ∧ StrsRd v3 w' ∧ StrsRd v4 w' := by
  have hlen : i + 19 ≤ s.size := drop_len hl (by simp) h0.le
  have HL := Lib.hid hl
  have HX := Lib.hid (show lead isNl (s.data.toList.drop (i + 17)) = 2 from by rw [step_drop hl rfl]; show lead isNl r + 1 + 1 = 2; rw [hr])
  have HP := Lib.hid hpop
  have HQ := Lib.hid hQ
  have HVC := Lib.hid hv
  have hp0 := h0.p0
  have hp1 := blk_cell (j := 1) h0.lexb rfl
  clear hpop hQ hl hr hv h0
  go_enter Tryz.func228, Tryz.ntmps228
  go_upto_region 1 with fail
  go_region_held3 (fun w' => w'.cell? ⟨L, 0, none⟩ = some (.pointer (some ⟨D, 0, none⟩)) ∧ w'.cell? ⟨L, 1, none⟩ = some (.pointer (some ⟨C, 0, none⟩))) (first | (simp [go_sem, *]; done)) (first | (go_at_call 88; refine HP.out.mono ?_; rintro e w1 ⟨rfl, hq⟩; have HQ1 := Lib.hid hq; have h1 := (HQ.out w1 hq).1; have hq0 := h1.p0; have hq1 := blk_cell (j := 1) h1.lexb rfl; clear h1 hq))
  obtain ⟨hs1, ho1, hB1⟩ := HQ.out w1 HQ1.out
  have hm1 : MSt ae (fun k => (k = L ∨ k = D) ∨ v.ownBlock = some k) L D C s w1 cs w1.heap.size #[.string ⟨#[]⟩, .int .i64 0, .pointer none, .slice none 0 0, .slice none 0 0, .pointer none, .pointer none, .slice none 0 0, .pointer none, .slice none 0 0] Bo n v xs w1.heap.size i (w1.alloc (.cells #[.string ⟨#[]⟩, .int .i64 0, .pointer none, .slice none 0 0, .slice none 0 0, .pointer none, .pointer none, .slice none 0 0, .pointer none, .slice none 0 0] 226)) :=
    ⟨VSt.mk0 (hs1.re (.inl (.inl rfl)) (.inl (.inr rfl))) _ _, own_ch ho1 (Ch.grown (World.grownBy_alloc _ _ none) (by simp)), by simp⟩
  have HROW := Lib.hid (hs1.row ho1 hB6 (by decide) (by decide))
  have HLT := Lib.hid (show ∀ k, v.ownBlock = some k → k < w1.heap.size from fun k hk => (ho1.lt k hk).2)
  have H61 := Lib.hid hs1.lt6
  have HB1 := Lib.hid hB1
  obtain ⟨T, hT⟩ : ∃ T, w1.heap.size = T := ⟨_, rfl⟩
  have HW := Lib.hid hT
  rw [hT] at hm1
  have M1 := Lib.hid hm1
  clear hs1 ho1 hB1 hm1 hq0 hq1 hp0 hp1
  go_wp2_with fail
  generalize w1.alloc (.cells #[.string ⟨#[]⟩, .int .i64 0, .pointer none, .slice none 0 0, .slice none 0 0, .pointer none, .pointer none, .slice none 0 0, .pointer none, .slice none 0 0] 226) = W1 at *
  clear hT
  refine (field_at M1.out.vs.st HL.out (by simp) (n := 5) (m := 6) rfl (t := ⟨#[97, 117, 100, 105, 111]⟩) rfl (j := i + 6) rfl).mono ?_
  rintro e w2 ⟨rfl, hm2⟩
  have M2 := Lib.hid (M1.out.mv hm2 (by omega))
  clear hm2
  go_wp2_with fail
  refine (anyOf_in (ct := #[.string ⟨#[97, 117, 100, 105, 111]⟩, .string ⟨#[118, 105, 100, 101, 111]⟩, .string ⟨#[116, 101, 120, 116]⟩, .string ⟨#[97, 112, 112, 108, 105, 99, 97, 116, 105, 111, 110]⟩, .string ⟨#[109, 101, 115, 115, 97, 103, 101]⟩]) (x := ⟨#[97, 117, 100, 105, 111]⟩) [⟨#[97, 117, 100, 105, 111]⟩, ⟨#[118, 105, 100, 101, 111]⟩, ⟨#[116, 101, 120, 116]⟩, ⟨#[97, 112, 112, 108, 105, 99, 97, 116, 105, 111, 110]⟩, ⟨#[109, 101, 115, 115, 97, 103, 101]⟩] (heap_new _ _) rfl rfl (by decide) (by decide +kernel)).mono ?_
  rintro e w3 ⟨rfl, rfl⟩
  have M3 := Lib.hid (M2.out.alloc (.cells #[.string ⟨#[97, 117, 100, 105, 111]⟩, .string ⟨#[118, 105, 100, 101, 111]⟩, .string ⟨#[116, 101, 120, 116]⟩, .string ⟨#[97, 112, 112, 108, 105, 99, 97, 116, 105, 111, 110]⟩, .string ⟨#[109, 101, 115, 115, 97, 103, 101]⟩] 9))
  generalize w2.alloc (.cells #[.string ⟨#[97, 117, 100, 105, 111]⟩, .string ⟨#[118, 105, 100, 101, 111]⟩, .string ⟨#[116, 101, 120, 116]⟩, .string ⟨#[97, 112, 112, 108, 105, 99, 97, 116, 105, 111, 110]⟩, .string ⟨#[109, 101, 115, 115, 97, 103, 101]⟩] 9) = W3 at *
  have z3 : W3.frozen? ⟨T, 0, none⟩ = false := blk_frozen M3.out.vs.tb
  have c3 : W3.cell? ⟨T, 0, none⟩ = some (.string ⟨#[]⟩) := blk_cell M3.out.vs.tb rfl
  go_wp2_with fail
  have M4 := Lib.hid (M3.out.set 0 (.string ⟨#[97, 117, 100, 105, 111]⟩))
  clear z3 c3
  generalize W3.setCell ⟨T, 0, none⟩ (.string ⟨#[97, 117, 100, 105, 111]⟩) = W4 at *
  refine (field_at M4.out.vs.st (step_drop HL.out rfl) (by simp) (n := 1) (m := 2) rfl (t := ⟨#[49]⟩) rfl (j := i + 8) rfl).mono ?_
  rintro e w5 ⟨rfl, hm5⟩
  have M5 := Lib.hid (M4.out.mv hm5 (by omega))
  clear hm5
  go_wp2_with fail
  refine (split_no (s := ⟨#[49]⟩) (c := 47) (by decide) (by decide) _).mono ?_
  rintro e w6 ⟨gq, cq, rfl, cq6, hc6⟩
  have M6 := Lib.hid (M5.out.chF hc6)
  clear hc6
  go_wp2_with fail
  refine (port_one _).mono ?_
  rintro e w7 ⟨rfl, hc7⟩
  have M7 := Lib.hid (M6.out.chF hc7)
  have z7 : w7.frozen? ⟨T, 1, none⟩ = false := blk_frozen M7.out.vs.tb
  have c7 : w7.cell? ⟨T, 1, none⟩ = some (.int .i64 0) := blk_cell M7.out.vs.tb rfl
  clear hc7 cq6
  go_wp2_with fail
  have M8 := Lib.hid (M7.out.set 1 (.int .i64 1))
  clear z7 c7
  generalize w7.setCell ⟨T, 1, none⟩ (.int .i64 1) = W8 at *
  refine (field_at M8.out.vs.st (step_drop HL.out rfl) (by simp) (n := 7) (m := 8) rfl (t := ⟨#[82, 84, 80, 47, 65, 86, 80]⟩) rfl (j := i + 16) rfl).mono ?_
  rintro e w9 ⟨rfl, hm9⟩
  have M9a := Lib.hid (M8.out.mv hm9 (by omega))
  clear hm9
  go_wp2_with fail
  refine (split_one (s := ⟨#[82, 84, 80, 47, 65, 86, 80]⟩) (A := [82, 84, 80]) (B := [65, 86, 80]) (c := 47) (by decide) rfl (by decide) (by decide) _).mono ?_
  rintro e w10 ⟨gp, cp, rfl, hp10, hc10⟩
  have M10 := Lib.hid (M9a.out.chF hc10)
  have cA : w10.cell? ⟨gp, 0, none⟩ = some (.string ⟨#[82, 84, 80]⟩) := by simpa using hp10.cellAt 0 (by decide)
  have HP10 := Lib.hid hp10
  clear hc10 hp10
  go_wp2_with fail
  refine wp_loop_rounds 3 ?_
  rw [rounds_succ]
  go_wp2_with fail
  refine (anyOf_in (ct := #[.string ⟨#[85, 68, 80]⟩, .string ⟨#[82, 84, 80]⟩, .string ⟨#[65, 86, 80]⟩, .string ⟨#[83, 65, 86, 80]⟩, .string ⟨#[83, 65, 86, 80, 70]⟩, .string ⟨#[84, 76, 83]⟩, .string ⟨#[68, 84, 76, 83]⟩, .string ⟨#[83, 67, 84, 80]⟩, .string ⟨#[65, 86, 80, 70]⟩, .string ⟨#[84, 67, 80]⟩, .string ⟨#[77, 83, 82, 80]⟩, .string ⟨#[66, 70, 67, 80]⟩, .string ⟨#[85, 68, 84]⟩, .string ⟨#[73, 88]⟩, .string ⟨#[77, 82, 67, 80, 118, 50]⟩, .string ⟨#[70, 69, 67]⟩]) (x := ⟨#[82, 84, 80]⟩) [⟨#[85, 68, 80]⟩, ⟨#[82, 84, 80]⟩, ⟨#[65, 86, 80]⟩, ⟨#[83, 65, 86, 80]⟩, ⟨#[83, 65, 86, 80, 70]⟩, ⟨#[84, 76, 83]⟩, ⟨#[68, 84, 76, 83]⟩, ⟨#[83, 67, 84, 80]⟩, ⟨#[65, 86, 80, 70]⟩, ⟨#[84, 67, 80]⟩, ⟨#[77, 83, 82, 80]⟩, ⟨#[66, 70, 67, 80]⟩, ⟨#[85, 68, 84]⟩, ⟨#[73, 88]⟩, ⟨#[77, 82, 67, 80, 118, 50]⟩, ⟨#[70, 69, 67]⟩] (heap_new _ _) rfl rfl (by decide) (by decide +kernel)).mono ?_
  rintro e w11 ⟨rfl, rfl⟩
  have M11 := Lib.hid (M10.out.alloc (.cells #[.string ⟨#[85, 68, 80]⟩, .string ⟨#[82, 84, 80]⟩, .string ⟨#[65, 86, 80]⟩, .string ⟨#[83, 65, 86, 80]⟩, .string ⟨#[83, 65, 86, 80, 70]⟩, .string ⟨#[84, 76, 83]⟩, .string ⟨#[68, 84, 76, 83]⟩, .string ⟨#[83, 67, 84, 80]⟩, .string ⟨#[65, 86, 80, 70]⟩, .string ⟨#[84, 67, 80]⟩, .string ⟨#[77, 83, 82, 80]⟩, .string ⟨#[66, 70, 67, 80]⟩, .string ⟨#[85, 68, 84]⟩, .string ⟨#[73, 88]⟩, .string ⟨#[77, 82, 67, 80, 118, 50]⟩, .string ⟨#[70, 69, 67]⟩] 9))
  have HP11 := Lib.hid (own_ch HP10.out (Ch.grown (World.grownBy_alloc w10 (.cells #[.string ⟨#[85, 68, 80]⟩, .string ⟨#[82, 84, 80]⟩, .string ⟨#[65, 86, 80]⟩, .string ⟨#[83, 65, 86, 80]⟩, .string ⟨#[83, 65, 86, 80, 70]⟩, .string ⟨#[84, 76, 83]⟩, .string ⟨#[68, 84, 76, 83]⟩, .string ⟨#[83, 67, 84, 80]⟩, .string ⟨#[65, 86, 80, 70]⟩, .string ⟨#[84, 67, 80]⟩, .string ⟨#[77, 83, 82, 80]⟩, .string ⟨#[66, 70, 67, 80]⟩, .string ⟨#[85, 68, 84]⟩, .string ⟨#[73, 88]⟩, .string ⟨#[77, 82, 67, 80, 118, 50]⟩, .string ⟨#[70, 69, 67]⟩] 9) none) (by simp)))
  clear cA
  generalize w10.alloc (.cells #[.string ⟨#[85, 68, 80]⟩, .string ⟨#[82, 84, 80]⟩, .string ⟨#[65, 86, 80]⟩, .string ⟨#[83, 65, 86, 80]⟩, .string ⟨#[83, 65, 86, 80, 70]⟩, .string ⟨#[84, 76, 83]⟩, .string ⟨#[68, 84, 76, 83]⟩, .string ⟨#[83, 67, 84, 80]⟩, .string ⟨#[65, 86, 80, 70]⟩, .string ⟨#[84, 67, 80]⟩, .string ⟨#[77, 83, 82, 80]⟩, .string ⟨#[66, 70, 67, 80]⟩, .string ⟨#[85, 68, 84]⟩, .string ⟨#[73, 88]⟩, .string ⟨#[77, 82, 67, 80, 118, 50]⟩, .string ⟨#[70, 69, 67]⟩] 9) = W11 at *
  obtain ⟨i0, hi0, hz0, hz1, hz2⟩ := info_parts Tryz.info9
  have cT11 : W11.cell? ⟨T, 3, none⟩ = some (.slice none 0 0) := blk_cell M11.out.vs.tb rfl
  have HNW := Lib.hid (show (W11.alloc (.cells #[.string ⟨#[82, 84, 80]⟩] 9)).heap[W11.heap.size]? = some (.cells #[.string ⟨#[82, 84, 80]⟩] 9 (0, 0)) from heap_alloc_new _ _)
  have M11a := Lib.hid (M11.out.alloc (.cells #[.string ⟨#[82, 84, 80]⟩] 9))
  have HP11a := Lib.hid (own_ch HP11.out (Ch.grown (World.grownBy_alloc W11 (.cells #[.string ⟨#[82, 84, 80]⟩] 9) none) (by simp)))
  have HZP := Lib.hid (show W11.heap.size ≤ (W11.alloc (.cells #[.string ⟨#[82, 84, 80]⟩] 9)).heap.size by simp)
  have HPL := Lib.hid (HP11.out.lt gp rfl).2
  have HZ1 := Lib.hid M11.out.zw
  go_wp2_with (at_builtin; refine wpList_append_lies _ rfl (.tmp 104) (.tmp 106) 28 rfl W11.heap.size 9 i0 _ 1 16 Tryz.underlying28 hi0 hz0 hz1 hz2 rfl (by decide) (.slice none 0 0) 0 [] rfl (World.ownsRow_nil _ _ _ _) ⟨W11.heap.size, 0, none⟩ 1 1 [.string ⟨#[82, 84, 80]⟩] rfl rfl (World.news_of_block HNW.out) (by simp [Value.oneCell']) (by decide) (by unfold maxLen; omega) (by omega) HZP.out _ rfl ?_; intro g1 c1 w12 hown12 hgrow12 hat12 hlt12; have hc12 := Ch.grown (S := fun _ => False) hgrow12 (fun k hk => by cases hk); have M12 := Lib.hid (M11a.out.chF hc12); have HP12 := Lib.hid (own_ch HP11a.out hc12); have HV12 := Lib.hid hown12; have HZP2 := Lib.hid (Nat.le_trans HZP.out hc12.size); have z12 : w12.frozen? ⟨T, 3, none⟩ = false := blk_frozen M12.out.vs.tb; have c12 : w12.cell? ⟨T, 3, none⟩ = some (.slice none 0 0) := blk_cell M12.out.vs.tb rfl; clear hown12 hgrow12 hat12 hlt12 hc12)
  rw [show (0 + 1 : Nat) = 1 from rfl, List.nil_append] at HV12
  have M13 := Lib.hid (M12.out.set 3 (.slice (some ⟨g1, 0, none⟩) 1 c1))
  have HP13 := Lib.hid (own_tb (k := 3) (x := .slice (some ⟨g1, 0, none⟩) 1 c1) M12.out.vs.tb HP12.out (by decide))
  have HV13 := Lib.hid (own_tb (k := 3) (x := .slice (some ⟨g1, 0, none⟩) 1 c1) M12.out.vs.tb HV12.out (by decide))
  have HZP3 := Lib.hid (show W11.heap.size ≤ (w12.setCell ⟨T, 3, none⟩ (.slice (some ⟨g1, 0, none⟩) 1 c1)).heap.size by simpa [World.setCell] using HZP2.out)
  clear z12 c12 cT11 HNW
  generalize w12.setCell ⟨T, 3, none⟩ (.slice (some ⟨g1, 0, none⟩) 1 c1) = W13 at *
  have cB : W13.cell? ⟨gp, 1, none⟩ = some (.string ⟨#[65, 86, 80]⟩) := by simpa using HP13.out.cellAt 1 (by decide)
  rw [rounds_succ]
  go_wp2_with fail
  refine (anyOf_in (ct := #[.string ⟨#[85, 68, 80]⟩, .string ⟨#[82, 84, 80]⟩, .string ⟨#[65, 86, 80]⟩, .string ⟨#[83, 65, 86, 80]⟩, .string ⟨#[83, 65, 86, 80, 70]⟩, .string ⟨#[84, 76, 83]⟩, .string ⟨#[68, 84, 76, 83]⟩, .string ⟨#[83, 67, 84, 80]⟩, .string ⟨#[65, 86, 80, 70]⟩, .string ⟨#[84, 67, 80]⟩, .string ⟨#[77, 83, 82, 80]⟩, .string ⟨#[66, 70, 67, 80]⟩, .string ⟨#[85, 68, 84]⟩, .string ⟨#[73, 88]⟩, .string ⟨#[77, 82, 67, 80, 118, 50]⟩, .string ⟨#[70, 69, 67]⟩]) (x := ⟨#[65, 86, 80]⟩) [⟨#[85, 68, 80]⟩, ⟨#[82, 84, 80]⟩, ⟨#[65, 86, 80]⟩, ⟨#[83, 65, 86, 80]⟩, ⟨#[83, 65, 86, 80, 70]⟩, ⟨#[84, 76, 83]⟩, ⟨#[68, 84, 76, 83]⟩, ⟨#[83, 67, 84, 80]⟩, ⟨#[65, 86, 80, 70]⟩, ⟨#[84, 67, 80]⟩, ⟨#[77, 83, 82, 80]⟩, ⟨#[66, 70, 67, 80]⟩, ⟨#[85, 68, 84]⟩, ⟨#[73, 88]⟩, ⟨#[77, 82, 67, 80, 118, 50]⟩, ⟨#[70, 69, 67]⟩] (heap_new _ _) rfl rfl (by decide) (by decide +kernel)).mono ?_
  rintro e w14 ⟨rfl, rfl⟩
  have M14 := Lib.hid (M13.out.alloc (.cells #[.string ⟨#[85, 68, 80]⟩, .string ⟨#[82, 84, 80]⟩, .string ⟨#[65, 86, 80]⟩, .string ⟨#[83, 65, 86, 80]⟩, .string ⟨#[83, 65, 86, 80, 70]⟩, .string ⟨#[84, 76, 83]⟩, .string ⟨#[68, 84, 76, 83]⟩, .string ⟨#[83, 67, 84, 80]⟩, .string ⟨#[65, 86, 80, 70]⟩, .string ⟨#[84, 67, 80]⟩, .string ⟨#[77, 83, 82, 80]⟩, .string ⟨#[66, 70, 67, 80]⟩, .string ⟨#[85, 68, 84]⟩, .string ⟨#[73, 88]⟩, .string ⟨#[77, 82, 67, 80, 118, 50]⟩, .string ⟨#[70, 69, 67]⟩] 9))
  have HV14 := Lib.hid (own_ch HV13.out (Ch.grown (World.grownBy_alloc W13 (.cells #[.string ⟨#[85, 68, 80]⟩, .string ⟨#[82, 84, 80]⟩, .string ⟨#[65, 86, 80]⟩, .string ⟨#[83, 65, 86, 80]⟩, .string ⟨#[83, 65, 86, 80, 70]⟩, .string ⟨#[84, 76, 83]⟩, .string ⟨#[68, 84, 76, 83]⟩, .string ⟨#[83, 67, 84, 80]⟩, .string ⟨#[65, 86, 80, 70]⟩, .string ⟨#[84, 67, 80]⟩, .string ⟨#[77, 83, 82, 80]⟩, .string ⟨#[66, 70, 67, 80]⟩, .string ⟨#[85, 68, 84]⟩, .string ⟨#[73, 88]⟩, .string ⟨#[77, 82, 67, 80, 118, 50]⟩, .string ⟨#[70, 69, 67]⟩] 9) none) (by simp)))
  have HZP4 := Lib.hid (show W11.heap.size ≤ (W13.alloc (.cells #[.string ⟨#[85, 68, 80]⟩, .string ⟨#[82, 84, 80]⟩, .string ⟨#[65, 86, 80]⟩, .string ⟨#[83, 65, 86, 80]⟩, .string ⟨#[83, 65, 86, 80, 70]⟩, .string ⟨#[84, 76, 83]⟩, .string ⟨#[68, 84, 76, 83]⟩, .string ⟨#[83, 67, 84, 80]⟩, .string ⟨#[65, 86, 80, 70]⟩, .string ⟨#[84, 67, 80]⟩, .string ⟨#[77, 83, 82, 80]⟩, .string ⟨#[66, 70, 67, 80]⟩, .string ⟨#[85, 68, 84]⟩, .string ⟨#[73, 88]⟩, .string ⟨#[77, 82, 67, 80, 118, 50]⟩, .string ⟨#[70, 69, 67]⟩] 9)).heap.size by simp; have := HZP3.out; omega)
  clear cB
  generalize W13.alloc (.cells #[.string ⟨#[85, 68, 80]⟩, .string ⟨#[82, 84, 80]⟩, .string ⟨#[65, 86, 80]⟩, .string ⟨#[83, 65, 86, 80]⟩, .string ⟨#[83, 65, 86, 80, 70]⟩, .string ⟨#[84, 76, 83]⟩, .string ⟨#[68, 84, 76, 83]⟩, .string ⟨#[83, 67, 84, 80]⟩, .string ⟨#[65, 86, 80, 70]⟩, .string ⟨#[84, 67, 80]⟩, .string ⟨#[77, 83, 82, 80]⟩, .string ⟨#[66, 70, 67, 80]⟩, .string ⟨#[85, 68, 84]⟩, .string ⟨#[73, 88]⟩, .string ⟨#[77, 82, 67, 80, 118, 50]⟩, .string ⟨#[70, 69, 67]⟩] 9) = W14 at *
  have cT14 : W14.cell? ⟨T, 3, none⟩ = some (.slice (some ⟨g1, 0, none⟩) 1 c1) := blk_cell M14.out.vs.tb rfl
  have HNW := Lib.hid (show (W14.alloc (.cells #[.string ⟨#[65, 86, 80]⟩] 9)).heap[W14.heap.size]? = some (.cells #[.string ⟨#[65, 86, 80]⟩] 9 (0, 0)) from heap_alloc_new _ _)
  have M14a := Lib.hid (M14.out.alloc (.cells #[.string ⟨#[65, 86, 80]⟩] 9))
  have HV14a := Lib.hid (own_ch HV14.out (Ch.grown (World.grownBy_alloc W14 (.cells #[.string ⟨#[65, 86, 80]⟩] 9) none) (by simp)))
  have HZP5 := Lib.hid (show W11.heap.size ≤ (W14.alloc (.cells #[.string ⟨#[65, 86, 80]⟩] 9)).heap.size by simp; have := HZP4.out; omega)
  go_wp2_with (at_builtin; refine wpList_append_lies _ rfl (.tmp 104) (.tmp 106) 28 rfl W11.heap.size 9 i0 _ 1 16 Tryz.underlying28 hi0 hz0 hz1 hz2 rfl (by decide) (.slice (some ⟨g1, 0, none⟩) 1 c1) 1 [.string ⟨#[82, 84, 80]⟩] rfl HV14a.out ⟨W14.heap.size, 0, none⟩ 1 1 [.string ⟨#[65, 86, 80]⟩] rfl rfl (World.news_of_block HNW.out) (by simp [Value.oneCell']) (by decide) (by unfold maxLen; omega) (by omega) HZP5.out _ rfl ?_; intro g2 c2 w15 hown15 hgrow15 hat15 hlt15; have hc15 := Ch.grown (S := fun k => (Value.slice (some ⟨g1, 0, none⟩) 1 c1).ownBlock = some k) hgrow15 (fun k hk => hk); have M15 := Lib.hid (M14a.out.row HV14a.out (by have := H61.out; have := HZ1.out; have := HW.out; omega) (fun k hk => by have h1 := (HV14a.out.lt k hk).1; have h2 := HZ1.out; have h3 := HW.out; omega) hc15 (by decide) (by decide) (by decide) (by decide)); have HV15 := Lib.hid hown15; have z15 : w15.frozen? ⟨T, 3, none⟩ = false := blk_frozen M15.out.vs.tb; have c15 : w15.cell? ⟨T, 3, none⟩ = some (.slice (some ⟨g1, 0, none⟩) 1 c1) := blk_cell M15.out.vs.tb rfl; clear hown15 hgrow15 hat15 hlt15 hc15)
  rw [show (1 + 1 : Nat) = 2 from rfl] at HV15
  have M16 := Lib.hid (M15.out.set 3 (.slice (some ⟨g2, 0, none⟩) 2 c2))
  have HV16 := Lib.hid (own_tb (k := 3) (x := .slice (some ⟨g2, 0, none⟩) 2 c2) M15.out.vs.tb HV15.out (by decide))
  clear z15 c15 cT14 HNW
  generalize w15.setCell ⟨T, 3, none⟩ (.slice (some ⟨g2, 0, none⟩) 2 c2) = W16 at *
  rw [rounds_succ]
  go_wp2_with fail
  refine wp_loop_rounds 2 ?_
  rw [rounds_succ]
  go_wp2_with fail
  refine (field_at M16.out.vs.st (step_drop HL.out rfl) (by simp) (n := 1) (m := 1) rfl (t := ⟨#[48]⟩) rfl (j := i + 17) rfl).mono ?_
  rintro e w17 ⟨rfl, hm17⟩
  have M17 := Lib.hid (M16.out.mv hm17 (by omega))
  have HV17 := Lib.hid (own_lx M16.out.vs.st hm17 HV16.out (by decide))
  clear hm17
  have cT17 : w17.cell? ⟨T, 4, none⟩ = some (.slice none 0 0) := blk_cell M17.out.vs.tb rfl
  have HNW := Lib.hid (show (w17.alloc (.cells #[.string ⟨#[48]⟩] 9)).heap[w17.heap.size]? = some (.cells #[.string ⟨#[48]⟩] 9 (0, 0)) from heap_alloc_new _ _)
  have M17a := Lib.hid (M17.out.alloc (.cells #[.string ⟨#[48]⟩] 9))
  have HV17a := Lib.hid (own_ch HV17.out (Ch.grown (World.grownBy_alloc w17 (.cells #[.string ⟨#[48]⟩] 9) none) (by simp)))
  have HZF := Lib.hid (show w17.heap.size ≤ (w17.alloc (.cells #[.string ⟨#[48]⟩] 9)).heap.size by simp)
  go_wp2_with (at_builtin; refine wpList_append_lies _ rfl (.tmp 125) (.tmp 127) 28 rfl w17.heap.size 9 i0 _ 1 16 Tryz.underlying28 hi0 hz0 hz1 hz2 rfl (by decide) (.slice none 0 0) 0 [] rfl (World.ownsRow_nil _ _ _ _) ⟨w17.heap.size, 0, none⟩ 1 1 [.string ⟨#[48]⟩] rfl rfl (World.news_of_block HNW.out) (by simp [Value.oneCell']) (by decide) (by unfold maxLen; omega) (by omega) HZF.out _ rfl ?_; intro g3 c3 w18 hown18 hgrow18 hat18 hlt18; have hc18 := Ch.grown (S := fun _ => False) hgrow18 (fun k hk => by cases hk); have M18 := Lib.hid (M17a.out.chF hc18); have HV18 := Lib.hid (own_ch HV17a.out hc18); have HF18 := Lib.hid hown18; have z18 : w18.frozen? ⟨T, 4, none⟩ = false := blk_frozen M18.out.vs.tb; have c18 : w18.cell? ⟨T, 4, none⟩ = some (.slice none 0 0) := blk_cell M18.out.vs.tb rfl; clear hown18 hgrow18 hat18 hlt18 hc18)
  rw [show (0 + 1 : Nat) = 1 from rfl, List.nil_append] at HF18
  have M19 := Lib.hid (M18.out.set 4 (.slice (some ⟨g3, 0, none⟩) 1 c3))
  have HV19 := Lib.hid (own_tb (k := 4) (x := .slice (some ⟨g3, 0, none⟩) 1 c3) M18.out.vs.tb HV18.out (by decide))
  have HF19 := Lib.hid (own_tb (k := 4) (x := .slice (some ⟨g3, 0, none⟩) 1 c3) M18.out.vs.tb HF18.out (by decide))
  clear z18 c18 cT17 HNW hi0 hz0 hz1 hz2
  generalize w18.setCell ⟨T, 4, none⟩ (.slice (some ⟨g3, 0, none⟩) 1 c3) = W19 at *
  rw [rounds_succ]
  go_wp2_with fail
  refine (field_at M19.out.vs.st (step_drop HL.out rfl) (by simp) (n := 0) (m := 0) rfl (t := ⟨#[]⟩) rfl (j := i + 17) rfl).mono ?_
  rintro e w20 ⟨rfl, hm20⟩
  have M20 := Lib.hid (M19.out.mv hm20 (by omega))
  have HV20 := Lib.hid (own_lx M19.out.vs.st hm20 HV19.out (by decide))
  have HF20 := Lib.hid (own_lx M19.out.vs.st hm20 HF19.out (by decide))
  clear hm20
  go_wp2_with fail
  refine (nextLine_ok M20.out.vs.st.lx).mono ?_
  rw [HX.out]
  rintro e w21 ⟨rfl, hm21⟩
  have M9 := Lib.hid (M20.out.mv hm21 hlen)
  have HV21 := Lib.hid (own_lx M20.out.vs.st hm21 HV20.out (by decide))
  have HF21 := Lib.hid (own_lx M20.out.vs.st hm21 HF20.out (by decide))
  clear hm21
  clear M1 M2 M3 M4 M5 M6 M7 M8 M9a M10 M11 M11a M12 M13 M14 M14a M15 M16 M17 M17a M18 M19 M20 HV12 HV13 HV14 HV14a HV15 HV16 HV17 HV17a HV18 HV19 HV20 HF18 HF19 HF20 HP10 HP11 HP11a HP12 HP13
  go_upto_region 40 with fail
  have M9D := Lib.hid M9.out.vs.st.desc
  have HOWN := Lib.hid M9.out.ho
  have HZW := Lib.hid (show w1.heap.size ≤ w21.heap.size by rw [HW.out]; exact M9.out.zw)
  have HLW := Lib.hid (show Bo ≤ w21.heap.size from Nat.le_trans HB1.out HZW.out)
  have HLBK := Lib.hid (show ¬ (v.ownBlock = some L) from fun e => (HROW.out L e).1 rfl)
  have HDBK := Lib.hid (show ¬ (v.ownBlock = some D) from fun e => (HROW.out D e).2.1 rfl)
  refine wp_region_ops8 (by kernel_rfl) [138, 139, 140, 141, 142, 143, 144, 145, 146, 147, 148, 149, 150, 151, 152] 15 [] (by kernel_rfl) (by kernel_rfl) (by kernel_rfl) (medlT L D T Bo w1.heap.size n v xs) (appR Bo 145 1 n v xs 12 w21) ⟨Ch.of_heap (Ch.refl _ w21) rfl rfl rfl rfl, .inr HOWN.out⟩ (fun q hq => by cases hq) ?_ ?_
  · intro i oo hi ho A f W' hf hdep hcl hR hr hx K hK
    have hRc := hR.1
    have hLW : Bo ≤ W'.heap.size := Nat.le_trans HLW.out hRc.size
    have hZW : w1.heap.size ≤ W'.heap.size := Nat.le_trans HZW.out hRc.size
    have hL0 : W'.cell? ⟨L, 0, none⟩ = some (.pointer (some ⟨D, 0, none⟩)) := hRc.cell M9.out.vs.st.p0 HLBK.out
    have hD : W'.heap[D]? = some (.cells cs 108 (0, 0)) := (hRc.block D (blk_lt M9.out.vs.st.desc) HDBK.out).trans M9.out.vs.st.desc
    have hDv := HVC.out
    exact match i, hi, ho with
      | 0, _, ho => by
        obtain rfl := Option.some.inj ho
        have e0 : A.tmps[0]?.getD undef = .pointer (some ⟨L, 0, none⟩) := (eval_getD A 0).symm.trans (hx 0 (by decide))
        unfold Oper.wp execOp
        go_simp
        have hcc : Ch (fun _ => False) W' _ := Ch.refl _ _
        exact hK _ _ (fun d hd => by cases hd; exact rfl) (appR_step (by decide) hcc hR) (fun d _ _ h => medl_stay hcc h)
      | 1, _, ho => by
        obtain rfl := Option.some.inj ho
        have e138 : A.tmps[138]?.getD undef = .pointer (some ⟨L, 0, none⟩) := (eval_getD A 138).symm.trans (hr 138 (by decide) (by decide))
        unfold Oper.wp execOp
        go_simp
        have hcc : Ch (fun _ => False) W' _ := Ch.refl _ _
        exact hK _ _ (fun d hd => by cases hd; exact rfl) (appR_step (by decide) hcc hR) (fun d _ _ h => medl_stay hcc h)
      | 2, _, ho => by
        obtain rfl := Option.some.inj ho
        have e139 : A.tmps[139]?.getD undef = .pointer (some ⟨L, 0, none⟩) := (eval_getD A 139).symm.trans (hr 139 (by decide) (by decide))
        unfold Oper.wp execOp
        go_simp
        have hcc : Ch (fun _ => False) W' _ := Ch.refl _ _
        exact hK _ _ (fun d hd => by cases hd; exact rfl) (appR_step (by decide) hcc hR) (fun d _ _ h => medl_stay hcc h)
      | 3, _, ho => by
        obtain rfl := Option.some.inj ho
        have e140 : A.tmps[140]?.getD undef = .pointer (some ⟨L, 0, none⟩) := (eval_getD A 140).symm.trans (hr 140 (by decide) (by decide))
        have l0 : W'.cell? ⟨L, 0, none⟩ = some (.pointer (some ⟨D, 0, none⟩)) := hL0
        unfold Oper.wp execOp
        go_simp
        have hcc : Ch (fun _ => False) W' _ := Ch.refl _ _
        exact hK _ _ (fun d hd => by cases hd; exact rfl) (appR_step (by decide) hcc hR) (fun d _ _ h => medl_stay hcc h)
      | 4, _, ho => by
        obtain rfl := Option.some.inj ho
        have e0 : A.tmps[0]?.getD undef = .pointer (some ⟨L, 0, none⟩) := (eval_getD A 0).symm.trans (hx 0 (by decide))
        unfold Oper.wp execOp
        go_simp
        have hcc : Ch (fun _ => False) W' _ := Ch.refl _ _
        exact hK _ _ (fun d hd => by cases hd; exact rfl) (appR_step (by decide) hcc hR) (fun d _ _ h => medl_stay hcc h)
      | 5, _, ho => by
        obtain rfl := Option.some.inj ho
        have e142 : A.tmps[142]?.getD undef = .pointer (some ⟨L, 0, none⟩) := (eval_getD A 142).symm.trans (hr 142 (by decide) (by decide))
        unfold Oper.wp execOp
        go_simp
        have hcc : Ch (fun _ => False) W' _ := Ch.refl _ _
        exact hK _ _ (fun d hd => by cases hd; exact rfl) (appR_step (by decide) hcc hR) (fun d _ _ h => medl_stay hcc h)
      | 6, _, ho => by
        obtain rfl := Option.some.inj ho
        have e143 : A.tmps[143]?.getD undef = .pointer (some ⟨L, 0, none⟩) := (eval_getD A 143).symm.trans (hr 143 (by decide) (by decide))
        unfold Oper.wp execOp
        go_simp
        have hcc : Ch (fun _ => False) W' _ := Ch.refl _ _
        exact hK _ _ (fun d hd => by cases hd; exact rfl) (appR_step (by decide) hcc hR) (fun d _ _ h => medl_stay hcc h)
      | 7, _, ho => by
        obtain rfl := Option.some.inj ho
        have e144 : A.tmps[144]?.getD undef = .pointer (some ⟨L, 0, none⟩) := (eval_getD A 144).symm.trans (hr 144 (by decide) (by decide))
        have l0 : W'.cell? ⟨L, 0, none⟩ = some (.pointer (some ⟨D, 0, none⟩)) := hL0
        unfold Oper.wp execOp
        go_simp
        have hcc : Ch (fun _ => False) W' _ := Ch.refl _ _
        exact hK _ _ (fun d hd => by cases hd; exact rfl) (appR_step (by decide) hcc hR) (fun d _ _ h => medl_stay hcc h)
      | 8, _, ho => by
        obtain rfl := Option.some.inj ho
        have e145 : A.tmps[145]?.getD undef = .pointer (some ⟨D, 0, none⟩) := (eval_getD A 145).symm.trans (hr 145 (by decide) (by decide))
        unfold Oper.wp execOp
        go_simp
        have hcc : Ch (fun _ => False) W' _ := Ch.refl _ _
        exact hK _ _ (fun d hd => by cases hd; exact rfl) (appR_step (by decide) hcc hR) (fun d _ _ h => medl_stay hcc h)
      | 9, _, ho => by
        obtain rfl := Option.some.inj ho
        have e146 : A.tmps[146]?.getD undef = .pointer (some ⟨D, 0, none⟩) := (eval_getD A 146).symm.trans (hr 146 (by decide) (by decide))
        unfold Oper.wp execOp
        go_simp
        have hcc : Ch (fun _ => False) W' _ := Ch.refl _ _
        exact hK _ _ (fun d hd => by cases hd; exact rfl) (appR_step (by decide) hcc hR) (fun d _ _ h => medl_stay hcc h)
      | 10, _, ho => by
        obtain rfl := Option.some.inj ho
        have e147 : A.tmps[147]?.getD undef = .pointer (some ⟨D, 18, none⟩) := (eval_getD A 147).symm.trans (hr 147 (by decide) (by decide))
        have hl0 := blk_cell hD hDv
        unfold Oper.wp execOp
        go_simp
        have hfa : f 12 = false := Bool.eq_false_iff.2 (fun h => by have h1 := hcl 12 h 10 (by decide); rw [hf] at h1; cases h1)
        have hcc : Ch (fun _ => False) W' _ := Ch.refl _ _
        exact hK _ _ (fun d hd => by cases hd; exact .inr ⟨rfl, hR.2.resolve_left (by rw [hfa]; decide)⟩) (appR_step (by decide) hcc hR) (fun d _ _ h => medl_stay hcc h)
      | 11, _, ho => by
        obtain rfl := Option.some.inj ho
        have e4 : A.tmps[4]?.getD undef = .pointer (some ⟨T, 0, none⟩) := (eval_getD A 4).symm.trans (hx 4 (by decide))
        unfold Oper.wp execOp
        go_simp
        have hcc : Ch (fun _ => False) W' (W'.alloc (.cells #[.pointer (some ⟨T, 0, none⟩)] 145)) := Ch.grown (World.grownBy_alloc _ _ none) (by simp)
        exact hK _ _ (fun d hd => by cases hd; exact .inr ⟨_, rfl, heap_alloc_new _ _⟩) (appR_step (by decide) hcc hR) (fun d _ _ h => medl_stay hcc h)
      | 12, _, ho => by
        obtain rfl := Option.some.inj ho
        have hls : f 12 = true ∨ (A.eval (.tmp 148) = v ∧ W'.ownsRow Bo 145 1 v n xs) := hr 148 (by decide) (by decide)
        obtain ⟨els, hown⟩ := hls.resolve_left (by rw [hf]; decide)
        have hbs : f 12 = true ∨ ∃ (k : Nat) , A.eval (.tmp 149) = .slice (some ⟨k, 0, none⟩) 1 1 ∧ W'.heap[k]? = some (.cells #[.pointer (some ⟨T, 0, none⟩)] 145 (0, 0)) := hr 149 (by decide) (by decide)
        obtain ⟨k, ebs, hk⟩ := hbs.resolve_left (by rw [hf]; decide)
        obtain ⟨i0, hi0, hz0, hz1, hz2⟩ := info_parts info145_l
        refine wp_append_lies _ (.tmp 148) (.tmp 149) 106 rfl Bo 145 i0 _ 1 8 Tryz.underlying106 hi0 hz0 hz1 hz2 rfl (by decide) v n xs els hown ⟨k, 0, none⟩ 1 1 [.pointer (some ⟨T, 0, none⟩)] ebs rfl (World.news_of_block hk) (by simp [Value.oneCell']) (by decide) (by unfold maxLen; omega) (by omega) hLW _ rfl ?_
        intro g cap W2 hown2 hgrow2 hat hlt
        have hco : Ch (fun j => v.ownBlock = some j) W' W2 := Ch.grown hgrow2 (fun j hj => hj)
        exact hK _ _ (fun d hd => by cases hd; exact ⟨by simp [upd], hown2, lies_at hat hZW⟩) (appR_app hco hR) (fun d _ hne h => medl_stayA (fun e => hne (by subst e; rfl)) hown hco h)
      | 13, _, ho => by
        obtain rfl := Option.some.inj ho
        have e141 : A.tmps[141]?.getD undef = .pointer (some ⟨D, 0, none⟩) := (eval_getD A 141).symm.trans (hr 141 (by decide) (by decide))
        unfold Oper.wp execOp
        go_simp
        have hcc : Ch (fun _ => False) W' _ := Ch.refl _ _
        exact hK _ _ (fun d hd => by cases hd; exact rfl) (appR_step (by decide) hcc hR) (fun d _ _ h => medl_stay hcc h)
      | 14, _, ho => by
        obtain rfl := Option.some.inj ho
        have e151 : A.tmps[151]?.getD undef = .pointer (some ⟨D, 0, none⟩) := (eval_getD A 151).symm.trans (hr 151 (by decide) (by decide))
        unfold Oper.wp execOp
        go_simp
        have hcc : Ch (fun _ => False) W' _ := Ch.refl _ _
        exact hK _ _ (fun d hd => by cases hd; exact rfl) (appR_step (by decide) hcc hR) (fun d _ _ h => medl_stay hcc h)
      | n + 15, hi, _ => absurd hi (by omega)
  · intro oo ho u f W3 hfa hR hu
    obtain rfl := Option.some.inj ho
    have hap : f 12 = true ∧ (W3.ownsRow Bo 145 1 (u 150) (n + 1) (xs ++ [.pointer (some ⟨T, 0, none⟩)]) ∧ lies v w1.heap.size ((u 150))) := hu 150 (by decide)
    have hRc := hR.1
    have hv1 : u 152 = .pointer (some ⟨D, 18, none⟩) := hu 152 (by decide)
    have hb3 : W3.heap[D]? = some (.cells cs 108 (0, 0)) := (hRc.block D (blk_lt M9D.out) HDBK.out).trans M9D.out
    have hf3 : W3.frozen? ⟨D, 18, none⟩ = false := blk_frozen hb3
    have hc3 : W3.cell? ⟨D, 18, none⟩ = some v := blk_cell hb3 HVC.out
    have ⟨ho9, hz9⟩ := hap.2
    obtain ⟨g9, cap9, hvn⟩ := own_form ho9
    rw [hvn] at ho9 hz9
    have HO9a := Lib.hid ho9
    have HZ9 := Lib.hid hz9
    have HRC := Lib.hid hRc
    have HB3 := Lib.hid hb3
    clear hR hu hfa hb3 hRc hap ho9 hz9
    rw [medl_frame, hv1, hvn]
    unfold Oper.wp execOp
    go_simp
    clear hv1 hf3 hc3 hvn
    have H22 := Lib.hid ((M9.out.vs.st.chX HRC.out (fun k hk => HROW.out k hk) (fun k hk => .inr hk)).set 18 (.slice (some ⟨g9, 0, none⟩) (n + 1) cap9))
    have hvT : ¬ (v.ownBlock = some T) := fun e => by have := HLT.out T e; have := HW.out; omega
    have HT22 := Lib.hid ((blk_set_other (j := 18) (.slice (some ⟨g9, 0, none⟩) (n + 1) cap9) (Ne.symm M9.out.vs.td)).trans ((HRC.out.block T (blk_lt M9.out.vs.tb) hvT).trans M9.out.vs.tb))
    have HO22 := Lib.hid (own_tb (k := 18) (x := .slice (some ⟨g9, 0, none⟩) (n + 1) cap9) HB3.out HO9a.out (by decide))
    have HV22 := Lib.hid (own_tb (k := 18) (x := .slice (some ⟨g9, 0, none⟩) (n + 1) cap9) HB3.out (own_chX HV21.out HRC.out (fun k hk => own_ne2 HV21.out HOWN.out (by decide) hk)) (by decide))
    have HF22 := Lib.hid (own_tb (k := 18) (x := .slice (some ⟨g9, 0, none⟩) (n + 1) cap9) HB3.out (own_chX HF21.out HRC.out (fun k hk => own_ne2 HF21.out HOWN.out (by decide) hk)) (by decide))
    clear hvT
    go_wp2_with fail
    go_ret2
    exact ⟨rfl, w1, g9, cap9, T, .slice (some ⟨g2, 0, none⟩) 2 c2, .slice (some ⟨g3, 0, none⟩) 1 c3, HQ1.out, H22.out, HO22.out, HZ9.out, HT22.out, Nat.le_of_eq HW.out, ⟨[⟨#[82, 84, 80]⟩, ⟨#[65, 86, 80]⟩], by decide, own0 HV22.out⟩, ⟨[⟨#[48]⟩], by decide, own0 HF22.out⟩⟩

end
end Go.Proofs.YtimonhimfioohaaGreatDoor
