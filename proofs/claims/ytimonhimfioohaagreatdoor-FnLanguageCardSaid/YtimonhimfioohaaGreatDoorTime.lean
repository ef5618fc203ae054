/- unmarshalTiming (package sdp), by its walk. -/
import Derived.Test.YtimonhimfioohaaGreatDoorOrig
import Derived.Deep.AppendLies
import Derived.Deep.RegionLaw
import Derived.Deep.Cut
namespace Go.Proofs.YtimonhimfioohaaGreatDoor
open Go.RowKit

theorem Tryz.info193 : (Tryz.prog.info? 193).map (fun i => (i.zero, i.size, i.bytes)) = some (some (.agg #[.int .u64 0, .int .u64 0, .slice none 0 0]), 3, 40) := by kernel_rfl

theorem Ch.grown {S : Nat → Prop} {w w' : World} {row : Option Nat} (h : w.grownBy w' row) (hS : ∀ k, row = some k → S k) : Ch S w w' :=
  ⟨h.os, h.tape, h.output, h.size, fun k hk hs => h.block k hk (fun e => hs (hS k e.symm))⟩

section
variable {ae : Addr} {S : Nat → Prop} {L D C : Nat} {s : ByteArray} {w0 : World} {cs : Array Value} {i : Nat} {w : World}
theorem St.grown (h : St ae S L D C s w0 cs i w) {w' : World} {row : Option Nat} (hg : w.grownBy w' row) (hL : some L ≠ row) (hD : some D ≠ row) (h6 : some 6 ≠ row) (hS : ∀ k, row = some k → S k) : St ae S L D C s w0 cs i w' :=
  ⟨by rw [hg.block L (blk_lt h.lexb) hL]; exact h.lexb, by rw [hg.block D (blk_lt h.desc) hD]; exact h.desc,
    by rw [World.cell?_of_block (hg.block 6 (World.block_lt_of_cell? w _ h.eof) h6)]; exact h.eof, h.l6, h.d6, h.ld, h.sz, h.le, h.csz, h.ch.trans (Ch.grown hg hS), h.sl, h.sd⟩

theorem grownBy_set (w : World) (k j : Nat) (v : Value) : w.grownBy (w.setCell ⟨k, j, none⟩ v) (some k) :=
  ⟨rfl, rfl, rfl, by simp [World.setCell], fun i _ hi => Below.heap_setCell w _ v i (fun e => hi (by rw [e]))⟩
theorem Mv.grown {b o j : Nat} {w w' : World} (h : Mv b o j w w') : w.grownBy w' (some b) :=
  ⟨h.os, h.tape, h.output, by rw [h.heap]; simp [World.setCell], fun i _ hi => h.blk_other (fun e => hi (by rw [e]))⟩
theorem grownBy_drew (w : World) (row : Option Nat) : w.grownBy w.drew row := ⟨rfl, rfl, rfl, Nat.le_refl _, fun _ _ _ => rfl⟩
theorem Ch.old {S : Nat → Prop} {a w w' : World} {row : Option Nat} (h : Ch S a w) (hg : w.grownBy w' row) (hr : ∀ k, row = some k → a.heap.size ≤ k ∨ S k) : Ch S a w' :=
  ⟨hg.os.trans h.os, hg.tape.trans h.tape, hg.output.trans h.output, Nat.le_trans h.size hg.size, fun k hk hs => (hg.block k (Nat.lt_of_lt_of_le hk h.size) (fun e => by
    rcases hr k e.symm with h1 | h1
    · omega
    · exact hs h1)).trans (h.block k hk hs)⟩
theorem St.old (h : St ae S L D C s w0 cs i w) {w' : World} {row : Option Nat} (hg : w.grownBy w' row) (hL : some L ≠ row) (hD : some D ≠ row) (h6 : some 6 ≠ row) (hS : ∀ k, row = some k → w0.heap.size ≤ k ∨ S k) : St ae S L D C s w0 cs i w' :=
  ⟨by rw [hg.block L (blk_lt h.lexb) hL]; exact h.lexb, by rw [hg.block D (blk_lt h.desc) hD]; exact h.desc,
    by rw [World.cell?_of_block (hg.block 6 (World.block_lt_of_cell? w _ h.eof) h6)]; exact h.eof, h.l6, h.d6, h.ld, h.sz, h.le, h.csz, h.ch.old hg hS, h.sl, h.sd⟩

/-- The state in unmarshalTiming's walk: its own variable lies in block T. -/
structure TS (ae : Addr) (S : Nat → Prop) (L D C : Nat) (s : ByteArray) (w0 : World) (cs : Array Value) (w : World) (B n : Nat) (v : Value) (xs : List Value) (T : Nat) (i : Nat) (W : World) : Prop where
  st : St ae S L D C s w0 cs i W
  tb : W.heap[T]? = some (.cells #[.int .u64 0, .int .u64 0, .slice none 0 0] 193 (0, 0))
  own : W.ownsRow B 193 3 v n xs
  ch : Ch (fun k => k = L ∨ k = D ∨ v.ownBlock = some k) w W
  t0 : w0.heap.size ≤ w.heap.size
  tw : w.heap.size = T
  tL : L < T
  tD : D < T
  t6 : 6 < T
  oL : some L ≠ v.ownBlock

theorem TS.mv {B n T j : Nat} {v : Value} {xs : List Value} {W W' : World} (h : TS ae S L D C s w0 cs w B n v xs T i W) (m : Mv L (2 + 1) j W W') (hj : j ≤ s.size) : TS ae S L D C s w0 cs w B n v xs T j W' :=
  ⟨h.st.mv m hj, by rw [m.blk_other (by have := h.tL; omega)]; exact h.tb, h.own.kept m.grown (.inr (Ne.symm h.oL)), h.ch.old m.grown (fun k hk => .inr (.inl (Option.some.inj hk.symm))), h.t0, h.tw, h.tL, h.tD, h.t6, h.oL⟩
theorem TS.set {B n T j : Nat} {v u : Value} {xs : List Value} {W : World} (h : TS ae S L D C s w0 cs w B n v xs T i W) (hlt : ∀ g, v.ownBlock = some g → g < T)
    (hu : (#[.int .u64 0, .int .u64 0, .slice none 0 0] : Array Value).setIfInBounds j u = #[.int .u64 0, .int .u64 0, .slice none 0 0]) : TS ae S L D C s w0 cs w B n v xs T i (W.setCell ⟨T, j, none⟩ u) :=
  have hg := grownBy_set W T j u
  have e0 := h.tL
  have e1 := h.tD
  have e2 := h.t6
  have e3 := h.t0
  have e4 := h.tw
  have hne : some T ≠ v.ownBlock := fun e => by have := hlt T e.symm; omega
  ⟨h.st.old hg (by simp; omega) (by simp; omega) (by simp; omega) (fun k hk => .inl (by cases hk; omega)), by rw [blk_set u h.tb, hu], h.own.kept hg (.inr (Ne.symm hne)), h.ch.old hg (fun k hk => .inl (by cases hk; omega)), h.t0, h.tw, h.tL, h.tD, h.t6, h.oL⟩

theorem time_end {B n T gg cap : Nat} {v : Value} {xs : List Value} {w3 w4 : World} (h3 : TS ae S L D C s w0 cs w B n v xs T i w3) (hD : some D ≠ v.ownBlock)
    (h4 : St ae S L D C s w0 cs i w4) (hown4 : w4.ownsRow B 193 3 (.slice (some ⟨gg, 0, none⟩) (n + 1) cap) (n + 1) (xs ++ [.int .u64 0, .int .u64 0, .slice none 0 0]))
    (hgrow : ((w3.alloc (.cells #[.int .u64 0, .int .u64 0, .slice none 0 0] 193)).drew).grownBy w4 v.ownBlock) (hat : v.ownBlock = some gg ∨ gg = w3.heap.size + 1) :
    ∃ g cap', St ae S L D C s w0 (cs.setIfInBounds 14 (.slice (some ⟨g, 0, none⟩) (n + 1) cap')) i (w4.setCell ⟨D, 14, none⟩ (.slice (some ⟨gg, 0, none⟩) (n + 1) cap)) ∧ (w4.setCell ⟨D, 14, none⟩ (.slice (some ⟨gg, 0, none⟩) (n + 1) cap)).ownsRow B 193 3 (.slice (some ⟨g, 0, none⟩) (n + 1) cap') (n + 1) (xs ++ [.int .u64 0, .int .u64 0, .slice none 0 0]) ∧ (v.ownBlock = some g ∨ w.heap.size ≤ g) ∧
        Ch (fun k => k = L ∨ k = D ∨ v.ownBlock = some k) w (w4.setCell ⟨D, 14, none⟩ (.slice (some ⟨gg, 0, none⟩) (n + 1) cap)) := by
  have hsz := h3.ch.size
  have hDw : D < w3.heap.size := Nat.lt_of_lt_of_le (by have := h3.tD; have := h3.tw; omega) hsz
  have hne : some gg ≠ some D := by
    rcases hat with h | h
    · rw [h] at hD; exact fun e => hD e.symm
    · intro e; cases e; omega
  refine ⟨gg, cap, h4.set 14 _, hown4.kept (grownBy_set _ D 14 _) (.inr hne), ?_, ?_⟩
  · rcases hat with h | h
    · exact .inl h
    · exact .inr (by omega)
  · have c1 := h3.ch.old (World.grownBy_alloc w3 (.cells #[.int .u64 0, .int .u64 0, .slice none 0 0] 193) none) (by simp)
    have c2 := c1.old (grownBy_drew _ none) (by simp)
    have c3 := c2.old hgrow (fun k hk => .inr (.inr (.inr hk)))
    exact c3.old (grownBy_set _ D 14 _) (fun k hk => .inr (.inr (.inl (Option.some.inj hk.symm))))

set_option maxRecDepth 100000 in
set_option maxHeartbeats 1600000 in
/-- 't=0 0'. -/
theorem time_line {B n : Nat} {v : Value} {xs : List Value} (h : St ae S L D C s w0 cs i w) {r : List UInt8} (hl : s.data.toList.drop i = 48 :: 32 :: 48 :: 13 :: 10 :: r) (hr : lead isNl r = 0)
    (hv : cs[14]? = some v) (hown : w.ownsRow B 193 3 v n xs) (hB : B ≤ w.heap.size) (hn : n ≤ 100) (hgL : some L ≠ v.ownBlock) (hgD : some D ≠ v.ownBlock) (hg6 : some 6 ≠ v.ownBlock) (hS : ∀ k, v.ownBlock = some k → S k) :
    Calls Tryz.prog 210 #[.pointer (some ⟨L, 0, none⟩)] w fun e w' => e = .returned (.tuple #[.func (.func 217) #[] #[], .nilIface]) ∧
      ∃ g cap, St ae S L D C s w0 (cs.setIfInBounds 14 (.slice (some ⟨g, 0, none⟩) (n + 1) cap)) (i + 5) w' ∧ w'.ownsRow B 193 3 (.slice (some ⟨g, 0, none⟩) (n + 1) cap) (n + 1) (xs ++ [.int .u64 0, .int .u64 0, .slice none 0 0]) ∧ (v.ownBlock = some g ∨ w.heap.size ≤ g) ∧
        Ch (fun k => k = L ∨ k = D ∨ v.ownBlock = some k) w w' := by
  have hlen : i + 5 ≤ s.size := drop_len hl (by simp) h.le
  have h0 : TS ae S L D C s w0 cs w B n v xs w.heap.size i (w.alloc (.cells #[.int .u64 0, .int .u64 0, .slice none 0 0] 193)) :=
    ⟨h.alloc _, heap_new _ _, hown.alloc _, Ch.grown (World.grownBy_alloc w _ none) (by simp), h.ch.size, rfl, blk_lt h.lexb, blk_lt h.desc, World.block_lt_of_cell? w _ h.eof, hgL⟩
  have hlt : ∀ g, v.ownBlock = some g → g < w.heap.size := fun g hg => (hown.lt g hg).2
  have HL := Lib.hid hl
  have HX := Lib.hid (show i + 3 + lead isNl (s.data.toList.drop (i + 3)) = i + 5 from by rw [step_drop hl rfl]; show i + 3 + (lead isNl r + 1 + 1) = i + 5; rw [hr])
  have H0 := Lib.hid h0
  have F1 := Lib.hid (uint_at h0.st hl (v := 0) (m := 2) rfl (j := i + 2) rfl)
  have HP := Lib.hid (And.intro hv (And.intro hS (And.intro hgD hg6)))
  clear h hl hr h0 hv hS hown hgD hg6 hgL
  have hz : (w.alloc (.cells #[.int .u64 0, .int .u64 0, .slice none 0 0] 193)).frozen? ⟨w.heap.size, 0, none⟩ = false := blk_frozen H0.out.tb
  go_enter Tryz.func210, Tryz.ntmps210
  go_wp2_with fail
  refine F1.out.mono ?_
  rintro e w1 ⟨rfl, hm1⟩
  have h1 := H0.out.mv hm1 (by omega)
  have H1 := Lib.hid h1
  have hz1 := blk_frozen (j := 0) h1.tb
  have hc1 := blk_cell (j := 0) h1.tb rfl
  have F2 := Lib.hid (uint_at ((h1.set (j := 0) (u := .int .u64 0) hlt rfl).st) (step_drop HL.out rfl) (v := 0) (m := 1) rfl (j := i + 3) rfl)
  clear hm1 h1 hz
  go_wp2_with fail
  have H1b := Lib.hid (H1.out.set (j := 0) (u := .int .u64 0) hlt rfl)
  clear hz1 hc1
  refine F2.out.mono ?_
  rintro e w2 ⟨rfl, hm2⟩
  have h2 := H1b.out.mv hm2 (by omega)
  have H2 := Lib.hid h2
  have hz2 := blk_frozen (j := 1) h2.tb
  have hc2 := blk_cell (j := 1) h2.tb rfl
  have H2b := Lib.hid (h2.set (j := 1) (u := .int .u64 0) hlt rfl)
  clear hm2 h2
  go_wp2_with fail
  refine (nextLine_ok H2b.out.st.lx).mono ?_
  rw [HX.out]
  rintro e w3 ⟨rfl, hm3⟩
  have h3 := H2b.out.mv hm3 hlen
  have H3 := Lib.hid h3
  clear hm3 hz2 hc2 h3
  go_upto_region 12 with fail
  have hp := H3.out.st.p0
  have hv14 := blk_cell H3.out.st.desc HP.out.1
  have hpA := (H3.out.st.alloc (.cells #[.int .u64 0, .int .u64 0, .slice none 0 0] 193)).p0
  have hvA := blk_cell (H3.out.st.alloc (.cells #[.int .u64 0, .int .u64 0, .slice none 0 0] 193)).desc HP.out.1
  have k0 := blk_cell (j := 0) H3.out.tb rfl
  have k1 := blk_cell (j := 1) H3.out.tb rfl
  have k2 := blk_cell (j := 2) H3.out.tb rfl
  have HP2 := Lib.hid (And.intro H3.out.oL (And.intro HP.out.2.2.1 (And.intro HP.out.2.2.2 (fun k hk => Or.inr (HP.out.2.1 k hk)))) : some L ≠ v.ownBlock ∧ some D ≠ v.ownBlock ∧ some 6 ≠ v.ownBlock ∧ ∀ k, v.ownBlock = some k → w0.heap.size ≤ k ∨ S k)
  have htA : (w3.alloc (.cells #[.int .u64 0, .int .u64 0, .slice none 0 0] 193)).drew.heap[w.heap.size]? = some (.cells #[.int .u64 0, .int .u64 0, .slice none 0 0] 193 (0, 0)) :=
    (Below.heap_alloc w3 _ w.heap.size (blk_lt H3.out.tb)).trans H3.out.tb
  have HT4b := Lib.hid htA
  have k0A := blk_cell (w := w3.alloc (.cells #[.int .u64 0, .int .u64 0, .slice none 0 0] 193)) (j := 0) htA rfl
  have k1A := blk_cell (w := w3.alloc (.cells #[.int .u64 0, .int .u64 0, .slice none 0 0] 193)) (j := 1) htA rfl
  have k2A := blk_cell (w := w3.alloc (.cells #[.int .u64 0, .int .u64 0, .slice none 0 0] 193)) (j := 2) htA rfl
  have HT4 := Lib.hid (show w.heap.size < (w3.alloc (.cells #[.int .u64 0, .int .u64 0, .slice none 0 0] 193)).drew.heap.size ∧ some w.heap.size ≠ v.ownBlock from ⟨blk_lt htA, fun e => absurd (hlt _ e.symm) (by omega)⟩)
  have HTD := Lib.hid (show D ≠ w.heap.size from by have := H3.out.tD; omega)
  clear htA
  obtain ⟨i0, hi0, hz0, hz1, hz2⟩ := info_parts Tryz.info193
  have HO := Lib.hid H3.out.own
  have HS3 := Lib.hid H3.out.ch.size
  go_region_law ((refine step_append_lies _ (by rfl) _ _ _ (by rfl) B 193 i0 _ 3 40 Tryz.underlying102 hi0 hz0 hz1 hz2 rfl (by omega) v n xs (by rfl) ((HO.out.alloc _).drew) ⟨w3.heap.size, 0, none⟩ 1 1 [.int .u64 0, .int .u64 0, .slice none 0 0] (by rfl) (by rfl) (World.news_of_block (cs := #[.int .u64 0, .int .u64 0, .slice none 0 0]) (t := 193) (fr := (0, 0)) (heap_alloc_new w3 _)) (by simp [Value.oneCell']) (by omega) (by unfold maxLen; omega) (by omega) (by simp; have := HS3.out; omega) (w3.heap.size + 1) (by simp) ?_; intro gg cap w4 hown4 hgrow hat hlt4; have h4 := (((H3.out.st).alloc (.cells #[.int .u64 0, .int .u64 0, .slice none 0 0] 193)).drew).old hgrow HP2.out.1 HP2.out.2.1 HP2.out.2.2.1 HP2.out.2.2.2; have hpw4 := h4.p0; have hvw4 := blk_cell h4.desc HP.out.1; have hz4 := h4.fz 14; have htb4 : w4.heap[w.heap.size]? = some (.cells #[.int .u64 0, .int .u64 0, .slice none 0 0] 193 (0, 0)) := (hgrow.block w.heap.size HT4.out.1 HT4.out.2).trans HT4b.out; have k04 := blk_cell (j := 0) htb4 rfl; have k14 := blk_cell (j := 1) htb4 rfl; have k24 := blk_cell (j := 2) htb4 rfl; have hps4 := (h4.set 14 (.slice (some ⟨gg, 0, none⟩) (n + 1) cap)).p0; have hts := (blk_set_other (w := w4) (j := 14) (.slice (some ⟨gg, 0, none⟩) (n + 1) cap) HTD.out).trans htb4; have k0s := blk_cell (j := 0) hts rfl; have k1s := blk_cell (j := 1) hts rfl; have k2s := blk_cell (j := 2) hts rfl; clear htb4 hts))
  all_goals
    have fin := Lib.hid (time_end H3.out HP2.out.2.1 h4 hown4 hgrow hat)
    clear h4 hown4 hgrow hat hpw4 hvw4 hz4 k04 k14 k24 hps4 k0s k1s k2s k0A k1A k2A hpA hvA hp hv14 k0 k1 k2 hi0 hz0 hz1 hz2
    go_wp2
    go_ret2
    exact ⟨rfl, fin.out⟩
end
end Go.Proofs.YtimonhimfioohaaGreatDoor
