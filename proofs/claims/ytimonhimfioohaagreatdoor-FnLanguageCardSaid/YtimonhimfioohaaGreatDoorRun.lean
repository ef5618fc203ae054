/- UnmarshalString (package sdp): its loop over the states, and what stands behind it. -/
import Derived.Test.YtimonhimfioohaaGreatDoorStageA
import Derived.Deep.Cut
import Derived.Deep.RegionWith
namespace Go.Proofs.YtimonhimfioohaaGreatDoor
open Go.RowKit

theorem func_neq173 (G : Nat) (w : World) : (binOp .neq 173 (.func (.func G) #[] #[]) .nilFunc).run Tryz.prog w = .ok (.bool true) w := by kernel_rfl
theorem nilFunc_neq173 (w : World) : (binOp .neq 173 .nilFunc .nilFunc).run Tryz.prog w = .ok (.bool false) w := by kernel_rfl

theorem setCell_same_heap {w : World} {k j : Nat} {v : Value} (h : w.cell? ⟨k, j, none⟩ = some v) : (w.setCell ⟨k, j, none⟩ v).heap = w.heap := by
  apply Array.ext_getElem?
  intro i
  simp only [World.setCell, Array.getElem?_modify]
  by_cases hk : k = i
  · subst hk
    simp only [if_true]
    unfold World.cell? at h
    dsimp only at h
    cases hh : w.heap[k]? with
    | none => simp
    | some ob =>
      rw [hh] at h
      cases ob with
      | cells c e f =>
        simp only [Option.isSome_none, Bool.false_eq_true, if_false] at h
        simp only [Option.map_some, Option.isSome_none, Bool.false_eq_true, if_false]
        congr 2
        obtain ⟨hlt, hv⟩ := Array.getElem?_eq_some_iff.1 h
        apply Array.ext_getElem?
        intro m
        rw [Array.getElem?_setIfInBounds]
        by_cases hm : j = m
        · subst hm; simp [hlt, hv]
        · simp [hm]
      | _ => simp at h
  · simp only [hk, if_false]

theorem reset_any (C : Nat) (w : World) (hb : w.heap[C]? = some (.cells #[.slice none 0 0, .slice none 0 0] 172 (0, 0))) :
    Calls Tryz.prog 85 #[.pointer (some ⟨C, 0, none⟩)] w fun e w' => e = .returned (.tuple #[]) ∧ w'.heap = w.heap ∧ w'.os = w.os ∧ w'.tape = w.tape ∧ w'.output = w.output := by
  have c0 := blk_cell (j := 0) hb rfl
  have c1 := blk_cell (j := 1) hb rfl
  have z0 := blk_frozen (j := 0) hb
  have z1 := blk_frozen (j := 1) hb
  have HB := Lib.hid hb
  clear hb
  go_enter Tryz.func85, Tryz.ntmps85
  go_wp2
  go_end0
  refine ⟨rfl, ?_, rfl, rfl, rfl⟩
  have e1 := setCell_same_heap c0
  have e2 := setCell_same_heap (w := w.setCell ⟨C, 0, none⟩ (.slice none 0 0)) (k := C) (j := 1) (v := .slice none 0 0) (by rw [World.cell?_setCell_other _ _ _ _ (by simp)]; exact c1)
  exact e2.trans e1

theorem cloneSession_nil (C : Nat) (w : World) (hb : w.heap[C]? = some (.cells #[.slice none 0 0, .slice none 0 0] 172 (0, 0))) :
    Calls Tryz.prog 87 #[.pointer (some ⟨C, 0, none⟩)] w fun e w' => e = .returned (.slice none 0 0) ∧ w = w' := by
  have c0 := blk_cell (j := 0) hb rfl
  clear hb
  go_enter Tryz.func87, Tryz.ntmps87
  go_wp2
  go_ret
  exact ⟨rfl, rfl⟩

theorem populate_nil (C : Value) (D : Nat) (w : World) (hc : w.cell? ⟨D, 18, none⟩ = some (.slice none 0 0)) :
    Calls Tryz.prog 88 #[C, .pointer (some ⟨D, 0, none⟩)] w fun e w' => e = .returned (.tuple #[]) ∧ w' = w := by
  go_enter Tryz.func88, Tryz.ntmps88
  go_wp2
  go_end0
  exact ⟨rfl, rfl⟩

/-- What a description's block holds at first. -/
def zeroDesc : Array Value := #[.int .i64 0, .string ⟨#[]⟩, .int .u64 0, .int .u64 0, .string ⟨#[]⟩, .string ⟨#[]⟩, .string ⟨#[]⟩, .string ⟨#[]⟩, .pointer none, .pointer none, .pointer none, .pointer none, .pointer none, .slice none 0 0, .slice none 0 0, .slice none 0 0, .pointer none, .slice none 0 0, .slice none 0 0]

theorem Tryz.zero108 : (Tryz.prog.info? 108).map (fun i => i.zero.map (·.cells)) = some (some zeroDesc) := by kernel_rfl

/-- The parse at one round: either it has come to its end, or one more state is called. -/
structure Stages (I : Nat → Value → World → Prop) (L : Nat) (Bad : World → Prop) : Prop where
  step : ∀ k v w, I k v w → v = .nilFunc ∨ ∃ G : Nat, v = .func (.func G) #[] #[] ∧
    (∀ (args : Array Value) (W : World), (callFunc G args).run Tryz.prog W = .ok (.enter G args) W) ∧
    Calls Tryz.prog G #[.pointer (some ⟨L, 0, none⟩)] w fun e w' => (∃ v' k', e = .returned (.tuple #[v', .nilIface]) ∧ k' < k ∧ I k' v' w') ∨ (∃ t x, e = .returned (.tuple #[.nilFunc, .iface t x]) ∧ Bad w')

def Res (Bad Good : World → Prop) (e : Ending) (w' : World) : Prop := (e = .returned .nilIface ∧ Good w') ∨ (∃ t x, e = .returned (.iface t x) ∧ Bad w')

set_option maxHeartbeats 800000 in
theorem unmarshalString_gen {ae : Addr} {D : Nat} {cs : Array Value} {s : ByteArray} {w : World} {I : Nat → Value → World → Prop} {Bad Good : World → Prop} {n : Nat}
    (hD : w.heap[D]? = some (.cells cs 108 (0, 0))) (hcs : cs.size = 19) (h6 : w.cell? ⟨6, 0, none⟩ = some (.iface 342 (.pointer (some ae)))) (hD6 : D ≠ 6) (hsz : s.size ≤ 9223372036854775806)
    (hst : Stages I w.heap.size Bad)
    (hI : ∀ W, St ae (fun k => k = w.heap.size ∨ k = D) w.heap.size D (w.heap.size + 1) s W cs 0 W → W.heap[w.heap.size + 1]? = some (.cells #[.slice none 0 0, .slice none 0 0] 172 (0, 0)) → Ch (fun _ => False) w W → I n (.func (.func 86) #[] #[]) W)
    (hend : ∀ k W, I k .nilFunc W → ∃ C, W.cell? ⟨w.heap.size, 1, none⟩ = some (.pointer (some ⟨C, 0, none⟩)) ∧ W.cell? ⟨w.heap.size, 0, none⟩ = some (.pointer (some ⟨D, 0, none⟩)) ∧
      Calls Tryz.prog 87 #[.pointer (some ⟨C, 0, none⟩)] W fun e W1 => ∃ a n c, e = .returned (.slice a n c) ∧ W1.cell? ⟨w.heap.size, 1, none⟩ = some (.pointer (some ⟨C, 0, none⟩)) ∧ W1.cell? ⟨w.heap.size, 0, none⟩ = some (.pointer (some ⟨D, 0, none⟩)) ∧ (∃ u, W1.cell? ⟨D, 17, none⟩ = some u) ∧ W1.frozen? ⟨D, 17, none⟩ = false ∧
        Calls Tryz.prog 88 #[.pointer (some ⟨C, 0, none⟩), .pointer (some ⟨D, 0, none⟩)] (W1.setCell ⟨D, 17, none⟩ (.slice a n c)).drew fun e W2 => e = .returned (.tuple #[]) ∧ Good W2) :
    Calls Tryz.prog 46 #[.pointer (some ⟨D, 0, none⟩), .string s] w (Res Bad Good) := by
  have HD := Lib.hid hD
  have HI := Lib.hid hI
  have HE := Lib.hid hend
  have HS := Lib.hid hst
  have H6 := Lib.hid h6
  clear hD hI hend hst h6
  go_enter Tryz.func46, Tryz.ntmps46
  go_wp2_with fail
  have hA := heap_alloc_new w (.cells #[.pointer none, .pointer (some ⟨w.heap.size + 1, 0, none⟩), .string ⟨#[]⟩, .int .i64 0] 170)
  have hA0 := (Below.heap_alloc (w.alloc (.cells #[.pointer none, .pointer (some ⟨w.heap.size + 1, 0, none⟩), .string ⟨#[]⟩, .int .i64 0] 170)) (.cells #[.slice none 0 0, .slice none 0 0] 172) w.heap.size (blk_lt hA)).trans hA
  have hA1 : ((w.alloc (.cells #[.pointer none, .pointer (some ⟨w.heap.size + 1, 0, none⟩), .string ⟨#[]⟩, .int .i64 0] 170)).alloc (.cells #[.slice none 0 0, .slice none 0 0] 172)).heap[w.heap.size + 1]? = some (.cells #[.slice none 0 0, .slice none 0 0] 172 (0, 0)) := by
    have h1 := heap_alloc_new (w.alloc (.cells #[.pointer none, .pointer (some ⟨w.heap.size + 1, 0, none⟩), .string ⟨#[]⟩, .int .i64 0] 170)) (.cells #[.slice none 0 0, .slice none 0 0] 172)
    simpa using h1
  have hch : Ch (fun _ => False) w ((w.alloc (.cells #[.pointer none, .pointer (some ⟨w.heap.size + 1, 0, none⟩), .string ⟨#[]⟩, .int .i64 0] 170)).alloc (.cells #[.slice none 0 0, .slice none 0 0] 172)) :=
    ⟨rfl, rfl, rfl, by simp; omega, fun k hk _ => (Below.heap_alloc _ _ k (by simp; omega)).trans (Below.heap_alloc w _ k hk)⟩
  refine (reset_any (w.heap.size + 1) _ hA1).mono ?_
  rintro e w2 ⟨rfl, hh, ho, ht, hou⟩
  have hB0 := hA0
  rw [← hh] at hB0
  have hB1 := hA1
  rw [← hh] at hB1
  have hch2 := hch.of_heap hh ho ht hou
  have HB0 := Lib.hid hB0
  have HB1 := Lib.hid hB1
  have HCH := Lib.hid hch2
  have z0 := blk_frozen (j := 0) hB0
  have z2 := blk_frozen (j := 2) hB0
  have c0 := blk_cell (j := 0) hB0 rfl
  have c2 := blk_cell (j := 2) hB0 rfl
  clear hA hA0 hA1 hch hh ho ht hou hB0 hB1 hch2
  go_wp2_with fail
  have hN6 : w.heap.size ≠ 6 := by have : 6 < w.heap.size := World.block_lt_of_cell? w _ H6.out; omega
  have hND : w.heap.size ≠ D := by have := blk_lt HD.out; omega
  have hDw : w2.heap[D]? = some (.cells cs 108 (0, 0)) := (HCH.out.block D (blk_lt HD.out) id).trans HD.out
  have h6w : w2.cell? ⟨6, 0, none⟩ = some (.iface 342 (.pointer (some ae))) := (World.cell?_of_block (HCH.out.block 6 (World.block_lt_of_cell? w _ H6.out) id)).trans H6.out
  have hch3 : Ch (fun _ => False) w ((w2.setCell ⟨w.heap.size, 0, none⟩ (.pointer (some ⟨D, 0, none⟩))).setCell ⟨w.heap.size, 2, none⟩ (.string s)) := by
    refine ⟨HCH.out.os, HCH.out.tape, HCH.out.output, by simpa [World.setCell] using HCH.out.size, fun k hk hf => ?_⟩
    rw [blk_set_other _ (by omega), blk_set_other _ (by omega)]
    exact HCH.out.block k hk hf
  have hC3 : ((w2.setCell ⟨w.heap.size, 0, none⟩ (.pointer (some ⟨D, 0, none⟩))).setCell ⟨w.heap.size, 2, none⟩ (.string s)).heap[w.heap.size + 1]? = some (.cells #[.slice none 0 0, .slice none 0 0] 172 (0, 0)) := by
    rw [blk_set_other _ (by omega), blk_set_other _ (by omega)]; exact HB1.out
  have hst3 : St ae (fun k => k = w.heap.size ∨ k = D) w.heap.size D (w.heap.size + 1) s ((w2.setCell ⟨w.heap.size, 0, none⟩ (.pointer (some ⟨D, 0, none⟩))).setCell ⟨w.heap.size, 2, none⟩ (.string s)) cs 0 ((w2.setCell ⟨w.heap.size, 0, none⟩ (.pointer (some ⟨D, 0, none⟩))).setCell ⟨w.heap.size, 2, none⟩ (.string s)) := by
    refine ⟨?_, ?_, ?_, hN6, hD6, hND, hsz, Nat.zero_le _, hcs, Ch.refl _ _, .inl rfl, .inr rfl⟩
    · rw [blk_set _ (blk_set _ HB0.out)]; rfl
    · rw [blk_set_other _ hND, blk_set_other _ hND]; exact hDw
    · rw [World.cell?_setCell_other _ _ _ _ (by simp), World.cell?_setCell_other _ _ _ _ (by simp)]; exact h6w
  have hI0 := HI.out _ hst3 hC3 hch3
  have HI0 := Lib.hid hI0
  clear hI0 hst3 hC3 hch3 hDw h6w hN6 hND z0 z2 c0 c2 hcs hD6 hsz
  generalize (w2.setCell ⟨w.heap.size, 0, none⟩ (.pointer (some ⟨D, 0, none⟩))).setCell ⟨w.heap.size, 2, none⟩ (.string s) = W0 at *
  go_loopg [6] n (fun k v wr => I k v wr)
  case atStart => exact HI0.out
  case round =>
    have HR := Lib.hid hrel
    clear hrel
    rcases HS.out.step _ _ _ HR.out with hv | ⟨G, hv, hcall, hc⟩
    · subst hv
      have hq := nilFunc_neq173
      obtain ⟨C, hp1, hp0, hclone⟩ := HE.out _ _ HR.out
      have HC := Lib.hid hclone
      clear hclone
      go_wp2_with fail
      refine HC.out.mono ?_
      rintro e W1 ⟨a, n', c, rfl, hp1', hp0', ⟨u, hc17⟩, hz17, hpop⟩
      have HP := Lib.hid hpop
      have hne1 : ¬ (D = w.heap.size) := by have := blk_lt HD.out; omega
      have HG := Lib.hid hne1
      clear hpop hne1
      go_wp2_with fail
      have hq1 : (W1.setCell ⟨D, 17, none⟩ (.slice a n' c)).cell? ⟨w.heap.size, 1, none⟩ = some (.pointer (some ⟨C, 0, none⟩)) := by
        rw [World.cell?_setCell_other _ _ _ _ (by simp)]; exact hp1'
      have hq0 : (W1.setCell ⟨D, 17, none⟩ (.slice a n' c)).cell? ⟨w.heap.size, 0, none⟩ = some (.pointer (some ⟨D, 0, none⟩)) := by
        rw [World.cell?_setCell_other _ _ _ _ (by simp)]; exact hp0'
      generalize W1.setCell ⟨D, 17, none⟩ (.slice a n' c) = W2 at *
      go_region_with (go_at_call 88; refine HP.out.mono ?_; rintro e W3 ⟨rfl, hgood⟩; have HGood := Lib.hid hgood; clear hgood)
      all_goals go_wp2_with fail
      all_goals go_ret
      all_goals exact .inl ⟨rfl, HGood.out⟩
    · subst hv
      have hq := func_neq173 G
      have HC := Lib.hid hc
      clear hc
      go_upto_region 9 with fail
      iterate 9 go_step
      (with_reducible refine HC.out.mono ?_)
      clear hcall hq
      rintro e W1 (⟨v', k', rfl, hk', hI'⟩ | ⟨t, x, rfl, hbad⟩)
      · have HI' := Lib.hid hI'
        clear hI'
        go_wp2_with fail
        go_roundg k'
        case measure => exact hk'
        case rel => exact HI'.out
      · have HB := Lib.hid hbad
        clear hbad
        go_wp2_with fail
        go_ret
        exact .inr ⟨t, x, rfl, HB.out⟩
end Go.Proofs.YtimonhimfioohaaGreatDoor
