/- impl.Unmarshal and laws.works: the shortest description is read. -/
import Derived.Test.YtimonhimfioohaaGreatDoorPlain
import Derived.Defers
import Derived.Recover
namespace Go.Proofs.YtimonhimfioohaaGreatDoor
open Go.RowKit

theorem Ch.cell {S : Nat → Prop} {w w' : World} (h : Ch S w w') {p : Addr} {v : Value} (hc : w.cell? p = some v) (hs : ¬ S p.block) : w'.cell? p = some v := by
  unfold World.cell? at hc ⊢
  cases hh : w.heap[p.block]? with
  | none => rw [hh] at hc; cases hc
  | some o =>
    rw [h.block p.block (Array.getElem?_eq_some_iff.1 hh).1 hs]
    exact hc

theorem Ch.fresh {S T : Nat → Prop} {a b c : World} (h : Ch S a b) (k : Ch T b c) (hT : ∀ i, T i → a.heap.size ≤ i ∨ S i) : Ch S a c :=
  ⟨k.os.trans h.os, k.tape.trans h.tape, k.output.trans h.output, Nat.le_trans h.size k.size, fun i hi hs => (k.block i (Nat.lt_of_lt_of_le hi h.size) (fun e => by
    rcases hT i e with h1 | h1
    · omega
    · exact hs h1)).trans (h.block i hi hs)⟩

theorem try1_idle (p : Addr) (w : World) :
    CallsD Tryz.prog 84 #[.pointer (some p)] .returning w fun e u' w' => e = .returned (.tuple #[]) ∧ u' = .returning ∧ w' = w := by
  refine callsD_of_wpS Tryz.func84 rfl fun c₀ cs hu => ?_
  apply wpS_seq
  apply wpS_region
  simp [wpOpsS, go_sem, recoverD, hu, Tryz.ntmps84, Exit.thenS]
  refine wpS_cond (t := false) (by simp [Act.eval, Array.replicate]) ?_
  simp only [Bool.false_eq_true, if_false]
  refine wpS_of_wp (wp_skip ?_)
  cases c₀
  simp_all [bodyPostS, results, Tryz.results84]

theorem LeastGood.ch {D : Nat} {w W : World} (h : LeastGood D w W) : Ch (fun k => k = D) w W := by obtain ⟨_, _, _, h⟩ := h; exact h

theorem unmarshal1_least {ae : Addr} {D T : Nat} {w : World} (hD : w.heap[D]? = some (.cells zeroDesc 108 (0, 0))) (h6 : w.cell? ⟨6, 0, none⟩ = some (.iface 342 (.pointer (some ae)))) (hD6 : D ≠ 6) (hT : w.cell? ⟨T, 0, none⟩ = some (.string leastText)) :
    Calls Tryz.prog 45 #[.pointer (some ⟨D, 0, none⟩), .pointer (some ⟨T, 0, none⟩)] w fun e w' => e = .returned (.bool true) ∧ LeastGood D w w' := by
  go_enter Tryz.func45, Tryz.ntmps45
  go_wp2_with (go_at_call 46; refine (least_parse hD h6 hD6).mono ?_; rintro e w1 ⟨rfl, hg⟩; have HG := Lib.hid hg; clear hg)
  go_ret
  exact ⟨rfl, HG.out⟩

theorem owns_low {w : World} {b b' : Nat} {e : TypeId} {size n : Nat} {v : Value} {xs : List Value} (h : w.ownsRow b e size v n xs) (hb : b' ≤ b) : w.ownsRow b' e size v n xs := by
  refine ⟨h.1, h.2.imp id ?_⟩
  rintro ⟨g, cap, cur, h1, h2, h3⟩
  exact ⟨g, cap, cur, h1, Nat.le_trans hb h2, h3⟩

theorem LeastGood.under {D : Nat} {w W : World} {cs : Array Value} {t : TypeId} (v : Value) (h : LeastGood D (w.alloc (.cells cs t)) W) (hD : D < w.heap.size) : LeastGood D w (W.setCell ⟨w.heap.size, 0, none⟩ v) := by
  obtain ⟨r, h1, ⟨g, cap, rfl, h2, h3⟩, h4⟩ := h
  have hg : w.heap.size + 1 < g := by simpa using h3
  refine ⟨_, (blk_set_other v (by omega)).trans h1, ⟨g, cap, rfl, owns_low (h2.kept (grownBy_set _ _ _ _) (.inr (by simp [Value.ownBlock]; omega))) (by simp), by omega⟩, ?_⟩
  exact (((Ch.grown (World.grownBy_alloc _ _ none) (by simp)).trans h4)).old (grownBy_set _ _ _ _) (fun j hj => .inl (by cases hj; omega))

theorem try_least {ae : Addr} {D T : Nat} {w : World} (hD : w.heap[D]? = some (.cells zeroDesc 108 (0, 0))) (h6 : w.cell? ⟨6, 0, none⟩ = some (.iface 342 (.pointer (some ae)))) (hD6 : D ≠ 6) (hT : w.cell? ⟨T, 0, none⟩ = some (.string leastText)) :
    Calls Tryz.prog 44 #[.func (.func 45) #[] #[.pointer (some ⟨D, 0, none⟩), .pointer (some ⟨T, 0, none⟩)]] w fun e w' => e = .returned (.bool true) ∧ LeastGood D w w' := by
  have hmf : ∀ (fn : Fn) (first cap : Array Value) (w : World), (Instr.makeFunc fn first cap).run Tryz.prog w = .ok (.func fn first cap) w := fun _ _ _ _ => rfl
  have hDl := blk_lt hD
  have hA : Ch (fun _ => False) w (w.alloc (.cells #[.bool false] 4)) := Ch.grown (World.grownBy_alloc _ _ none) (by simp)
  have hD1 := (hA.block D hDl id).trans hD
  have h61 : (w.alloc (.cells #[.bool false] 4)).cell? ⟨6, 0, none⟩ = some (.iface 342 (.pointer (some ae))) := (hA.cell h6 id)
  have hT1 : (w.alloc (.cells #[.bool false] 4)).cell? ⟨T, 0, none⟩ = some (.string leastText) := (hA.cell hT id)
  have hN1 : (w.alloc (.cells #[.bool false] 4)).heap[w.heap.size]? = some (.cells #[.bool false] 4 (0, 0)) := heap_alloc_new w _
  go_enter_defers Tryz.func44, Tryz.ntmps44
  have hnD : ¬ (fun k => k = D) w.heap.size := fun e => by simp only at e; omega
  have hnl : w.heap.size < (w.alloc (.cells #[.bool false] 4)).heap.size := by simp
  go_wp2_with fail
  go_at_call 45
  refine (unmarshal1_least (D := D) (T := T) (ae := ae) hD1 h61 hD6 hT1).mono ?_
  rintro e w1 ⟨rfl, hg⟩
  have HG := Lib.hid hg
  have hb1 := (hg.ch.block w.heap.size hnl hnD).trans hN1
  have hc : w1.cell? ⟨w.heap.size, 0, none⟩ = some (.bool false) := blk_cell hb1 rfl
  have hz : w1.frozen? ⟨w.heap.size, 0, none⟩ = false := blk_frozen hb1
  clear hg hb1
  go_wp2
  refine leaves_cons (f := 84) (args := #[.pointer (some ⟨w.heap.size, 0, none⟩)]) (by simp) (by simp [go_sem]) ?_
  refine (try1_idle ⟨w.heap.size, 0, none⟩ _).mono ?_
  rintro e u' w'' ⟨rfl, rfl, rfl⟩
  have hR : (w1.setCell ⟨w.heap.size, 0, none⟩ (.bool true)).cell? ⟨w.heap.size, 0, none⟩ = some (.bool true) := World.cell?_setCell_same _ _ _ hc
  simp [Leaves, settle, results, Tryz.results44, go_sem, hR]
  exact HG.out.under _ hDl

set_option maxHeartbeats 1000000 in
theorem unmarshal_least {ae : Addr} {w : World} (h6 : w.cell? ⟨6, 0, none⟩ = some (.iface 342 (.pointer (some ae)))) (h6l : 6 < w.heap.size) :
    Calls Tryz.prog 14 #[.string leastText] w fun e w' => ∃ a n c, e = .returned (.tuple #[.agg (sess1 (.slice a n c)), .bool true]) ∧ Ch (fun _ => False) w w' := by
  have hmf : ∀ (fn : Fn) (first cap : Array Value) (w : World), (Instr.makeFunc fn first cap).run Tryz.prog w = .ok (.func fn first cap) w := fun _ _ _ _ => rfl
  have hA : Ch (fun _ => False) w (((w.alloc (.cells #[.string leastText] 9)).alloc (.cells zeroSess 36)).alloc (.cells zeroDesc 108)) := ((Ch.grown (World.grownBy_alloc _ _ none) (by simp)).trans (Ch.grown (World.grownBy_alloc _ _ none) (by simp))).trans (Ch.grown (World.grownBy_alloc _ _ none) (by simp))
  have hT : (((w.alloc (.cells #[.string leastText] 9)).alloc (.cells zeroSess 36)).alloc (.cells zeroDesc 108)).heap[w.heap.size]? = some (.cells #[.string leastText] 9 (0, 0)) :=
    (heap_alloc_old _ _ (by simp; omega)).trans ((heap_alloc_old _ _ (by simp)).trans (heap_alloc_new w _))
  have hR : (((w.alloc (.cells #[.string leastText] 9)).alloc (.cells zeroSess 36)).alloc (.cells zeroDesc 108)).heap[w.heap.size + 1]? = some (.cells zeroSess 36 (0, 0)) := by
    have h1 := heap_alloc_new (w.alloc (.cells #[.string leastText] 9)) (.cells zeroSess 36)
    rw [World.size_alloc] at h1
    exact (heap_alloc_old _ _ (by simp)).trans h1
  have hD : (((w.alloc (.cells #[.string leastText] 9)).alloc (.cells zeroSess 36)).alloc (.cells zeroDesc 108)).heap[w.heap.size + 1 + 1]? = some (.cells zeroDesc 108 (0, 0)) := by
    have h1 := heap_alloc_new ((w.alloc (.cells #[.string leastText] 9)).alloc (.cells zeroSess 36)) (.cells zeroDesc 108)
    simpa using h1
  have h6' := hA.cell h6 id
  go_enter Tryz.func14, Tryz.ntmps14
  go_wp2_with fail
  generalize hW : (((w.alloc (.cells #[.string leastText] 9)).alloc (.cells zeroSess 36)).alloc (.cells zeroDesc 108)) = W0 at *
  unfold zeroSess zeroDesc at hW
  rw [hW]
  go_at_call 44
  refine (try_least hD h6' (by omega) (blk_cell hT rfl)).mono ?_
  rintro e W1 ⟨rfl, hg⟩
  have hg1 := Lib.hid hg
  have hR1 := Lib.hid ((hg.ch.block (w.heap.size + 1) (blk_lt hR) (by simp)).trans hR)
  have hDl := Lib.hid (blk_lt hD)
  have hA' := Lib.hid hA
  clear hg hD hR hT hA h6' hW
  go_wp2_with fail
  go_at_call 47
  refine (plain_least hg1.out hDl.out).mono ?_
  rintro e W2 ⟨t, rfl, ⟨a, n, c, rfl⟩, hc⟩
  have hR2 := Lib.hid ((hc.block (w.heap.size + 1) (blk_lt hR1.out) id).trans hR1.out)
  have hch := Lib.hid hc
  clear hc
  have hz14 : (sess1 (Value.slice a n c)).all (·.oneCell') = true := by as_aux_lemma => kernel_rfl
  go_wp2_with (refine wpList_store_row rfl 36 (.tmp 2) (.tmp 9) rfl (w.heap.size + 1) (sess1 (.slice a n c)) zeroSess 36 rfl rfl hR2.out Tryz.size36 rfl hz14 ?_)
  have hR3 : (W2.setRow (w.heap.size + 1) (sess1 (.slice a n c))).heap[w.heap.size + 1]? = some (.cells (sess1 (.slice a n c)) 36 (0, 0)) := setRow_heap _ _ _ _ _ _ hR2.out
  have hl := run_loadVar_row (W2.setRow (w.heap.size + 1) (sess1 (.slice a n c))) (w.heap.size + 1) 36 36 (sess1 (.slice a n c)) (0, 0) _ hR3 Tryz.underlying36 rfl Tryz.size36
  refine bodyPost_ret (v := .tuple #[.agg (sess1 (.slice a n c)), .bool true]) (by simp [results, Tryz.results14, asAddr, hl]) rfl ?_
  exact ⟨a, n, c, rfl, (((hA'.out.fresh hg1.out.ch (fun k hk => .inl (by omega))).trans hch.out)).setRow (.inl (by omega)) _⟩

set_option maxHeartbeats 1000000 in
theorem works_true {ae : Addr} {w : World} (h6 : w.cell? ⟨6, 0, none⟩ = some (.iface 342 (.pointer (some ae)))) (h6l : 6 < w.heap.size) :
    Calls Tryz.prog 13 #[] w fun e w' => e = .returned (.bool true) ∧ Ch (fun _ => False) w w' := by
  go_enter Tryz.func13, Tryz.ntmps13
  go_wp2_with fail
  go_at_call 14
  refine (unmarshal_least h6 h6l).mono ?_
  rintro e W1 ⟨a, n, c, rfl, hc⟩
  have hch := Lib.hid hc
  have hR2 : (W1.alloc (.cells zeroSess 36)).heap[W1.heap.size]? = some (.cells zeroSess 36 (0, 0)) := heap_alloc_new _ _
  have hs2 : W1.heap.size < (W1.alloc (.cells zeroSess 36)).heap.size := by simp
  have hA := (hc.trans (Ch.grown (World.grownBy_alloc _ _ none) (by simp)) : Ch (fun _ => False) w (W1.alloc (.cells zeroSess 36)))
  have hz14 : (sess1 (Value.slice a n c)).all (·.oneCell') = true := by as_aux_lemma => kernel_rfl
  have hR3' : ((W1.alloc (.cells zeroSess 36)).setRow W1.heap.size (sess1 (.slice a n c))).heap[W1.heap.size]? = some (.cells (sess1 (.slice a n c)) 36 (0, 0)) := setRow_heap _ _ _ _ _ _ hR2
  have hR3 := blk_cell (j := 7) (v := .string ⟨#[120]⟩) hR3' rfl
  have hA3 := hA.setRow (k := W1.heap.size) (.inl hc.size) (sess1 (.slice a n c))
  generalize hW : W1.alloc (.cells zeroSess 36) = W2 at *
  unfold zeroSess at hW
  go_wp2_with (refine wpList_store_row rfl 36 (.tmp 1) (.tmp 5) rfl W1.heap.size (sess1 (.slice a n c)) zeroSess 36 rfl rfl hR2 Tryz.size36 rfl hz14 ?_)
  go_ret
  exact ⟨rfl, hA3⟩

end Go.Proofs.YtimonhimfioohaaGreatDoor
