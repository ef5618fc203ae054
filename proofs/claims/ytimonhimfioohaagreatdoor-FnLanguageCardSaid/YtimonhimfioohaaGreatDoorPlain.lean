/- impl.plain at the shortest description. -/
import Derived.Test.YtimonhimfioohaaGreatDoorLeast
import Derived.Test.YtimonhimfioohaaGreatDoorReg
namespace Go.Proofs.YtimonhimfioohaaGreatDoor
open Go.RowKit

theorem texts89_nil (w : World) : Calls Tryz.prog 89 #[.pointer none] w fun e w' => e = .returned (.slice none 0 0) ∧ w = w' := by
  go_enter Tryz.func89, Tryz.ntmps89
  go_wp2
  go_ret
  exact ⟨rfl, rfl⟩
theorem texts90_nil (w : World) : Calls Tryz.prog 90 #[.pointer none] w fun e w' => e = .returned (.slice none 0 0) ∧ w = w' := by
  go_enter Tryz.func90, Tryz.ntmps90
  go_wp2
  go_ret
  exact ⟨rfl, rfl⟩
theorem texts91_nil (w : World) : Calls Tryz.prog 91 #[.pointer none] w fun e w' => e = .returned (.slice none 0 0) ∧ w = w' := by
  go_enter Tryz.func91, Tryz.ntmps91
  go_wp2
  go_ret
  exact ⟨rfl, rfl⟩
theorem texts94_nil (w : World) : Calls Tryz.prog 94 #[.pointer none] w fun e w' => e = .returned (.slice none 0 0) ∧ w = w' := by
  go_enter Tryz.func94, Tryz.ntmps94
  go_wp2
  go_ret
  exact ⟨rfl, rfl⟩
theorem urls_nil (w : World) : Calls Tryz.prog 78 #[.pointer none] w fun e w' => e = .returned (.slice none 0 0) ∧ w = w' := by
  go_enter Tryz.func78, Tryz.ntmps78
  go_wp2
  go_ret
  exact ⟨rfl, rfl⟩
theorem connections_nil (w : World) : Calls Tryz.prog 92 #[.pointer none] w fun e w' => e = .returned (.slice none 0 0) ∧ w = w' := by
  go_enter Tryz.func92, Tryz.ntmps92
  go_wp2
  go_ret
  exact ⟨rfl, rfl⟩
theorem bandwidthsOf_nil (w : World) : Calls Tryz.prog 93 #[.slice none 0 0] w fun e w' => e = .returned (.slice none 0 0) ∧ w = w' := by
  go_enter Tryz.func93, Tryz.ntmps93
  go_wp2
  refine wp_loop_rounds 1 ?_
  rw [rounds_succ]
  go_wp2
  go_ret
  exact ⟨rfl, rfl⟩
theorem attributesOf_nil (w : World) : Calls Tryz.prog 95 #[.slice none 0 0] w fun e w' => e = .returned (.slice none 0 0) ∧ w = w' := by
  go_enter Tryz.func95, Tryz.ntmps95
  go_wp2
  refine wp_loop_rounds 1 ?_
  rw [rounds_succ]
  go_wp2
  go_ret
  exact ⟨rfl, rfl⟩

theorem eval_getD (A : Act) (t : Nat) : A.eval (.tmp t) = A.tmps[t]?.getD undef := by
  simp [Act.eval, Array.getD_eq_getD_getElem?]

/-- What a session's block holds at first. -/
def zeroSess : Array Value := #[.int .i64 0, .string ⟨#[]⟩, .int .u64 0, .int .u64 0, .string ⟨#[]⟩, .string ⟨#[]⟩, .string ⟨#[]⟩, .string ⟨#[]⟩, .slice none 0 0, .slice none 0 0, .slice none 0 0, .slice none 0 0, .slice none 0 0, .slice none 0 0, .slice none 0 0, .slice none 0 0, .slice none 0 0, .slice none 0 0, .slice none 0 0]
def plainC (D N : Nat) : Nat → Value := fun d => match d with
  | 18 => .pointer (some ⟨D, 0, none⟩)
  | 19 => .pointer (some ⟨D, 0, none⟩)
  | 20 => .pointer (some ⟨D, 0, none⟩)
  | 21 => .int .i64 0
  | 22 => .pointer (some ⟨N, 0, none⟩)
  | 23 => .string ⟨#[45]⟩
  | 24 => .pointer (some ⟨N, 1, none⟩)
  | 25 => .int .u64 1
  | 26 => .pointer (some ⟨N, 2, none⟩)
  | 27 => .int .u64 1
  | 28 => .pointer (some ⟨N, 3, none⟩)
  | 29 => .string ⟨#[73, 78]⟩
  | 30 => .pointer (some ⟨N, 4, none⟩)
  | 31 => .string ⟨#[73, 80, 52]⟩
  | 32 => .pointer (some ⟨N, 5, none⟩)
  | 33 => .string ⟨#[97]⟩
  | 34 => .agg #[.string ⟨#[45]⟩, .int .u64 1, .int .u64 1, .string ⟨#[73, 78]⟩, .string ⟨#[73, 80, 52]⟩, .string ⟨#[97]⟩]
  | 35 => .pointer (some ⟨D, 0, none⟩)
  | 36 => .pointer (some ⟨D, 0, none⟩)
  | 37 => .pointer (some ⟨D, 7, none⟩)
  | 38 => .string ⟨#[120]⟩
  | 39 => .pointer (some ⟨D, 0, none⟩)
  | 40 => .pointer (some ⟨D, 0, none⟩)
  | 41 => .pointer (some ⟨D, 8, none⟩)
  | 42 => .pointer none
  | 43 => .slice none 0 0
  | 44 => .pointer (some ⟨D, 0, none⟩)
  | 45 => .pointer (some ⟨D, 0, none⟩)
  | 46 => .pointer (some ⟨D, 9, none⟩)
  | 47 => .pointer none
  | 48 => .slice none 0 0
  | 49 => .pointer (some ⟨D, 0, none⟩)
  | 50 => .pointer (some ⟨D, 0, none⟩)
  | 51 => .pointer (some ⟨D, 10, none⟩)
  | 52 => .pointer none
  | 53 => .slice none 0 0
  | 54 => .pointer (some ⟨D, 0, none⟩)
  | 55 => .pointer (some ⟨D, 0, none⟩)
  | 56 => .pointer (some ⟨D, 11, none⟩)
  | 57 => .pointer none
  | 58 => .slice none 0 0
  | 59 => .pointer (some ⟨D, 0, none⟩)
  | 60 => .pointer (some ⟨D, 0, none⟩)
  | 61 => .pointer (some ⟨D, 12, none⟩)
  | 62 => .pointer none
  | 63 => .slice none 0 0
  | 64 => .pointer (some ⟨D, 0, none⟩)
  | 65 => .pointer (some ⟨D, 0, none⟩)
  | 66 => .pointer (some ⟨D, 13, none⟩)
  | 67 => .slice none 0 0
  | 68 => .slice none 0 0
  | 69 => .pointer (some ⟨D, 0, none⟩)
  | 70 => .pointer (some ⟨D, 0, none⟩)
  | 71 => .pointer (some ⟨D, 16, none⟩)
  | 72 => .pointer none
  | 73 => .slice none 0 0
  | 74 => .pointer (some ⟨D, 0, none⟩)
  | 75 => .pointer (some ⟨D, 0, none⟩)
  | 76 => .pointer (some ⟨D, 17, none⟩)
  | 77 => .slice none 0 0
  | 78 => .slice none 0 0
  | 79 => .agg #[.int .i64 0, .string ⟨#[45]⟩, .int .u64 1, .int .u64 1, .string ⟨#[73, 78]⟩, .string ⟨#[73, 80, 52]⟩, .string ⟨#[97]⟩, .string ⟨#[120]⟩, .slice none 0 0, .slice none 0 0, .slice none 0 0, .slice none 0 0, .slice none 0 0, .slice none 0 0, .slice none 0 0, .slice none 0 0, .slice none 0 0, .slice none 0 0, .slice none 0 0]
  | _ => undef

def plainW : List Nat := [18, 19, 20, 21, 22, 23, 24, 25, 26, 27, 28, 29, 30, 31, 32, 33, 34, 35, 36, 37, 38, 39, 40, 41, 42, 43, 44, 45, 46, 47, 48, 49, 50, 51, 52, 53, 54, 55, 56, 57, 58, 59, 60, 61, 62, 63, 64, 65, 66, 67, 68, 69, 70, 71, 72, 73, 74, 75, 76, 77, 78, 79, 4]

set_option maxRecDepth 100000 in
theorem plain_frame (D N R : Nat) (u : Nat → Value) : frameOf ⟨#[.pointer (some ⟨D, 0, none⟩), undef, .pointer (some ⟨R, 0, none⟩), .pointer (some ⟨N, 0, none⟩), undef, undef, undef, undef, undef, undef, undef, undef, undef, undef, .pointer (some ⟨D, 0, none⟩), .pointer (some ⟨D, 0, none⟩), .pointer (some ⟨D, 1, none⟩), .agg #[.string ⟨#[45]⟩, .int .u64 1, .int .u64 1, .string ⟨#[73, 78]⟩, .string ⟨#[73, 80, 52]⟩, .string ⟨#[97]⟩], undef, undef, undef, undef, undef, undef, undef, undef, undef, undef, undef, undef, undef, undef, undef, undef, undef, undef, undef, undef, undef, undef, undef, undef, undef, undef, undef, undef, undef, undef, undef, undef, undef, undef, undef, undef, undef, undef, undef, undef, undef, undef, undef, undef, undef, undef, undef, undef, undef, undef, undef, undef, undef, undef, undef, undef, undef, undef, undef, undef, undef, undef, undef, undef, undef, undef, undef, undef, undef, undef, undef, undef, undef, undef, undef, undef, undef, undef, undef, undef, undef, undef, undef, undef, undef, undef, undef, undef, undef, undef, undef, undef, undef, undef, undef, undef, undef, undef, undef, undef, undef, undef, undef, undef, undef, undef, undef, undef, undef, undef, undef, undef, undef, undef, undef, undef, undef, undef, undef, undef, undef, undef, undef, undef, undef, undef, undef, undef, undef, undef, undef, undef, undef, undef, undef, undef, undef, undef, undef, undef, undef, undef, undef, undef], []⟩ plainW u = ⟨#[.pointer (some ⟨D, 0, none⟩), undef, .pointer (some ⟨R, 0, none⟩), .pointer (some ⟨N, 0, none⟩), u 4, undef, undef, undef, undef, undef, undef, undef, undef, undef, .pointer (some ⟨D, 0, none⟩), .pointer (some ⟨D, 0, none⟩), .pointer (some ⟨D, 1, none⟩), .agg #[.string ⟨#[45]⟩, .int .u64 1, .int .u64 1, .string ⟨#[73, 78]⟩, .string ⟨#[73, 80, 52]⟩, .string ⟨#[97]⟩], u 18, u 19, u 20, u 21, u 22, u 23, u 24, u 25, u 26, u 27, u 28, u 29, u 30, u 31, u 32, u 33, u 34, u 35, u 36, u 37, u 38, u 39, u 40, u 41, u 42, u 43, u 44, u 45, u 46, u 47, u 48, u 49, u 50, u 51, u 52, u 53, u 54, u 55, u 56, u 57, u 58, u 59, u 60, u 61, u 62, u 63, u 64, u 65, u 66, u 67, u 68, u 69, u 70, u 71, u 72, u 73, u 74, u 75, u 76, u 77, u 78, u 79, undef, undef, undef, undef, undef, undef, undef, undef, undef, undef, undef, undef, undef, undef, undef, undef, undef, undef, undef, undef, undef, undef, undef, undef, undef, undef, undef, undef, undef, undef, undef, undef, undef, undef, undef, undef, undef, undef, undef, undef, undef, undef, undef, undef, undef, undef, undef, undef, undef, undef, undef, undef, undef, undef, undef, undef, undef, undef, undef, undef, undef, undef, undef, undef, undef, undef, undef, undef, undef, undef, undef, undef, undef, undef, undef, undef, undef, undef, undef, undef, undef, undef], []⟩ := by kernel_rfl

theorem wp_store_row {P : Program} {o : Oper} {a : Act} {w : World} {K : Act → World → Prop} {Q : Exit → Act → World → Prop} (ty : TypeId) (x y : Operand) (ho : o.op = .store ty x y)
    (g : Nat) (cells old : Array Value) (t : TypeId) (hx : a.eval x = .pointer (some ⟨g, 0, none⟩)) (hy : a.eval y = .agg cells) (hg : w.heap[g]? = some (.cells old t (0, 0)))
    (hi : (P.info? ty).map (·.size) = some cells.size) (hs : old.size = cells.size) (h1 : cells.all (·.oneCell') = true)
    (h : K (a.put o.dst undef) (w.setRow g cells)) : o.wp P a w K Q := by
  unfold Oper.wp execOp
  simp only [ho, hx, hy, Instr.storeAt, Instr.sureAddr, Sem.run_bind, Sem.run_pure, Result.andThen_ok, run_storeVar_row w g t ty old cells hg hi hs h1]
  exact h
theorem wpList_store_row {P : Program} {ops : Array Oper} {rest : List Oper} {o : Oper} {a : Act} {w : World} {Q : Exit → Act → World → Prop} (hgd : o.guard = none) (ty : TypeId) (x y : Operand) (ho : o.op = .store ty x y)
    (g : Nat) (cells old : Array Value) (t : TypeId) (hx : a.eval x = .pointer (some ⟨g, 0, none⟩)) (hy : a.eval y = .agg cells) (hg : w.heap[g]? = some (.cells old t (0, 0)))
    (hi : (P.info? ty).map (·.size) = some cells.size) (hs : old.size = cells.size) (h1 : cells.all (·.oneCell') = true)
    (h : wpList P ops Q rest (a.put o.dst undef) (w.setRow g cells)) : wpList P ops Q (o :: rest) a w :=
  wpList_plain hgd fun _ hK => wp_store_row ty x y ho g cells old t hx hy hg hi hs h1 (hK _ _ h)
theorem Ch.setRow {S : Nat → Prop} {a w : World} (h : Ch S a w) {k : Nat} (hk : a.heap.size ≤ k ∨ S k) (cs : Array Value) : Ch S a (w.setRow k cs) :=
  ⟨h.os, h.tape, h.output, by simpa [World.setRow] using h.size, fun i hi hs => (setRow_other w k i cs (fun e => by
    rcases hk with h1 | h1
    · omega
    · exact hs (e ▸ h1))).trans (h.block i hi hs)⟩
theorem Tryz.size36 : (Tryz.prog.info? 36).map (·.size) = some 19 := by kernel_rfl
theorem Tryz.info196 : (Tryz.prog.info? 196).map (fun i => (i.zero, i.size, i.bytes)) = some (some (.agg #[.int .u64 0, .int .u64 0, .slice none 0 0]), 3, 40) := by kernel_rfl

def sess1 (v : Value) : Array Value := #[.int .i64 0, .string ⟨#[45]⟩, .int .u64 1, .int .u64 1, .string ⟨#[73, 78]⟩, .string ⟨#[73, 80, 52]⟩, .string ⟨#[97]⟩, .string ⟨#[120]⟩, .slice none 0 0, .slice none 0 0, .slice none 0 0, .slice none 0 0, .slice none 0 0, .slice none 0 0, v, .slice none 0 0, .slice none 0 0, .slice none 0 0, .slice none 0 0]

def plainT (D N : Nat) (d : Nat) (v : Value) (W : World) : Prop :=
  (d = 4 → ∃ k, v = .pointer (some ⟨k, 0, none⟩) ∧ N < k ∧ W.heap[k]? = some (.cells zeroSess 36 (0, 0))) ∧ (d ≠ 4 → v = plainC D N d)

theorem plainT_stays {D N d : Nat} {v : Value} {w w' : World} (h : plainT D N d v w) (hR : Ch (fun _ => False) w w') : plainT D N d v w' := by
  refine ⟨fun hd => ?_, h.2⟩
  obtain ⟨k, h1, h2, h3⟩ := h.1 hd
  exact ⟨k, h1, h2, (hR.block k (blk_lt h3) id).trans h3⟩

set_option maxRecDepth 100000 in
set_option maxHeartbeats 4000000 in
theorem plain_least {D : Nat} {w w0 : World} (h : LeastGood D w0 w) (_hD : D < w0.heap.size) :
    Calls Tryz.prog 47 #[.pointer (some ⟨D, 0, none⟩)] w fun e w' => ∃ times, e = .returned (.agg #[.int .i64 0, .string ⟨#[45]⟩, .int .u64 1, .int .u64 1, .string ⟨#[73, 78]⟩, .string ⟨#[73, 80, 52]⟩, .string ⟨#[97]⟩, .string ⟨#[120]⟩, .slice none 0 0, .slice none 0 0, .slice none 0 0, .slice none 0 0, .slice none 0 0, .slice none 0 0, times, .slice none 0 0, .slice none 0 0, .slice none 0 0, .slice none 0 0]) ∧ (∃ a n c, times = .slice a n c) ∧ Ch (fun _ => False) w w' := by
  obtain ⟨t, hd, ht, hch⟩ := h
  have c0 : w.cell? ⟨D, 0, none⟩ = some (.int .i64 0) := blk_cell hd rfl
  have c1 : w.cell? ⟨D, 1, none⟩ = some (.string ⟨#[45]⟩) := blk_cell hd rfl
  have c2 : w.cell? ⟨D, 2, none⟩ = some (.int .u64 1) := blk_cell hd rfl
  have c3 : w.cell? ⟨D, 3, none⟩ = some (.int .u64 1) := blk_cell hd rfl
  have c4 : w.cell? ⟨D, 4, none⟩ = some (.string ⟨#[73, 78]⟩) := blk_cell hd rfl
  have c5 : w.cell? ⟨D, 5, none⟩ = some (.string ⟨#[73, 80, 52]⟩) := blk_cell hd rfl
  have c6 : w.cell? ⟨D, 6, none⟩ = some (.string ⟨#[97]⟩) := blk_cell hd rfl
  have HD := Lib.hid hd
  have HT := Lib.hid ht
  have HC := Lib.hid hch
  have hDw : D < w.heap.size := blk_lt hd
  have hDne : ¬ (w.heap.size = D) := by omega
  clear hd ht hch
  go_enter Tryz.func47, Tryz.ntmps47
  go_upto_region 2 with fail
  have hO1 := heap_alloc_new (w.alloc (.cells zeroSess 36)) (.cells #[.string ⟨#[45]⟩, .int .u64 1, .int .u64 1, .string ⟨#[73, 78]⟩, .string ⟨#[73, 80, 52]⟩, .string ⟨#[97]⟩] 94)
  rw [show (w.alloc (.cells zeroSess 36)).heap.size = w.heap.size + 1 from by simp] at hO1
  have hc1 : Ch (fun _ => False) w ((w.alloc (.cells zeroSess 36)).alloc (.cells #[.string ⟨#[45]⟩, .int .u64 1, .int .u64 1, .string ⟨#[73, 78]⟩, .string ⟨#[73, 80, 52]⟩, .string ⟨#[97]⟩] 94)) :=
    (Ch.grown (World.grownBy_alloc _ _ none) (by simp)).trans (Ch.grown (World.grownBy_alloc _ _ none) (by simp))
  have hR1 : ((w.alloc (.cells zeroSess 36)).alloc (.cells #[.string ⟨#[45]⟩, .int .u64 1, .int .u64 1, .string ⟨#[73, 78]⟩, .string ⟨#[73, 80, 52]⟩, .string ⟨#[97]⟩] 94)).heap[w.heap.size]? = some (.cells zeroSess 36 (0, 0)) :=
    (Below.heap_alloc _ _ _ (by simp)).trans (heap_alloc_new w _)
  have hs1 : ((w.alloc (.cells zeroSess 36)).alloc (.cells #[.string ⟨#[45]⟩, .int .u64 1, .int .u64 1, .string ⟨#[73, 78]⟩, .string ⟨#[73, 80, 52]⟩, .string ⟨#[97]⟩] 94)).heap.size = w.heap.size + 2 := by simp
  have HO1 := Lib.hid hO1
  have HC1 := Lib.hid hc1
  have HR1 := Lib.hid hR1
  have HS1 := Lib.hid hs1
  clear hO1 hc1 hR1 hs1
  unfold zeroSess at HO1 HC1 HR1 HS1
  generalize ((w.alloc (.cells #[.int .i64 0, .string ⟨#[]⟩, .int .u64 0, .int .u64 0, .string ⟨#[]⟩, .string ⟨#[]⟩, .string ⟨#[]⟩, .string ⟨#[]⟩, .slice none 0 0, .slice none 0 0, .slice none 0 0, .slice none 0 0, .slice none 0 0, .slice none 0 0, .slice none 0 0, .slice none 0 0, .slice none 0 0, .slice none 0 0, .slice none 0 0] 36)).alloc (.cells #[.string ⟨#[45]⟩, .int .u64 1, .int .u64 1, .string ⟨#[73, 78]⟩, .string ⟨#[73, 80, 52]⟩, .string ⟨#[97]⟩] 94)) = W1 at *
  refine wp_region_ops (by kernel_rfl) plainW 63 (by kernel_rfl) (by kernel_rfl) (by kernel_rfl) (plainT D (w.heap.size + 1)) (Ch (fun _ => False)) (Ch.refl _) (fun _ _ _ => Ch.trans) (fun _ _ _ _ => plainT_stays) ?_ ?_
  · intro i o hi ho A W' hR hr hx K hK
    have hDb : W'.heap[D]? = some (.cells (desc2 t) 108 (0, 0)) := (hR.block D (by show D < W1.heap.size; rw [HS1.out]; omega) id).trans ((HC1.out.block D hDw id).trans HD.out)
    have hOb : W'.heap[w.heap.size + 1]? = some (.cells #[.string ⟨#[45]⟩, .int .u64 1, .int .u64 1, .string ⟨#[73, 78]⟩, .string ⟨#[73, 80, 52]⟩, .string ⟨#[97]⟩] 94 (0, 0)) := (hR.block _ (by show _ < W1.heap.size; rw [HS1.out]; omega) id).trans HO1.out
    have hsz : w.heap.size + 1 < W'.heap.size := by have := hR.size; have e : W1.drew.heap.size = w.heap.size + 2 := HS1.out; omega
    clear hR c0 c1 c2 c3 c4 c5 c6
    generalize w.heap.size + 1 = N at *
    exact match i, hi, ho with
      | 0, _, ho => by
        obtain rfl := Option.some.inj ho
        have e0 : A.tmps[0]?.getD undef = .pointer (some ⟨D, 0, none⟩) := (eval_getD A 0).symm.trans (hx 0 (by decide))
        unfold Oper.wp execOp
        go_simp
        exact hK _ _ (fun d hd => by cases hd; exact ⟨fun h => absurd h (by decide), fun _ => rfl⟩) (Ch.refl _ _)
      | 1, _, ho => by
        obtain rfl := Option.some.inj ho
        have e18 : A.tmps[18]?.getD undef = .pointer (some ⟨D, 0, none⟩) := (eval_getD A 18).symm.trans ((hr 18 (by decide) (by decide)).2 (by decide))
        unfold Oper.wp execOp
        go_simp
        exact hK _ _ (fun d hd => by cases hd; exact ⟨fun h => absurd h (by decide), fun _ => rfl⟩) (Ch.refl _ _)
      | 2, _, ho => by
        obtain rfl := Option.some.inj ho
        have e19 : A.tmps[19]?.getD undef = .pointer (some ⟨D, 0, none⟩) := (eval_getD A 19).symm.trans ((hr 19 (by decide) (by decide)).2 (by decide))
        unfold Oper.wp execOp
        go_simp
        exact hK _ _ (fun d hd => by cases hd; exact ⟨fun h => absurd h (by decide), fun _ => rfl⟩) (Ch.refl _ _)
      | 3, _, ho => by
        obtain rfl := Option.some.inj ho
        have e20 : A.tmps[20]?.getD undef = .pointer (some ⟨D, 0, none⟩) := (eval_getD A 20).symm.trans ((hr 20 (by decide) (by decide)).2 (by decide))
        have c0 : W'.cell? ⟨D, 0, none⟩ = some (.int .i64 0) := blk_cell hDb rfl
        unfold Oper.wp execOp
        go_simp
        exact hK _ _ (fun d hd => by cases hd; exact ⟨fun h => absurd h (by decide), fun _ => rfl⟩) (Ch.refl _ _)
      | 4, _, ho => by
        obtain rfl := Option.some.inj ho
        have e3 : A.tmps[3]?.getD undef = .pointer (some ⟨N, 0, none⟩) := (eval_getD A 3).symm.trans (hx 3 (by decide))
        unfold Oper.wp execOp
        go_simp
        exact hK _ _ (fun d hd => by cases hd; exact ⟨fun h => absurd h (by decide), fun _ => rfl⟩) (Ch.refl _ _)
      | 5, _, ho => by
        obtain rfl := Option.some.inj ho
        have e22 : A.tmps[22]?.getD undef = .pointer (some ⟨N, 0, none⟩) := (eval_getD A 22).symm.trans ((hr 22 (by decide) (by decide)).2 (by decide))
        have c0 : W'.cell? ⟨N, 0, none⟩ = some (.string ⟨#[45]⟩) := blk_cell hOb rfl
        unfold Oper.wp execOp
        go_simp
        exact hK _ _ (fun d hd => by cases hd; exact ⟨fun h => absurd h (by decide), fun _ => rfl⟩) (Ch.refl _ _)
      | 6, _, ho => by
        obtain rfl := Option.some.inj ho
        have e3 : A.tmps[3]?.getD undef = .pointer (some ⟨N, 0, none⟩) := (eval_getD A 3).symm.trans (hx 3 (by decide))
        unfold Oper.wp execOp
        go_simp
        exact hK _ _ (fun d hd => by cases hd; exact ⟨fun h => absurd h (by decide), fun _ => rfl⟩) (Ch.refl _ _)
      | 7, _, ho => by
        obtain rfl := Option.some.inj ho
        have e24 : A.tmps[24]?.getD undef = .pointer (some ⟨N, 1, none⟩) := (eval_getD A 24).symm.trans ((hr 24 (by decide) (by decide)).2 (by decide))
        have c0 : W'.cell? ⟨N, 1, none⟩ = some (.int .u64 1) := blk_cell hOb rfl
        unfold Oper.wp execOp
        go_simp
        exact hK _ _ (fun d hd => by cases hd; exact ⟨fun h => absurd h (by decide), fun _ => rfl⟩) (Ch.refl _ _)
      | 8, _, ho => by
        obtain rfl := Option.some.inj ho
        have e3 : A.tmps[3]?.getD undef = .pointer (some ⟨N, 0, none⟩) := (eval_getD A 3).symm.trans (hx 3 (by decide))
        unfold Oper.wp execOp
        go_simp
        exact hK _ _ (fun d hd => by cases hd; exact ⟨fun h => absurd h (by decide), fun _ => rfl⟩) (Ch.refl _ _)
      | 9, _, ho => by
        obtain rfl := Option.some.inj ho
        have e26 : A.tmps[26]?.getD undef = .pointer (some ⟨N, 2, none⟩) := (eval_getD A 26).symm.trans ((hr 26 (by decide) (by decide)).2 (by decide))
        have c0 : W'.cell? ⟨N, 2, none⟩ = some (.int .u64 1) := blk_cell hOb rfl
        unfold Oper.wp execOp
        go_simp
        exact hK _ _ (fun d hd => by cases hd; exact ⟨fun h => absurd h (by decide), fun _ => rfl⟩) (Ch.refl _ _)
      | 10, _, ho => by
        obtain rfl := Option.some.inj ho
        have e3 : A.tmps[3]?.getD undef = .pointer (some ⟨N, 0, none⟩) := (eval_getD A 3).symm.trans (hx 3 (by decide))
        unfold Oper.wp execOp
        go_simp
        exact hK _ _ (fun d hd => by cases hd; exact ⟨fun h => absurd h (by decide), fun _ => rfl⟩) (Ch.refl _ _)
      | 11, _, ho => by
        obtain rfl := Option.some.inj ho
        have e28 : A.tmps[28]?.getD undef = .pointer (some ⟨N, 3, none⟩) := (eval_getD A 28).symm.trans ((hr 28 (by decide) (by decide)).2 (by decide))
        have c0 : W'.cell? ⟨N, 3, none⟩ = some (.string ⟨#[73, 78]⟩) := blk_cell hOb rfl
        unfold Oper.wp execOp
        go_simp
        exact hK _ _ (fun d hd => by cases hd; exact ⟨fun h => absurd h (by decide), fun _ => rfl⟩) (Ch.refl _ _)
      | 12, _, ho => by
        obtain rfl := Option.some.inj ho
        have e3 : A.tmps[3]?.getD undef = .pointer (some ⟨N, 0, none⟩) := (eval_getD A 3).symm.trans (hx 3 (by decide))
        unfold Oper.wp execOp
        go_simp
        exact hK _ _ (fun d hd => by cases hd; exact ⟨fun h => absurd h (by decide), fun _ => rfl⟩) (Ch.refl _ _)
      | 13, _, ho => by
        obtain rfl := Option.some.inj ho
        have e30 : A.tmps[30]?.getD undef = .pointer (some ⟨N, 4, none⟩) := (eval_getD A 30).symm.trans ((hr 30 (by decide) (by decide)).2 (by decide))
        have c0 : W'.cell? ⟨N, 4, none⟩ = some (.string ⟨#[73, 80, 52]⟩) := blk_cell hOb rfl
        unfold Oper.wp execOp
        go_simp
        exact hK _ _ (fun d hd => by cases hd; exact ⟨fun h => absurd h (by decide), fun _ => rfl⟩) (Ch.refl _ _)
      | 14, _, ho => by
        obtain rfl := Option.some.inj ho
        have e3 : A.tmps[3]?.getD undef = .pointer (some ⟨N, 0, none⟩) := (eval_getD A 3).symm.trans (hx 3 (by decide))
        unfold Oper.wp execOp
        go_simp
        exact hK _ _ (fun d hd => by cases hd; exact ⟨fun h => absurd h (by decide), fun _ => rfl⟩) (Ch.refl _ _)
      | 15, _, ho => by
        obtain rfl := Option.some.inj ho
        have e32 : A.tmps[32]?.getD undef = .pointer (some ⟨N, 5, none⟩) := (eval_getD A 32).symm.trans ((hr 32 (by decide) (by decide)).2 (by decide))
        have c0 : W'.cell? ⟨N, 5, none⟩ = some (.string ⟨#[97]⟩) := blk_cell hOb rfl
        unfold Oper.wp execOp
        go_simp
        exact hK _ _ (fun d hd => by cases hd; exact ⟨fun h => absurd h (by decide), fun _ => rfl⟩) (Ch.refl _ _)
      | 16, _, ho => by
        obtain rfl := Option.some.inj ho
        have e23 : A.tmps[23]?.getD undef = .string ⟨#[45]⟩ := (eval_getD A 23).symm.trans ((hr 23 (by decide) (by decide)).2 (by decide))
        have e25 : A.tmps[25]?.getD undef = .int .u64 1 := (eval_getD A 25).symm.trans ((hr 25 (by decide) (by decide)).2 (by decide))
        have e27 : A.tmps[27]?.getD undef = .int .u64 1 := (eval_getD A 27).symm.trans ((hr 27 (by decide) (by decide)).2 (by decide))
        have e29 : A.tmps[29]?.getD undef = .string ⟨#[73, 78]⟩ := (eval_getD A 29).symm.trans ((hr 29 (by decide) (by decide)).2 (by decide))
        have e31 : A.tmps[31]?.getD undef = .string ⟨#[73, 80, 52]⟩ := (eval_getD A 31).symm.trans ((hr 31 (by decide) (by decide)).2 (by decide))
        have e33 : A.tmps[33]?.getD undef = .string ⟨#[97]⟩ := (eval_getD A 33).symm.trans ((hr 33 (by decide) (by decide)).2 (by decide))
        unfold Oper.wp execOp
        go_simp
        exact hK _ _ (fun d hd => by cases hd; exact ⟨fun h => absurd h (by decide), fun _ => rfl⟩) (Ch.refl _ _)
      | 17, _, ho => by
        obtain rfl := Option.some.inj ho
        have e0 : A.tmps[0]?.getD undef = .pointer (some ⟨D, 0, none⟩) := (eval_getD A 0).symm.trans (hx 0 (by decide))
        unfold Oper.wp execOp
        go_simp
        exact hK _ _ (fun d hd => by cases hd; exact ⟨fun h => absurd h (by decide), fun _ => rfl⟩) (Ch.refl _ _)
      | 18, _, ho => by
        obtain rfl := Option.some.inj ho
        have e35 : A.tmps[35]?.getD undef = .pointer (some ⟨D, 0, none⟩) := (eval_getD A 35).symm.trans ((hr 35 (by decide) (by decide)).2 (by decide))
        unfold Oper.wp execOp
        go_simp
        exact hK _ _ (fun d hd => by cases hd; exact ⟨fun h => absurd h (by decide), fun _ => rfl⟩) (Ch.refl _ _)
      | 19, _, ho => by
        obtain rfl := Option.some.inj ho
        have e36 : A.tmps[36]?.getD undef = .pointer (some ⟨D, 0, none⟩) := (eval_getD A 36).symm.trans ((hr 36 (by decide) (by decide)).2 (by decide))
        unfold Oper.wp execOp
        go_simp
        exact hK _ _ (fun d hd => by cases hd; exact ⟨fun h => absurd h (by decide), fun _ => rfl⟩) (Ch.refl _ _)
      | 20, _, ho => by
        obtain rfl := Option.some.inj ho
        have e37 : A.tmps[37]?.getD undef = .pointer (some ⟨D, 7, none⟩) := (eval_getD A 37).symm.trans ((hr 37 (by decide) (by decide)).2 (by decide))
        have c0 : W'.cell? ⟨D, 7, none⟩ = some (.string ⟨#[120]⟩) := blk_cell hDb rfl
        unfold Oper.wp execOp
        go_simp
        exact hK _ _ (fun d hd => by cases hd; exact ⟨fun h => absurd h (by decide), fun _ => rfl⟩) (Ch.refl _ _)
      | 21, _, ho => by
        obtain rfl := Option.some.inj ho
        have e0 : A.tmps[0]?.getD undef = .pointer (some ⟨D, 0, none⟩) := (eval_getD A 0).symm.trans (hx 0 (by decide))
        unfold Oper.wp execOp
        go_simp
        exact hK _ _ (fun d hd => by cases hd; exact ⟨fun h => absurd h (by decide), fun _ => rfl⟩) (Ch.refl _ _)
      | 22, _, ho => by
        obtain rfl := Option.some.inj ho
        have e39 : A.tmps[39]?.getD undef = .pointer (some ⟨D, 0, none⟩) := (eval_getD A 39).symm.trans ((hr 39 (by decide) (by decide)).2 (by decide))
        unfold Oper.wp execOp
        go_simp
        exact hK _ _ (fun d hd => by cases hd; exact ⟨fun h => absurd h (by decide), fun _ => rfl⟩) (Ch.refl _ _)
      | 23, _, ho => by
        obtain rfl := Option.some.inj ho
        have e40 : A.tmps[40]?.getD undef = .pointer (some ⟨D, 0, none⟩) := (eval_getD A 40).symm.trans ((hr 40 (by decide) (by decide)).2 (by decide))
        unfold Oper.wp execOp
        go_simp
        exact hK _ _ (fun d hd => by cases hd; exact ⟨fun h => absurd h (by decide), fun _ => rfl⟩) (Ch.refl _ _)
      | 24, _, ho => by
        obtain rfl := Option.some.inj ho
        have e41 : A.tmps[41]?.getD undef = .pointer (some ⟨D, 8, none⟩) := (eval_getD A 41).symm.trans ((hr 41 (by decide) (by decide)).2 (by decide))
        have c0 : W'.cell? ⟨D, 8, none⟩ = some (.pointer none) := blk_cell hDb rfl
        unfold Oper.wp execOp
        go_simp
        exact hK _ _ (fun d hd => by cases hd; exact ⟨fun h => absurd h (by decide), fun _ => rfl⟩) (Ch.refl _ _)
      | 25, _, ho => by
        obtain rfl := Option.some.inj ho
        have e42 : A.tmps[42]?.getD undef = .pointer none := (eval_getD A 42).symm.trans ((hr 42 (by decide) (by decide)).2 (by decide))
        unfold Oper.wp execOp
        go_simp
        (go_at_call 89; refine (texts89_nil _).mono ?_; rintro e W2 ⟨rfl, rfl⟩)
        exact hK _ _ (fun d hd => by cases hd; exact ⟨fun h => absurd h (by decide), fun _ => rfl⟩) (Ch.refl _ _)
      | 26, _, ho => by
        obtain rfl := Option.some.inj ho
        have e0 : A.tmps[0]?.getD undef = .pointer (some ⟨D, 0, none⟩) := (eval_getD A 0).symm.trans (hx 0 (by decide))
        unfold Oper.wp execOp
        go_simp
        exact hK _ _ (fun d hd => by cases hd; exact ⟨fun h => absurd h (by decide), fun _ => rfl⟩) (Ch.refl _ _)
      | 27, _, ho => by
        obtain rfl := Option.some.inj ho
        have e44 : A.tmps[44]?.getD undef = .pointer (some ⟨D, 0, none⟩) := (eval_getD A 44).symm.trans ((hr 44 (by decide) (by decide)).2 (by decide))
        unfold Oper.wp execOp
        go_simp
        exact hK _ _ (fun d hd => by cases hd; exact ⟨fun h => absurd h (by decide), fun _ => rfl⟩) (Ch.refl _ _)
      | 28, _, ho => by
        obtain rfl := Option.some.inj ho
        have e45 : A.tmps[45]?.getD undef = .pointer (some ⟨D, 0, none⟩) := (eval_getD A 45).symm.trans ((hr 45 (by decide) (by decide)).2 (by decide))
        unfold Oper.wp execOp
        go_simp
        exact hK _ _ (fun d hd => by cases hd; exact ⟨fun h => absurd h (by decide), fun _ => rfl⟩) (Ch.refl _ _)
      | 29, _, ho => by
        obtain rfl := Option.some.inj ho
        have e46 : A.tmps[46]?.getD undef = .pointer (some ⟨D, 9, none⟩) := (eval_getD A 46).symm.trans ((hr 46 (by decide) (by decide)).2 (by decide))
        have c0 : W'.cell? ⟨D, 9, none⟩ = some (.pointer none) := blk_cell hDb rfl
        unfold Oper.wp execOp
        go_simp
        exact hK _ _ (fun d hd => by cases hd; exact ⟨fun h => absurd h (by decide), fun _ => rfl⟩) (Ch.refl _ _)
      | 30, _, ho => by
        obtain rfl := Option.some.inj ho
        have e47 : A.tmps[47]?.getD undef = .pointer none := (eval_getD A 47).symm.trans ((hr 47 (by decide) (by decide)).2 (by decide))
        unfold Oper.wp execOp
        go_simp
        (go_at_call 78; refine (urls_nil _).mono ?_; rintro e W2 ⟨rfl, rfl⟩)
        exact hK _ _ (fun d hd => by cases hd; exact ⟨fun h => absurd h (by decide), fun _ => rfl⟩) (Ch.refl _ _)
      | 31, _, ho => by
        obtain rfl := Option.some.inj ho
        have e0 : A.tmps[0]?.getD undef = .pointer (some ⟨D, 0, none⟩) := (eval_getD A 0).symm.trans (hx 0 (by decide))
        unfold Oper.wp execOp
        go_simp
        exact hK _ _ (fun d hd => by cases hd; exact ⟨fun h => absurd h (by decide), fun _ => rfl⟩) (Ch.refl _ _)
      | 32, _, ho => by
        obtain rfl := Option.some.inj ho
        have e49 : A.tmps[49]?.getD undef = .pointer (some ⟨D, 0, none⟩) := (eval_getD A 49).symm.trans ((hr 49 (by decide) (by decide)).2 (by decide))
        unfold Oper.wp execOp
        go_simp
        exact hK _ _ (fun d hd => by cases hd; exact ⟨fun h => absurd h (by decide), fun _ => rfl⟩) (Ch.refl _ _)
      | 33, _, ho => by
        obtain rfl := Option.some.inj ho
        have e50 : A.tmps[50]?.getD undef = .pointer (some ⟨D, 0, none⟩) := (eval_getD A 50).symm.trans ((hr 50 (by decide) (by decide)).2 (by decide))
        unfold Oper.wp execOp
        go_simp
        exact hK _ _ (fun d hd => by cases hd; exact ⟨fun h => absurd h (by decide), fun _ => rfl⟩) (Ch.refl _ _)
      | 34, _, ho => by
        obtain rfl := Option.some.inj ho
        have e51 : A.tmps[51]?.getD undef = .pointer (some ⟨D, 10, none⟩) := (eval_getD A 51).symm.trans ((hr 51 (by decide) (by decide)).2 (by decide))
        have c0 : W'.cell? ⟨D, 10, none⟩ = some (.pointer none) := blk_cell hDb rfl
        unfold Oper.wp execOp
        go_simp
        exact hK _ _ (fun d hd => by cases hd; exact ⟨fun h => absurd h (by decide), fun _ => rfl⟩) (Ch.refl _ _)
      | 35, _, ho => by
        obtain rfl := Option.some.inj ho
        have e52 : A.tmps[52]?.getD undef = .pointer none := (eval_getD A 52).symm.trans ((hr 52 (by decide) (by decide)).2 (by decide))
        unfold Oper.wp execOp
        go_simp
        (go_at_call 90; refine (texts90_nil _).mono ?_; rintro e W2 ⟨rfl, rfl⟩)
        exact hK _ _ (fun d hd => by cases hd; exact ⟨fun h => absurd h (by decide), fun _ => rfl⟩) (Ch.refl _ _)
      | 36, _, ho => by
        obtain rfl := Option.some.inj ho
        have e0 : A.tmps[0]?.getD undef = .pointer (some ⟨D, 0, none⟩) := (eval_getD A 0).symm.trans (hx 0 (by decide))
        unfold Oper.wp execOp
        go_simp
        exact hK _ _ (fun d hd => by cases hd; exact ⟨fun h => absurd h (by decide), fun _ => rfl⟩) (Ch.refl _ _)
      | 37, _, ho => by
        obtain rfl := Option.some.inj ho
        have e54 : A.tmps[54]?.getD undef = .pointer (some ⟨D, 0, none⟩) := (eval_getD A 54).symm.trans ((hr 54 (by decide) (by decide)).2 (by decide))
        unfold Oper.wp execOp
        go_simp
        exact hK _ _ (fun d hd => by cases hd; exact ⟨fun h => absurd h (by decide), fun _ => rfl⟩) (Ch.refl _ _)
      | 38, _, ho => by
        obtain rfl := Option.some.inj ho
        have e55 : A.tmps[55]?.getD undef = .pointer (some ⟨D, 0, none⟩) := (eval_getD A 55).symm.trans ((hr 55 (by decide) (by decide)).2 (by decide))
        unfold Oper.wp execOp
        go_simp
        exact hK _ _ (fun d hd => by cases hd; exact ⟨fun h => absurd h (by decide), fun _ => rfl⟩) (Ch.refl _ _)
      | 39, _, ho => by
        obtain rfl := Option.some.inj ho
        have e56 : A.tmps[56]?.getD undef = .pointer (some ⟨D, 11, none⟩) := (eval_getD A 56).symm.trans ((hr 56 (by decide) (by decide)).2 (by decide))
        have c0 : W'.cell? ⟨D, 11, none⟩ = some (.pointer none) := blk_cell hDb rfl
        unfold Oper.wp execOp
        go_simp
        exact hK _ _ (fun d hd => by cases hd; exact ⟨fun h => absurd h (by decide), fun _ => rfl⟩) (Ch.refl _ _)
      | 40, _, ho => by
        obtain rfl := Option.some.inj ho
        have e57 : A.tmps[57]?.getD undef = .pointer none := (eval_getD A 57).symm.trans ((hr 57 (by decide) (by decide)).2 (by decide))
        unfold Oper.wp execOp
        go_simp
        (go_at_call 91; refine (texts91_nil _).mono ?_; rintro e W2 ⟨rfl, rfl⟩)
        exact hK _ _ (fun d hd => by cases hd; exact ⟨fun h => absurd h (by decide), fun _ => rfl⟩) (Ch.refl _ _)
      | 41, _, ho => by
        obtain rfl := Option.some.inj ho
        have e0 : A.tmps[0]?.getD undef = .pointer (some ⟨D, 0, none⟩) := (eval_getD A 0).symm.trans (hx 0 (by decide))
        unfold Oper.wp execOp
        go_simp
        exact hK _ _ (fun d hd => by cases hd; exact ⟨fun h => absurd h (by decide), fun _ => rfl⟩) (Ch.refl _ _)
      | 42, _, ho => by
        obtain rfl := Option.some.inj ho
        have e59 : A.tmps[59]?.getD undef = .pointer (some ⟨D, 0, none⟩) := (eval_getD A 59).symm.trans ((hr 59 (by decide) (by decide)).2 (by decide))
        unfold Oper.wp execOp
        go_simp
        exact hK _ _ (fun d hd => by cases hd; exact ⟨fun h => absurd h (by decide), fun _ => rfl⟩) (Ch.refl _ _)
      | 43, _, ho => by
        obtain rfl := Option.some.inj ho
        have e60 : A.tmps[60]?.getD undef = .pointer (some ⟨D, 0, none⟩) := (eval_getD A 60).symm.trans ((hr 60 (by decide) (by decide)).2 (by decide))
        unfold Oper.wp execOp
        go_simp
        exact hK _ _ (fun d hd => by cases hd; exact ⟨fun h => absurd h (by decide), fun _ => rfl⟩) (Ch.refl _ _)
      | 44, _, ho => by
        obtain rfl := Option.some.inj ho
        have e61 : A.tmps[61]?.getD undef = .pointer (some ⟨D, 12, none⟩) := (eval_getD A 61).symm.trans ((hr 61 (by decide) (by decide)).2 (by decide))
        have c0 : W'.cell? ⟨D, 12, none⟩ = some (.pointer none) := blk_cell hDb rfl
        unfold Oper.wp execOp
        go_simp
        exact hK _ _ (fun d hd => by cases hd; exact ⟨fun h => absurd h (by decide), fun _ => rfl⟩) (Ch.refl _ _)
      | 45, _, ho => by
        obtain rfl := Option.some.inj ho
        have e62 : A.tmps[62]?.getD undef = .pointer none := (eval_getD A 62).symm.trans ((hr 62 (by decide) (by decide)).2 (by decide))
        unfold Oper.wp execOp
        go_simp
        (go_at_call 92; refine (connections_nil _).mono ?_; rintro e W2 ⟨rfl, rfl⟩)
        exact hK _ _ (fun d hd => by cases hd; exact ⟨fun h => absurd h (by decide), fun _ => rfl⟩) (Ch.refl _ _)
      | 46, _, ho => by
        obtain rfl := Option.some.inj ho
        have e0 : A.tmps[0]?.getD undef = .pointer (some ⟨D, 0, none⟩) := (eval_getD A 0).symm.trans (hx 0 (by decide))
        unfold Oper.wp execOp
        go_simp
        exact hK _ _ (fun d hd => by cases hd; exact ⟨fun h => absurd h (by decide), fun _ => rfl⟩) (Ch.refl _ _)
      | 47, _, ho => by
        obtain rfl := Option.some.inj ho
        have e64 : A.tmps[64]?.getD undef = .pointer (some ⟨D, 0, none⟩) := (eval_getD A 64).symm.trans ((hr 64 (by decide) (by decide)).2 (by decide))
        unfold Oper.wp execOp
        go_simp
        exact hK _ _ (fun d hd => by cases hd; exact ⟨fun h => absurd h (by decide), fun _ => rfl⟩) (Ch.refl _ _)
      | 48, _, ho => by
        obtain rfl := Option.some.inj ho
        have e65 : A.tmps[65]?.getD undef = .pointer (some ⟨D, 0, none⟩) := (eval_getD A 65).symm.trans ((hr 65 (by decide) (by decide)).2 (by decide))
        unfold Oper.wp execOp
        go_simp
        exact hK _ _ (fun d hd => by cases hd; exact ⟨fun h => absurd h (by decide), fun _ => rfl⟩) (Ch.refl _ _)
      | 49, _, ho => by
        obtain rfl := Option.some.inj ho
        have e66 : A.tmps[66]?.getD undef = .pointer (some ⟨D, 13, none⟩) := (eval_getD A 66).symm.trans ((hr 66 (by decide) (by decide)).2 (by decide))
        have c0 : W'.cell? ⟨D, 13, none⟩ = some (.slice none 0 0) := blk_cell hDb rfl
        unfold Oper.wp execOp
        go_simp
        exact hK _ _ (fun d hd => by cases hd; exact ⟨fun h => absurd h (by decide), fun _ => rfl⟩) (Ch.refl _ _)
      | 50, _, ho => by
        obtain rfl := Option.some.inj ho
        have e67 : A.tmps[67]?.getD undef = .slice none 0 0 := (eval_getD A 67).symm.trans ((hr 67 (by decide) (by decide)).2 (by decide))
        unfold Oper.wp execOp
        go_simp
        (go_at_call 93; refine (bandwidthsOf_nil _).mono ?_; rintro e W2 ⟨rfl, rfl⟩)
        exact hK _ _ (fun d hd => by cases hd; exact ⟨fun h => absurd h (by decide), fun _ => rfl⟩) (Ch.refl _ _)
      | 51, _, ho => by
        obtain rfl := Option.some.inj ho
        have e0 : A.tmps[0]?.getD undef = .pointer (some ⟨D, 0, none⟩) := (eval_getD A 0).symm.trans (hx 0 (by decide))
        unfold Oper.wp execOp
        go_simp
        exact hK _ _ (fun d hd => by cases hd; exact ⟨fun h => absurd h (by decide), fun _ => rfl⟩) (Ch.refl _ _)
      | 52, _, ho => by
        obtain rfl := Option.some.inj ho
        have e69 : A.tmps[69]?.getD undef = .pointer (some ⟨D, 0, none⟩) := (eval_getD A 69).symm.trans ((hr 69 (by decide) (by decide)).2 (by decide))
        unfold Oper.wp execOp
        go_simp
        exact hK _ _ (fun d hd => by cases hd; exact ⟨fun h => absurd h (by decide), fun _ => rfl⟩) (Ch.refl _ _)
      | 53, _, ho => by
        obtain rfl := Option.some.inj ho
        have e70 : A.tmps[70]?.getD undef = .pointer (some ⟨D, 0, none⟩) := (eval_getD A 70).symm.trans ((hr 70 (by decide) (by decide)).2 (by decide))
        unfold Oper.wp execOp
        go_simp
        exact hK _ _ (fun d hd => by cases hd; exact ⟨fun h => absurd h (by decide), fun _ => rfl⟩) (Ch.refl _ _)
      | 54, _, ho => by
        obtain rfl := Option.some.inj ho
        have e71 : A.tmps[71]?.getD undef = .pointer (some ⟨D, 16, none⟩) := (eval_getD A 71).symm.trans ((hr 71 (by decide) (by decide)).2 (by decide))
        have c0 : W'.cell? ⟨D, 16, none⟩ = some (.pointer none) := blk_cell hDb rfl
        unfold Oper.wp execOp
        go_simp
        exact hK _ _ (fun d hd => by cases hd; exact ⟨fun h => absurd h (by decide), fun _ => rfl⟩) (Ch.refl _ _)
      | 55, _, ho => by
        obtain rfl := Option.some.inj ho
        have e72 : A.tmps[72]?.getD undef = .pointer none := (eval_getD A 72).symm.trans ((hr 72 (by decide) (by decide)).2 (by decide))
        unfold Oper.wp execOp
        go_simp
        (go_at_call 94; refine (texts94_nil _).mono ?_; rintro e W2 ⟨rfl, rfl⟩)
        exact hK _ _ (fun d hd => by cases hd; exact ⟨fun h => absurd h (by decide), fun _ => rfl⟩) (Ch.refl _ _)
      | 56, _, ho => by
        obtain rfl := Option.some.inj ho
        have e0 : A.tmps[0]?.getD undef = .pointer (some ⟨D, 0, none⟩) := (eval_getD A 0).symm.trans (hx 0 (by decide))
        unfold Oper.wp execOp
        go_simp
        exact hK _ _ (fun d hd => by cases hd; exact ⟨fun h => absurd h (by decide), fun _ => rfl⟩) (Ch.refl _ _)
      | 57, _, ho => by
        obtain rfl := Option.some.inj ho
        have e74 : A.tmps[74]?.getD undef = .pointer (some ⟨D, 0, none⟩) := (eval_getD A 74).symm.trans ((hr 74 (by decide) (by decide)).2 (by decide))
        unfold Oper.wp execOp
        go_simp
        exact hK _ _ (fun d hd => by cases hd; exact ⟨fun h => absurd h (by decide), fun _ => rfl⟩) (Ch.refl _ _)
      | 58, _, ho => by
        obtain rfl := Option.some.inj ho
        have e75 : A.tmps[75]?.getD undef = .pointer (some ⟨D, 0, none⟩) := (eval_getD A 75).symm.trans ((hr 75 (by decide) (by decide)).2 (by decide))
        unfold Oper.wp execOp
        go_simp
        exact hK _ _ (fun d hd => by cases hd; exact ⟨fun h => absurd h (by decide), fun _ => rfl⟩) (Ch.refl _ _)
      | 59, _, ho => by
        obtain rfl := Option.some.inj ho
        have e76 : A.tmps[76]?.getD undef = .pointer (some ⟨D, 17, none⟩) := (eval_getD A 76).symm.trans ((hr 76 (by decide) (by decide)).2 (by decide))
        have c0 : W'.cell? ⟨D, 17, none⟩ = some (.slice none 0 0) := blk_cell hDb rfl
        unfold Oper.wp execOp
        go_simp
        exact hK _ _ (fun d hd => by cases hd; exact ⟨fun h => absurd h (by decide), fun _ => rfl⟩) (Ch.refl _ _)
      | 60, _, ho => by
        obtain rfl := Option.some.inj ho
        have e77 : A.tmps[77]?.getD undef = .slice none 0 0 := (eval_getD A 77).symm.trans ((hr 77 (by decide) (by decide)).2 (by decide))
        unfold Oper.wp execOp
        go_simp
        (go_at_call 95; refine (attributesOf_nil _).mono ?_; rintro e W2 ⟨rfl, rfl⟩)
        exact hK _ _ (fun d hd => by cases hd; exact ⟨fun h => absurd h (by decide), fun _ => rfl⟩) (Ch.refl _ _)
      | 61, _, ho => by
        obtain rfl := Option.some.inj ho
        have e21 : A.tmps[21]?.getD undef = .int .i64 0 := (eval_getD A 21).symm.trans ((hr 21 (by decide) (by decide)).2 (by decide))
        have e34 : A.tmps[34]?.getD undef = .agg #[.string ⟨#[45]⟩, .int .u64 1, .int .u64 1, .string ⟨#[73, 78]⟩, .string ⟨#[73, 80, 52]⟩, .string ⟨#[97]⟩] := (eval_getD A 34).symm.trans ((hr 34 (by decide) (by decide)).2 (by decide))
        have e38 : A.tmps[38]?.getD undef = .string ⟨#[120]⟩ := (eval_getD A 38).symm.trans ((hr 38 (by decide) (by decide)).2 (by decide))
        have e43 : A.tmps[43]?.getD undef = .slice none 0 0 := (eval_getD A 43).symm.trans ((hr 43 (by decide) (by decide)).2 (by decide))
        have e48 : A.tmps[48]?.getD undef = .slice none 0 0 := (eval_getD A 48).symm.trans ((hr 48 (by decide) (by decide)).2 (by decide))
        have e53 : A.tmps[53]?.getD undef = .slice none 0 0 := (eval_getD A 53).symm.trans ((hr 53 (by decide) (by decide)).2 (by decide))
        have e58 : A.tmps[58]?.getD undef = .slice none 0 0 := (eval_getD A 58).symm.trans ((hr 58 (by decide) (by decide)).2 (by decide))
        have e63 : A.tmps[63]?.getD undef = .slice none 0 0 := (eval_getD A 63).symm.trans ((hr 63 (by decide) (by decide)).2 (by decide))
        have e68 : A.tmps[68]?.getD undef = .slice none 0 0 := (eval_getD A 68).symm.trans ((hr 68 (by decide) (by decide)).2 (by decide))
        have e73 : A.tmps[73]?.getD undef = .slice none 0 0 := (eval_getD A 73).symm.trans ((hr 73 (by decide) (by decide)).2 (by decide))
        have e78 : A.tmps[78]?.getD undef = .slice none 0 0 := (eval_getD A 78).symm.trans ((hr 78 (by decide) (by decide)).2 (by decide))
        unfold Oper.wp execOp
        go_simp
        exact hK _ _ (fun d hd => by cases hd; exact ⟨fun h => absurd h (by decide), fun _ => rfl⟩) (Ch.refl _ _)
      | 62, _, ho => by
        obtain rfl := Option.some.inj ho
        unfold Oper.wp execOp
        go_simp
        exact hK _ _ (fun d hd => by cases hd; exact ⟨fun _ => ⟨_, rfl, hsz, heap_alloc_new _ _⟩, fun h => absurd rfl h⟩) (Ch.grown (World.grownBy_alloc _ _ none) (by simp))
      | n + 63, hi, _ => absurd hi (by omega)
  · intro o ho u W' hR hu
    obtain rfl := Option.some.inj ho
    obtain ⟨k, hk, hNk, hblk⟩ := (hu 4 (by decide)).1 rfl
    have h79 : u 79 = .agg (sess1 (.slice none 0 0)) := (hu 79 (by decide)).2 (by decide)
    rw [plain_frame]
    refine wp_store_row 36 (.tmp 4) (.tmp 79) rfl k (sess1 (.slice none 0 0)) zeroSess 36 hk h79 hblk Tryz.size36 rfl (by decide +kernel) ?_
    have hb2 : (W'.setRow k (sess1 (.slice none 0 0))).heap[k]? = some (.cells (sess1 (.slice none 0 0)) 36 (0, 0)) := setRow_heap _ _ _ _ _ _ hblk
    have hch2 : Ch (fun _ => False) W1 (W'.setRow k (sess1 (.slice none 0 0))) := (Ch.of_heap (Ch.refl _ W1) (w' := W1.drew) rfl rfl rfl rfl |>.trans hR).setRow (.inl (by rw [HS1.out]; omega)) _
    have HB2 := Lib.hid hb2
    have HCH2 := Lib.hid hch2
    rw [hk]
    clear hb2 hch2 hblk hk h79 hu hR c0 c1 c2 c3 c4 c5 c6
    generalize W'.setRow k (sess1 (.slice none 0 0)) = W2 at *
    obtain ⟨g, cap, rfl, ho, hg⟩ := HT.out
    have hW1 : W1.heap.size = w.heap.size + 2 := HS1.out
    have hDb : W2.heap[D]? = some (.cells (desc2 (.slice (some ⟨g, 0, none⟩) 1 cap)) 108 (0, 0)) := (HCH2.out.block D (by omega) id).trans ((HC1.out.block D hDw id).trans HD.out)
    have hgw : g < w.heap.size := (ho.lt g rfl).2
    have ho2 : W2.ownsRow w0.heap.size 193 3 (.slice (some ⟨g, 0, none⟩) 1 cap) 1 [.int .u64 0, .int .u64 0, .slice none 0 0] :=
      owns_same ho fun g' hg' => by
        obtain rfl : g = g' := by simpa [Value.ownBlock] using hg'
        exact (HCH2.out.block g (by omega) id).trans (HC1.out.block g hgw id)
    have g0 : W2.cell? ⟨g, 0, none⟩ = some (.int .u64 0) := ho2.cells (g := g) rfl 0 _ rfl
    have g1 : W2.cell? ⟨g, 1, none⟩ = some (.int .u64 0) := ho2.cells (g := g) rfl 1 _ rfl
    have g2 : W2.cell? ⟨g, 2, none⟩ = some (.slice none 0 0) := ho2.cells (g := g) rfl 2 _ rfl
    have d14 : W2.cell? ⟨D, 14, none⟩ = some (.slice (some ⟨g, 0, none⟩) 1 cap) := blk_cell hDb rfl
    have hkW : k < W2.heap.size := blk_lt HB2.out
    have hDW : D < W2.heap.size := blk_lt hDb
    have hgW : g < W2.heap.size := by have := HCH2.out.size; omega
    have k14 : W2.cell? ⟨k, 14, none⟩ = some (.slice none 0 0) := blk_cell HB2.out rfl
    have kz : W2.frozen? ⟨k, 14, none⟩ = false := blk_frozen HB2.out
    have HO2 := Lib.hid ho2
    have HDb := Lib.hid hDb
    have HG := Lib.hid hg
    have HHO := Lib.hid ho
    clear ho2 hDb hg ho hW1
    dsimp only [Act.put, Exit.then]
    obtain ⟨i0, hi0, hz0, hz1, hz2⟩ := info_parts Tryz.info196
    have hc3 : Ch (fun _ => False) W2 (((W2.alloc (.cells #[.int .u64 0, .int .u64 0, .slice none 0 0] 193)).alloc (.cells #[.int .u64 0, .int .u64 0, .slice none 0 0] 196)).alloc (.cells #[.int .u64 0, .int .u64 0, .slice none 0 0] 196)) := ((Ch.grown (World.grownBy_alloc _ _ none) (by simp)).trans (Ch.grown (World.grownBy_alloc _ _ none) (by simp))).trans (Ch.grown (World.grownBy_alloc _ _ none) (by simp))
    have hn3 : (((W2.alloc (.cells #[.int .u64 0, .int .u64 0, .slice none 0 0] 193)).alloc (.cells #[.int .u64 0, .int .u64 0, .slice none 0 0] 196)).alloc (.cells #[.int .u64 0, .int .u64 0, .slice none 0 0] 196)).heap[W2.heap.size + 2]? = some (.cells #[.int .u64 0, .int .u64 0, .slice none 0 0] 196 (0, 0)) := by
      have h1 := heap_alloc_new ((W2.alloc (.cells #[.int .u64 0, .int .u64 0, .slice none 0 0] 193)).alloc (.cells #[.int .u64 0, .int .u64 0, .slice none 0 0] 196)) (.cells #[.int .u64 0, .int .u64 0, .slice none 0 0] 196)
      simpa using h1
    have HC3 := Lib.hid hc3
    have HN3 := Lib.hid hn3
    clear hc3 hn3
    go_wp2_with fail
    refine wp_loop_rounds 2 ?_
    rw [rounds_succ]
    go_wp2_with fail
    refine wp_loop_rounds 1 ?_
    rw [rounds_succ]
    go_wp2_with (at_builtin; refine wpList_append_lies _ rfl (.tmp 118) (.tmp 120) 31 rfl W2.heap.size 196 i0 _ 3 40 Tryz.underlying31 hi0 hz0 hz1 hz2 rfl (by decide) (.slice none 0 0) 0 [] rfl (World.ownsRow_nil _ _ _ _) ⟨W2.heap.size + 2, 0, none⟩ 1 1 [.int .u64 0, .int .u64 0, .slice none 0 0] rfl rfl (World.news_of_block HN3.out) (by simp [Value.oneCell']) (by decide) (by decide) (by decide) (by simp; omega) _ rfl ?_; intro gg cap4 W4 hown4 hgrow4 hat4 hlt4; have hc4 := HC3.out.trans (Ch.grown (S := fun _ => False) hgrow4 (by simp [Value.ownBlock])); have HC4 := Lib.hid hc4; have kb4 := (hc4.block k hkW id).trans HB2.out; have KB4 := Lib.hid kb4; have k14' := blk_cell (j := 14) kb4 rfl; have kz' := blk_frozen (j := 14) kb4; clear hown4 hgrow4 hat4 hlt4 hc4 kb4 k14 kz g0 g1 g2 d14; refine Hid.out ?_)
    have hkD : k ≠ D := by omega
    have hkR : k ≠ w.heap.size := by omega
    have hW1 : W1.heap.size = w.heap.size + 2 := HS1.out
    have hc14 : Ch (fun _ => False) W1 W4 := HCH2.out.trans HC4.out
    have hDb4 : W4.heap[D]? = some (.cells (desc2 (.slice (some ⟨g, 0, none⟩) 1 cap)) 108 (0, 0)) := (HC4.out.block D hDW id).trans HDb.out
    have hR4 : W4.heap[w.heap.size]? = some (.cells zeroSess 36 (0, 0)) := (hc14.block _ (by omega) id).trans HR1.out
    have hch5 : Ch (fun _ => False) w (W4.setCell ⟨k, 14, none⟩ (.slice (some ⟨gg, 0, none⟩) 1 cap4)) := (HC1.out.trans hc14).old (grownBy_set _ k 14 _) (fun j hj => .inl (by cases hj; omega))
    have hDb5 := (blk_set_other (w := W4) (j := 14) (.slice (some ⟨gg, 0, none⟩) 1 cap4) hkD).trans hDb4
    have hR5 := (blk_set_other (w := W4) (j := 14) (.slice (some ⟨gg, 0, none⟩) 1 cap4) hkR).trans hR4
    have hK5 : (W4.setCell ⟨k, 14, none⟩ (.slice (some ⟨gg, 0, none⟩) 1 cap4)).heap[k]? = some (.cells (sess1 (.slice (some ⟨gg, 0, none⟩) 1 cap4)) 36 (0, 0)) := blk_set _ KB4.out
    have HCH5 := Lib.hid hch5
    have HDb5 := Lib.hid hDb5
    have HR5 := Lib.hid hR5
    have HK5 := Lib.hid hK5
    clear hc14 hDb4 hR4 hch5 hDb5 hR5 hK5 hW1 hkD hkR hkW hDW hgW hgw
    refine Lib.hid ?_
    go_wp2_with fail
    generalize W4.setCell ⟨k, 14, none⟩ (.slice (some ⟨gg, 0, none⟩) 1 cap4) = W5 at *
    have d15 : W5.cell? ⟨D, 15, none⟩ = some (.slice none 0 0) := blk_cell HDb5.out rfl
    have d18 : W5.cell? ⟨D, 18, none⟩ = some (.slice none 0 0) := blk_cell HDb5.out rfl
    rw [rounds_succ]
    go_wp2_with fail
    refine wp_loop_rounds 1 ?_
    rw [rounds_succ]
    go_wp2_with fail
    refine wp_loop_rounds 1 ?_
    rw [rounds_succ]
    have hz14 : (sess1 (Value.slice (some ⟨gg, 0, none⟩) 1 cap4)).all (·.oneCell') = true := by as_aux_lemma => kernel_rfl
    go_wp2_with (first | (refine wpList_load_row rfl 36 (.tmp 4) rfl k rfl 36 (sess1 (.slice (some ⟨gg, 0, none⟩) 1 cap4)) (0, 0) _ HK5.out Tryz.underlying36 rfl Tryz.size36 ?_) | (refine wpList_store_row rfl 36 (.tmp 2) (.tmp 161) rfl w.heap.size (sess1 (.slice (some ⟨gg, 0, none⟩) 1 cap4)) zeroSess 36 rfl rfl HR5.out Tryz.size36 rfl hz14 ?_))
    have hR6 : (W5.setRow w.heap.size (sess1 (.slice (some ⟨gg, 0, none⟩) 1 cap4))).heap[w.heap.size]? = some (.cells (sess1 (.slice (some ⟨gg, 0, none⟩) 1 cap4)) 36 (0, 0)) := setRow_heap _ _ _ _ _ _ HR5.out
    refine bodyPost_ret (v := .agg (sess1 (.slice (some ⟨gg, 0, none⟩) 1 cap4))) (results_cell_row Tryz.results47 _ _ w.heap.size 36 _ (0, 0) _ rfl hR6 Tryz.underlying36 rfl Tryz.size36) rfl ?_
    exact ⟨_, rfl, ⟨_, _, _, rfl⟩, HCH5.out.setRow (.inl (Nat.le_refl _)) _⟩
end Go.Proofs.YtimonhimfioohaaGreatDoor
