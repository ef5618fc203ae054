/- laws.appended tells true where a medium has the other's attributes and the new ones behind them. -/
import Derived.Test.YtimonhimfioohaaGreatDoorSource
import Derived.Test.YtimonhimfioohaaGreatDoorUint
import Derived.Deep.LoopGhost
import Derived.Deep.QuietTactic
import Derived.BigQuiet
namespace Go.Proofs.YtimonhimfioohaaGreatDoor
open Go.RowKit

theorem run_append_zero {P : Program} {w : World} (base t ty e : Nat) (i : TypeInfo) (size : Nat) (ht : P.underlying t = some (.slice e)) (hi : P.info? e = some i) (v : Value) (n : Nat) (xs : List Value) (hown : w.ownsRow base e size v n xs) (A : Option Addr) (c : Nat) :
    (Builtin.append_ #[t, t] ty #[v, .slice A 0 c]).run P w = .ok v w := by
  rcases hown.2 with ⟨rfl, rfl⟩ | ⟨g, cap, cur, rfl, _, _, hnc, _⟩ <;> cases A <;> simp [Builtin.append_, run_underlying ht, sizeOf, typeInfo, Builtin.lenOf, Builtin.firstCells, loadCells, loadCellsFrom, storeCells, *]

theorem flat_cells {w : World} {b size : Nat} {α : Type} {f : α → List Value} (hf : ∀ a, (f a).length = size) : ∀ (l : List α) (o : Nat), (∀ k a, l[k]? = some a → ∀ j u, (f a)[j]? = some u → w.cell? ⟨b, o + (k * size + j), none⟩ = some u) → ∀ j u, (l.flatMap f)[j]? = some u → w.cell? ⟨b, o + j, none⟩ = some u
  | [], o, h, j, u, hu => by simp at hu
  | a :: l, o, h, j, u, hu => by
    rw [List.flatMap_cons] at hu
    rcases Nat.lt_or_ge j (f a).length with hj | hj
    · rw [List.getElem?_append_left hj] at hu
      have := h 0 a rfl j u hu
      rwa [Nat.zero_mul, Nat.zero_add] at this
    · rw [List.getElem?_append_right hj] at hu
      have := flat_cells hf l (o + size) (fun k a' ha j' u' hu' => by
        have h1 := h (k + 1) a' ha j' u' hu'
        rw [show o + ((k + 1) * size + j') = o + size + (k * size + j') from by rw [Nat.add_mul]; omega] at h1
        exact h1) (j - (f a).length) u hu
      rw [hf] at hj this
      rw [show o + j = o + size + (j - size) from by omega]
      exact this

theorem run_append_lst {P : Program} {w : World} (base t ty e : Nat) (i : TypeInfo) (z : Value) (size bytes : Nat) (ht : P.underlying t = some (.slice e)) (hi : P.info? e = some i) (hz : i.zero = some z)
    (hsize : i.size = size) (hby : i.bytes = bytes) (hzs : z.cells.size = size) (hsz : 0 < size) (v : Value) (n : Nat) (xs : List Value) (hown : w.ownsRow base e size v n xs)
    {α : Type} (f : α → List Value) (hf : ∀ a, (f a).length = size) (hf1 : ∀ a, ∀ u ∈ f a, u.oneCell' = true) (A : Option Addr) (c : Nat) (l : List α) (hl : Lst w size f A l)
    (h63 : n + l.length ≤ maxLen) (hbytes : (n + l.length) * bytes ≤ 140737488355328) (hbase : base ≤ w.heap.size) :
    ∃ v' w', (Builtin.append_ #[t, t] ty #[v, .slice A l.length c]).run P w = .ok v' w' ∧ w'.ownsRow base e size v' (n + l.length) (xs ++ l.flatMap f) ∧ w.grownBy w' v.ownBlock := by
  cases l with
  | nil => exact ⟨v, w, run_append_zero base t ty e i size ht hi v n xs hown A c, by simpa using hown, World.grownBy.refl w _⟩
  | cons a l =>
    obtain ⟨b, o, rfl, _⟩ := hl 0 a rfl
    have hcells : ∀ j u, ((a :: l).flatMap f)[j]? = some u → w.cell? ((⟨b, o, none⟩ : Addr).add j) = some u := fun j u hu => by
      have h1 := flat_cells hf (a :: l) o (fun k a' ha j' u' hu' => by
        obtain ⟨b', o', h2, h3⟩ := hl k a' ha
        cases h2
        exact h3 j' u' hu') j u hu
      have hadd : (⟨b, o, none⟩ : Addr).add j = ⟨b, o + j, none⟩ := by unfold Addr.add; split <;> simp_all
      rw [hadd]
      exact h1
    have hlen : ∀ (l : List α), (l.flatMap f).length = l.length * size := fun l => by
      induction l with
      | nil => simp
      | cons x l ih => rw [List.flatMap_cons, List.length_append, ih, hf, List.length_cons, Nat.add_mul]; omega
    obtain ⟨g, cap, w', hr, h2, h3, _, _⟩ := run_append_lies (P := P) w t ty base e i z size bytes ht hi hz hsize hby hzs hsz v n xs hown ⟨b, o, none⟩ (a :: l).length c ((a :: l).flatMap f) (hlen _) hcells (fun u hu => by
      obtain ⟨x, _, hx⟩ := List.mem_flatMap.1 hu
      exact hf1 x u hx) (by simp) h63 hbytes hbase _ rfl
    exact ⟨_, w', hr, h2, h3⟩
theorem wpList_append_lst {P : Program} {w : World} {ops : Array Oper} {rest : List Oper} {o : Oper} {a : Act} {Q : Exit → Act → World → Prop} (hgd : o.guard = none) (s x : Operand) (t : TypeId)
    (ho : o.op = .call { callee := .builtin .append, args := #[s, x], argTypes := #[t, t] })
    (base e : Nat) (i : TypeInfo) (z : Value) (size bytes : Nat) (ht : P.underlying t = some (.slice e)) (hi : P.info? e = some i) (hz : i.zero = some z)
    (hsize : i.size = size) (hby : i.bytes = bytes) (hzs : z.cells.size = size) (hsz : 0 < size) (v : Value) (n : Nat) (xs : List Value) (hs : a.eval s = v) (hown : w.ownsRow base e size v n xs)
    {α : Type} (f : α → List Value) (hf : ∀ a, (f a).length = size) (hf1 : ∀ a, ∀ u ∈ f a, u.oneCell' = true) (A : Option Addr) (c : Nat) (l : List α) (hx : a.eval x = .slice A l.length c) (hl : Lst w size f A l)
    (h63 : n + l.length ≤ maxLen) (hbytes : (n + l.length) * bytes ≤ 140737488355328) (hbase : base ≤ w.heap.size)
    (h : ∀ v' w', w'.ownsRow base e size v' (n + l.length) (xs ++ l.flatMap f) → w.grownBy w' v.ownBlock → wpList P ops Q rest (a.put o.dst v') w') : wpList P ops Q (o :: rest) a w :=
  wpList_plain hgd fun _ hK => by
    obtain ⟨v', w', hr, h2, h3⟩ := run_append_lst (P := P) base t o.type e i z size bytes ht hi hz hsize hby hzs hsz v n xs hown f hf hf1 A c l hl h63 hbytes hbase
    unfold Oper.wp execOp
    simp only [ho, resolve, invoke, builtin, Sem.run_bind, Sem.run_pure, Result.andThen_ok, List.map_toArray, List.map_cons, List.map_nil, hs, hx, hr]
    exact hK _ _ (h v' w' h2 h3)

theorem attrC_one (p : ByteArray × ByteArray) : ∀ u ∈ attrC p, u.oneCell' = true := by
  intro u hu
  simp only [attrC, List.mem_cons, List.not_mem_nil, or_false] at hu
  rcases hu with rfl | rfl <;> rfl

set_option maxRecDepth 100000 in
set_option maxHeartbeats 4000000 in
theorem appended_any {name : ByteArray} {port : Int} {G1 G2 G3 G4 G5 G6 G7 G8 : Option Addr} {A1 A2 A3 A4 A5 A6 A7 A8 : Option Addr} {g1 h1 n1 c1 g2 h2 n2 c2 g3 h3 n3 c3 g4 h4 n4 c4 g5 h5 n5 c5 g6 h6 n6 c6 g7 h7 n7 c7 h8 c8 : Nat} {kx cx : Nat} {la lx lg : List (ByteArray × ByteArray)} {w : World}
    (hlg : lg = la ++ lx) (hG : Lst w 2 attrC G8 lg) (hA : Lst w 2 attrC A8 la) (hX : Lst w 2 attrC (some ⟨kx, 0, none⟩) lx) (hla : la.length ≤ 20) (hlx : lx.length ≤ 10) :
    Calls Tryz.prog 30 #[.agg #[.string name, .int .i64 port, .slice G1 g1 h1, .slice G2 g2 h2, .slice G3 g3 h3, .slice G4 g4 h4, .slice G5 g5 h5, .slice G6 g6 h6, .slice G7 g7 h7, .slice G8 lg.length h8], .agg #[.string name, .int .i64 port, .slice A1 n1 c1, .slice A2 n2 c2, .slice A3 n3 c3, .slice A4 n4 c4, .slice A5 n5 c5, .slice A6 n6 c6, .slice A7 n7 c7, .slice A8 la.length c8], .slice (some ⟨kx, 0, none⟩) lx.length cx] w fun e w' => e = .returned (.bool true) ∧ Ch (fun _ => False) w w' := by
  have hb1 : ((w.alloc (.cells #[.string name, .int .i64 port, .slice G1 g1 h1, .slice G2 g2 h2, .slice G3 g3 h3, .slice G4 g4 h4, .slice G5 g5 h5, .slice G6 g6 h6, .slice G7 g7 h7, .slice G8 lg.length h8] 66)).alloc (.cells #[.string name, .int .i64 port, .slice A1 n1 c1, .slice A2 n2 c2, .slice A3 n3 c3, .slice A4 n4 c4, .slice A5 n5 c5, .slice A6 n6 c6, .slice A7 n7 c7, .slice A8 la.length c8] 66)).heap[w.heap.size]? = some (.cells #[.string name, .int .i64 port, .slice G1 g1 h1, .slice G2 g2 h2, .slice G3 g3 h3, .slice G4 g4 h4, .slice G5 g5 h5, .slice G6 g6 h6, .slice G7 g7 h7, .slice G8 lg.length h8] 66 (0, 0)) := (Below.heap_alloc _ _ _ (by simp)).trans (heap_alloc_new w _)
  have hb2 : ((w.alloc (.cells #[.string name, .int .i64 port, .slice G1 g1 h1, .slice G2 g2 h2, .slice G3 g3 h3, .slice G4 g4 h4, .slice G5 g5 h5, .slice G6 g6 h6, .slice G7 g7 h7, .slice G8 lg.length h8] 66)).alloc (.cells #[.string name, .int .i64 port, .slice A1 n1 c1, .slice A2 n2 c2, .slice A3 n3 c3, .slice A4 n4 c4, .slice A5 n5 c5, .slice A6 n6 c6, .slice A7 n7 c7, .slice A8 la.length c8] 66)).heap[w.heap.size + 1]? = some (.cells #[.string name, .int .i64 port, .slice A1 n1 c1, .slice A2 n2 c2, .slice A3 n3 c3, .slice A4 n4 c4, .slice A5 n5 c5, .slice A6 n6 c6, .slice A7 n7 c7, .slice A8 la.length c8] 66 (0, 0)) := by
    have h1 := heap_alloc_new (w.alloc (.cells #[.string name, .int .i64 port, .slice G1 g1 h1, .slice G2 g2 h2, .slice G3 g3 h3, .slice G4 g4 h4, .slice G5 g5 h5, .slice G6 g6 h6, .slice G7 g7 h7, .slice G8 lg.length h8] 66)) (.cells #[.string name, .int .i64 port, .slice A1 n1 c1, .slice A2 n2 c2, .slice A3 n3 c3, .slice A4 n4 c4, .slice A5 n5 c5, .slice A6 n6 c6, .slice A7 n7 c7, .slice A8 la.length c8] 66)
    rw [World.size_alloc] at h1
    exact h1
  have hc : Ch (fun _ => False) w ((w.alloc (.cells #[.string name, .int .i64 port, .slice G1 g1 h1, .slice G2 g2 h2, .slice G3 g3 h3, .slice G4 g4 h4, .slice G5 g5 h5, .slice G6 g6 h6, .slice G7 g7 h7, .slice G8 lg.length h8] 66)).alloc (.cells #[.string name, .int .i64 port, .slice A1 n1 c1, .slice A2 n2 c2, .slice A3 n3 c3, .slice A4 n4 c4, .slice A5 n5 c5, .slice A6 n6 c6, .slice A7 n7 c7, .slice A8 la.length c8] 66)) := (Ch.grown (World.grownBy_alloc _ _ none) (by simp)).trans (Ch.grown (World.grownBy_alloc _ _ none) (by simp))
  have HB1 := Lib.hid hb1
  have HB2 := Lib.hid hb2
  have HC := Lib.hid hc
  have HG := Lib.hid hG
  have HA := Lib.hid hA
  have HX := Lib.hid hX
  clear hb1 hb2 hc hG hA hX
  have HLG := Lib.hid hlg
  clear hlg
  obtain ⟨i0, hi0, hz0, hz1, hz2⟩ := info_parts info73_c
  go_enter Tryz.func30, Tryz.ntmps30
  go_upto_region 1 with fail
  generalize hB : w.heap.size = B at *
  generalize ((w.alloc (.cells #[.string name, .int .i64 port, .slice G1 g1 h1, .slice G2 g2 h2, .slice G3 g3 h3, .slice G4 g4 h4, .slice G5 g5 h5, .slice G6 g6 h6, .slice G7 g7 h7, .slice G8 lg.length h8] 66)).alloc (.cells #[.string name, .int .i64 port, .slice A1 n1 c1, .slice A2 n2 c2, .slice A3 n3 c3, .slice A4 n4 c4, .slice A5 n5 c5, .slice A6 n6 c6, .slice A7 n7 c7, .slice A8 la.length c8] 66)) = W0 at *
  have m9 : W0.cell? ⟨B + 1, 9, none⟩ = some (.slice A8 la.length c8) := blk_cell HB2.out rfl
  have hBW : B ≤ W0.heap.size := Nat.le_of_lt (blk_lt HB1.out)
  have hcE : Ch (fun _ => False) W0 (W0.alloc (.cells #[] 73)) := Ch.grown (World.grownBy_alloc _ _ none) (by simp)
  have m9' := hcE.cell0 m9
  have hown0 : (W0.alloc (.cells #[] 73)).ownsRow B 73 2 (.slice (some ⟨W0.heap.size, 0, none⟩) 0 0) 0 [] := ⟨rfl, .inr ⟨_, 0, #[], rfl, hBW, heap_alloc_new _ _, Nat.le_refl _, by decide, rfl, rfl⟩⟩
  have HOWN0 := Lib.hid hown0
  have HCE := Lib.hid (HC.out.trans hcE)
  have HBW := Lib.hid (Nat.le_trans hBW hcE.size)
  have HA0 := Lib.hid (HA.out.ch HCE.out)
  clear hown0 hcE hBW
  go_wp2_with (first
    | (at_builtin; refine wpList_append_lst rfl (.tmp 10) (.tmp 12) 33 rfl B 73 i0 _ 2 32 Tryz.underlying33 hi0 hz0 hz1 hz2 rfl (by decide) (.slice (some ⟨W0.heap.size, 0, none⟩) 0 0) 0 [] rfl HOWN0.out attrC (fun _ => rfl) attrC_one A8 c8 la rfl HA0.out (by unfold maxLen; omega) (by omega) HBW.out ?_; intro v1 W1 hown1 hgrow1; have HO1 := Lib.hid hown1; have HG1 := Lib.hid hgrow1; have HX1 := Lib.hid (HX.out.ch (HCE.out.old hgrow1 (fun k hk => .inl (by rw [hB]; exact (HOWN0.out.lt k hk).1)))); have HBW1 := Lib.hid (Nat.le_trans HBW.out hgrow1.size); clear hown1 hgrow1)
    | (at_builtin; refine wpList_append_lst rfl (.tmp 13) (.tmp 14) 33 rfl B 73 i0 _ 2 32 Tryz.underlying33 hi0 hz0 hz1 hz2 rfl (by decide) v1 (0 + la.length) _ rfl HO1.out attrC (fun _ => rfl) attrC_one (some ⟨kx, 0, none⟩) cx lx rfl HX1.out (by unfold maxLen; omega) (by omega) HBW1.out ?_; intro v2 W2 hown2 hgrow2; have HO2 := Lib.hid hown2; have HG2 := Lib.hid hgrow2; clear hown2 hgrow2; refine Hid.out ?_))
  have hg01 := HCE.out.old HG1.out (fun k hk => .inl (by rw [hB]; exact (HOWN0.out.lt k hk).1))
  have hg02 := hg01.old HG2.out (fun k hk => .inl (by rw [hB]; exact (HO1.out.lt k hk).1))
  have hcE0 : Ch (fun _ => False) W0 (W0.alloc (.cells #[] 73)) := Ch.grown (World.grownBy_alloc _ _ none) (by simp)
  have hbk : ∀ (j : Nat) (cs : Array Value), W0.heap[j]? = some (.cells cs 66 (0, 0)) → W2.heap[j]? = some (.cells cs 66 (0, 0)) := fun j cs hj => by
    have h0 := (hcE0.block j (blk_lt hj) id).trans hj
    have h1 : W1.heap[j]? = some (.cells cs 66 (0, 0)) := (HG1.out.block j (blk_lt h0) (fun e => by
      have := own_type HOWN0.out e.symm h0
      exact absurd this (by decide))).trans h0
    exact (HG2.out.block j (blk_lt h1) (fun e => by
      have := own_type HO1.out e.symm h1
      exact absurd this (by decide))).trans h1
  have HB1' := Lib.hid (hbk B _ HB1.out)
  have HB2' := Lib.hid (hbk (B + 1) _ HB2.out)
  have hown2' : W2.ownsRow B 73 2 v2 lg.length (lg.flatMap attrC) := by
    have h1 := HO2.out
    rw [HLG.out]
    simpa [List.flatMap_append, List.length_append] using h1
  obtain ⟨SW, cw, rfl, _, hW⟩ := Lst.of_own (f := attrC) (fun _ => rfl) hown2' rfl
  have HC2 := Lib.hid hg02
  have HG8 := Lib.hid (HG.out.ch hg02)
  have HW := Lib.hid hW
  clear hg01 hg02 hcE0 hbk hown2' hW HB1 HB2 HOWN0 HCE HBW HA0 HO1 HG1 HX1 HBW1 HO2 HG2 m9 m9'
  have g0 : W2.cell? ⟨B, 0, none⟩ = some (.string name) := blk_cell HB1'.out rfl
  have g1' : W2.cell? ⟨B, 1, none⟩ = some (.int .i64 port) := blk_cell HB1'.out rfl
  have g9 : W2.cell? ⟨B, 9, none⟩ = some (.slice G8 lg.length h8) := blk_cell HB1'.out rfl
  have k0 : W2.cell? ⟨B + 1, 0, none⟩ = some (.string name) := blk_cell HB2'.out rfl
  have k1 : W2.cell? ⟨B + 1, 1, none⟩ = some (.int .i64 port) := blk_cell HB2'.out rfl
  have hN30 : lg.length ≤ 30 := by rw [HLG.out, List.length_append]; omega
  have HGET := Lib.hid (show ∀ j, j < lg.length → ∃ s t : ByteArray, lg[j]? = some (s, t) from fun j hj => ⟨_, _, List.getElem?_eq_getElem hj⟩)
  generalize lg.length = N at *
  refine Lib.hid ?_
  go_wp2
  go_loopg [8, 9, 38] N (fun g _ _ x wr => ∃ j : Nat, g = N - j ∧ j ≤ N ∧ x = .int .i64 j ∧ Ch (fun _ => False) W2 wr)
  case atStart => exact ⟨0, rfl, Nat.zero_le _, rfl, Ch.refl _ _⟩
  case round =>
    obtain ⟨j, hg, hj, rfl, hch⟩ := hrel
    have HGG := Lib.hid hg
    have HCH := Lib.hid hch
    clear hg hch g0 g1' g9 k0 k1
    by_cases hlt : j < N
    · obtain ⟨s, t, hget⟩ := HGET.out j hlt
      obtain ⟨b1, o1, hS1, hd1⟩ := (HW.out.ch HCH.out) j _ hget
      obtain ⟨b2, o2, hS2, hd2⟩ := (HG8.out.ch HCH.out) j _ hget
      subst hS1 hS2
      have d0 := hd1 0 _ rfl
      have d1 := hd1 1 _ rfl
      have e0 := hd2 0 _ rfl
      have e1 := hd2 1 _ rfl
      rw [Nat.add_zero] at d0 e0
      rw [← Nat.add_assoc] at d1 e1
      have hcA : Ch (fun _ => False) wr (wr.alloc (.cells #[.string s, .string t] 73)) := Ch.grown (World.grownBy_alloc _ _ none) (by simp)
      have q9 : wr.cell? ⟨B, 9, none⟩ = some (.slice (some ⟨b2, o2, none⟩) N h8) := HCH.out.cell0 (blk_cell HB1'.out rfl)
      have f0 := hcA.cell0 e0
      have f1 := hcA.cell0 e1
      have f9 := hcA.cell0 q9
      have HCA2 := Lib.hid hcA
      have i1 : (j : Int) < (N : Int) := by omega
      clear hd1 hd2 hcA hget e0 e1 q9
      go_wp2_with fail
      go_quiet (fail)
      go_wp2
      go_roundg (N - (j + 1))
      case measure => have := HGG.out; omega
      case rel => exact ⟨j + 1, rfl, by omega, by simp, HCH.out.trans (HCA2.out.drewN _)⟩
    · go_wp2
      refine bodyPost_ret (v := .bool true) (by simp [results, Tryz.results30]) rfl ?_
      exact ⟨rfl, HC2.out.trans HCH.out⟩

end Go.Proofs.YtimonhimfioohaaGreatDoor
