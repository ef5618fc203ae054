/- impl.Unmarshal at a text of known lines. -/
import Derived.Test.YtimonhimfioohaaGreatDoorMergP
import Derived.Test.YtimonhimfioohaaGreatDoorMergE
import Derived.MapKept
import Derived.Carry

namespace Go.Proofs.YtimonhimfioohaaGreatDoor
open Go.RowKit

theorem PF.keeps {p8 p9 p10 p11 p12 : Option Addr} {X : Nat → Prop} {W : World} (h : PF p8 p9 p10 p11 p12 W) (hT : ∀ T, 4 ≠ T → NotT W X T) : Keeps (PF p8 p9 p10 p11 p12) X W :=
  (((((Keeps.ptr h.a8 (hT _ (by decide))).and (Keeps.ptr h.a9 (hT _ (by decide)))).and (Keeps.ptr h.a10 (hT _ (by decide)))).and (Keeps.ptr h.a11 (hT _ (by decide)))).and
    (Keeps.conn h.a12 (hT _ (by decide)) (hT _ (by decide)) (hT _ (by decide)))).imp fun _ k => ⟨k.1.1.1.1, k.1.1.1.2, k.1.1.2, k.1.2, k.2⟩
theorem SesRd.keeps {p8 p9 p10 p11 p12 p16 : Option Addr} {v13 v14 v15 : Value} {X : Nat → Prop} {W : World} (h : SesRd p8 p9 p10 p11 p12 v13 v14 v15 p16 W) (hT : ∀ T, 4 ≠ T → NotT W X T) : Keeps (SesRd p8 p9 p10 p11 p12 v13 v14 v15 p16) X W :=
  (((((h.pf.keeps hT).and (h.b13.keeps (hT _ (by decide)))).and (h.b14.keeps (hT _ (by decide)) (hT _ (by decide)) (hT _ (by decide)))).and (h.b15.keeps (hT _ (by decide)))).and (Keeps.ptr h.a16 (hT _ (by decide)))).imp fun _ k =>
    ⟨k.1.1.1.1, k.1.1.1.2, k.1.1.2, k.1.2, k.2⟩
theorem MedRdy.keeps {b : Nat} {X : Nat → Prop} {W : World} (h : MedRdy b W) (hT : ∀ T, 4 ≠ T → NotT W X T) : Keeps (MedRdy b) X W := by
  obtain ⟨q2, v3, v4, q5, q6, v7, q8, v9, h1, h2, h3, h4⟩ := h
  obtain ⟨la, hla, ho⟩ := h4
  exact ((((Keeps.block h1 (hT _ (by decide))).and (h2.keeps (hT _ (by decide)) (hT _ (by decide)) (hT _ (by decide)) (hT _ (by decide)) (hT _ (by decide)) (hT _ (by decide)))).and (h3.keeps (hT _ (by decide)))).and (Keeps.own ho (hT _ (by decide)))).imp fun _ k =>
    ⟨q2, v3, v4, q5, q6, v7, q8, v9, k.1.1.1, k.1.1.2, k.1.2, la, hla, k.2⟩
/-- The description is read as well when a block of another type changes. -/
theorem DescOk.step {D : Nat} {w w1 W W' : World} {X : Nat → Prop} (h : DescOk D w1 W) (hc : Ch X W W') (hT : ∀ T, 4 ≠ T → NotT W X T) (hw : Ch (fun k => k = D) w W') : DescOk D w W' := by
  obtain ⟨p8, p9, p10, p11, p12, v13, v14, v15, p16, v17, v18, bs, hd, hses, h17, hbs, h18, hmed, _⟩ := h
  obtain ⟨la, hla, ho⟩ := h17
  exact ⟨p8, p9, p10, p11, p12, v13, v14, v15, p16, v17, v18, bs, Keeps.block hd (hT _ (by decide)) W' hc, hses.keeps hT W' hc, ⟨la, hla, Keeps.own ho (hT _ (by decide)) W' hc⟩, hbs, Keeps.own h18 (hT _ (by decide)) W' hc, fun b hb => (hmed b hb).keeps hT W' hc, hw⟩
theorem DescOk.ch {D : Nat} {w W : World} (h : DescOk D w W) : Ch (fun k => k = D) w W := by
  obtain ⟨_, _, _, _, _, _, _, _, _, _, _, _, _, _, _, _, _, _, h⟩ := h
  exact h

/-- What the function within try answers. -/
def UnR (l : List UInt8) (D : Nat) (w : World) (e : Ending) (w' : World) : Prop := (e = .returned (.bool true) ∧ (runP 1 l).isSome = true ∧ DescOk D w w') ∨ (e = .returned (.bool false) ∧ (runP 1 l).isSome = false ∧ Ch (fun k => k = D) w w')
theorem UnR.ch {l : List UInt8} {D : Nat} {w w' : World} {e : Ending} (h : UnR l D w e w') : Ch (fun k => k = D) w w' := by
  rcases h with ⟨_, _, h⟩ | ⟨_, _, h⟩
  · exact h.ch
  · exact h

/-- A text that is asked about: known lines, and no end ahead of the first time. -/
structure Asked (s : ByteArray) (l : List UInt8) : Prop where
  text : s.data.toList = textOf l
  few : l.length ≤ 60
  known : ∀ c ∈ l, knownL c
  late : ∀ q, runP 1 l = some q → q = 9 ∨ 11 ≤ q

theorem unmarshal1_any {ae : Addr} {D T : Nat} {s : ByteArray} {l : List UInt8} {w : World} (ha : Asked s l) (hD : w.heap[D]? = some (.cells zeroDesc 108 (0, 0))) (h6 : w.cell? ⟨6, 0, none⟩ = some (.iface 342 (.pointer (some ae)))) (hD6 : D ≠ 6) (hT : w.cell? ⟨T, 0, none⟩ = some (.string s)) :
    Calls Tryz.prog 45 #[.pointer (some ⟨D, 0, none⟩), .pointer (some ⟨T, 0, none⟩)] w (UnR l D w) := by
  have HP := Lib.hid (parse_any hD h6 hD6 ha.text ha.few ha.known ha.late)
  clear hD h6 ha
  go_enter Tryz.func45, Tryz.ntmps45
  go_wp2_with fail
  refine HP.out.mono ?_
  rintro e w1 (⟨rfl, hs, hg⟩ | ⟨t, x, rfl, hn, hg⟩)
  · have HG := Lib.hid hg
    have HS := Lib.hid hs
    clear hg hs
    go_wp2_with fail
    refine bodyPost_ret (v := .bool true) (by simp [results, Tryz.results45]) rfl ?_
    exact .inl ⟨rfl, HS.out, HG.out⟩
  · have HG := Lib.hid hg
    have HS := Lib.hid hn
    clear hg hn
    go_wp2_with fail
    refine bodyPost_ret (v := .bool false) (by simp [results, Tryz.results45]) rfl ?_
    exact .inr ⟨rfl, by rw [HS.out]; rfl, HG.out⟩

theorem UnR.under {l : List UInt8} {D : Nat} {w W : World} {b : Bool} {v : Value} (h : UnR l D (w.alloc (.cells #[.bool b] 4)) (.returned v) W) (x : Value) (hD : D < w.heap.size) : UnR l D w (.returned v) (W.setCell ⟨w.heap.size, 0, none⟩ x) := by
  have hA : Ch (fun _ => False) w (w.alloc (.cells #[.bool b] 4)) := Ch.grown (World.grownBy_alloc _ _ none) (by simp)
  have hN : W.heap[w.heap.size]? = some (.cells #[.bool b] 4 (0, 0)) := (h.ch.block _ (by simp) (Nat.ne_of_gt hD)).trans (heap_alloc_new w _)
  have hc : Ch (fun k => k = w.heap.size) W (W.setCell ⟨w.heap.size, 0, none⟩ x) := Ch.set (S := fun k => k = w.heap.size) (k := w.heap.size) W rfl x
  have hw : Ch (fun k => k = D) w (W.setCell ⟨w.heap.size, 0, none⟩ x) := ((hA.mono fun _ h => h.elim).trans h.ch).fresh hc fun i hi => .inl (by omega)
  rcases h with ⟨he, hs, hg⟩ | ⟨he, hs, _⟩
  · exact .inl ⟨he, hs, hg.step hc (fun T hT => NotT.one hN hT) hw⟩
  · exact .inr ⟨he, hs, hw⟩

theorem try_any {ae : Addr} {D T : Nat} {s : ByteArray} {l : List UInt8} {w : World} (ha : Asked s l) (hD : w.heap[D]? = some (.cells zeroDesc 108 (0, 0))) (h6 : w.cell? ⟨6, 0, none⟩ = some (.iface 342 (.pointer (some ae)))) (hD6 : D ≠ 6) (hT : w.cell? ⟨T, 0, none⟩ = some (.string s)) :
    Calls Tryz.prog 44 #[.func (.func 45) #[] #[.pointer (some ⟨D, 0, none⟩), .pointer (some ⟨T, 0, none⟩)]] w (UnR l D w) := by
  have hmf : ∀ (fn : Fn) (first cap : Array Value) (w : World), (Instr.makeFunc fn first cap).run Tryz.prog w = .ok (.func fn first cap) w := fun _ _ _ _ => rfl
  have hDl := blk_lt hD
  have hA : Ch (fun _ => False) w (w.alloc (.cells #[.bool false] 4)) := Ch.grown (World.grownBy_alloc _ _ none) (by simp)
  have hD1 := (hA.block D hDl id).trans hD
  have h61 : (w.alloc (.cells #[.bool false] 4)).cell? ⟨6, 0, none⟩ = some (.iface 342 (.pointer (some ae))) := (hA.cell h6 id)
  have hT1 : (w.alloc (.cells #[.bool false] 4)).cell? ⟨T, 0, none⟩ = some (.string s) := (hA.cell hT id)
  have hN1 : (w.alloc (.cells #[.bool false] 4)).heap[w.heap.size]? = some (.cells #[.bool false] 4 (0, 0)) := heap_alloc_new w _
  have HP := Lib.hid (unmarshal1_any (D := D) (T := T) (ae := ae) ha hD1 h61 hD6 hT1)
  have hnD : ¬ (fun k => k = D) w.heap.size := fun e => by simp only at e; omega
  have hnl : w.heap.size < (w.alloc (.cells #[.bool false] 4)).heap.size := by simp
  clear hD h6 hT hA hD1 h61 hT1 ha
  go_enter_defers Tryz.func44, Tryz.ntmps44
  go_wp2_with fail
  go_at_call 45
  refine HP.out.mono ?_
  intro e w1 hg
  have hb1 := (hg.ch.block w.heap.size hnl hnD).trans hN1
  have hc : w1.cell? ⟨w.heap.size, 0, none⟩ = some (.bool false) := blk_cell hb1 rfl
  have hz : w1.frozen? ⟨w.heap.size, 0, none⟩ = false := blk_frozen hb1
  obtain ⟨bb, hbb⟩ : ∃ bb, e = .returned (.bool bb) := by
    rcases hg with ⟨he, _⟩ | ⟨he, _⟩
    · exact ⟨_, he⟩
    · exact ⟨_, he⟩
  subst hbb
  have HG := Lib.hid hg
  clear hg hb1 hN1 hnD hnl
  go_wp2
  refine leaves_cons (f := 84) (args := #[.pointer (some ⟨w.heap.size, 0, none⟩)]) (by simp) (by simp [go_sem]) ?_
  refine (try1_idle ⟨w.heap.size, 0, none⟩ _).mono ?_
  rintro e u' w'' ⟨rfl, rfl, rfl⟩
  have hR : (w1.setCell ⟨w.heap.size, 0, none⟩ (.bool bb)).cell? ⟨w.heap.size, 0, none⟩ = some (.bool bb) := World.cell?_setCell_same _ _ _ hc
  simp [Leaves, settle, results, Tryz.results44, go_sem, hR]
  exact HG.out.under _ hDl

set_option maxHeartbeats 1000000 in
theorem unmarshal_any {ae : Addr} {s : ByteArray} {l : List UInt8} {w : World} (ha : Asked s l) (h6 : w.cell? ⟨6, 0, none⟩ = some (.iface 342 (.pointer (some ae)))) (h6l : 6 < w.heap.size) :
    Calls Tryz.prog 14 #[.string s] w fun e w' => ∃ cs, e = .returned (.tuple #[.agg cs, .bool (runP 1 l).isSome]) ∧ Ses cs ∧ Ch (fun _ => False) w w' := by
  have hmf : ∀ (fn : Fn) (first cap : Array Value) (w : World), (Instr.makeFunc fn first cap).run Tryz.prog w = .ok (.func fn first cap) w := fun _ _ _ _ => rfl
  have hA : Ch (fun _ => False) w (((w.alloc (.cells #[.string s] 9)).alloc (.cells zeroSess 36)).alloc (.cells zeroDesc 108)) := ((Ch.grown (World.grownBy_alloc _ _ none) (by simp)).trans (Ch.grown (World.grownBy_alloc _ _ none) (by simp))).trans (Ch.grown (World.grownBy_alloc _ _ none) (by simp))
  have hT : (((w.alloc (.cells #[.string s] 9)).alloc (.cells zeroSess 36)).alloc (.cells zeroDesc 108)).heap[w.heap.size]? = some (.cells #[.string s] 9 (0, 0)) :=
    (heap_alloc_old _ _ (by simp; omega)).trans ((heap_alloc_old _ _ (by simp)).trans (heap_alloc_new w _))
  have hR : (((w.alloc (.cells #[.string s] 9)).alloc (.cells zeroSess 36)).alloc (.cells zeroDesc 108)).heap[w.heap.size + 1]? = some (.cells zeroSess 36 (0, 0)) := by
    have h1 := heap_alloc_new (w.alloc (.cells #[.string s] 9)) (.cells zeroSess 36)
    rw [World.size_alloc] at h1
    exact (heap_alloc_old _ _ (by simp)).trans h1
  have hD : (((w.alloc (.cells #[.string s] 9)).alloc (.cells zeroSess 36)).alloc (.cells zeroDesc 108)).heap[w.heap.size + 1 + 1]? = some (.cells zeroDesc 108 (0, 0)) := by
    have h1 := heap_alloc_new ((w.alloc (.cells #[.string s] 9)).alloc (.cells zeroSess 36)) (.cells zeroDesc 108)
    simpa using h1
  have h6' := hA.cell h6 id
  go_enter Tryz.func14, Tryz.ntmps14
  go_wp2_with fail
  generalize hW : (((w.alloc (.cells #[.string s] 9)).alloc (.cells zeroSess 36)).alloc (.cells zeroDesc 108)) = W0 at *
  unfold zeroSess zeroDesc at hW
  rw [hW]
  go_at_call 44
  refine (try_any ha hD h6' (by omega) (blk_cell hT rfl)).mono ?_
  intro e W1 hg
  have hR1 := Lib.hid ((hg.ch.block (w.heap.size + 1) (blk_lt hR) (by simp)).trans hR)
  have hDl := Lib.hid (blk_lt hD)
  have hA' := Lib.hid hA
  have HCH := Lib.hid hg.ch
  clear hD hR hT hA h6' hW ha
  rcases hg with ⟨rfl, hs, hg⟩ | ⟨rfl, hs, _⟩
  · have hg1 := Lib.hid hg
    have HS := Lib.hid hs
    clear hg hs
    go_wp2_with fail
    go_at_call 47
    refine (plain_any hg1.out).mono ?_
    rintro e W2 ⟨cs, rfl, hses, hc⟩
    have hR2 := Lib.hid ((hc.block (w.heap.size + 1) (blk_lt hR1.out) id).trans hR1.out)
    have hch := Lib.hid hc
    have HSES := Lib.hid hses
    have hz14 := hses.all
    have hz19 := hses.size
    clear hc hses
    go_wp2_with (refine wpList_store_row rfl 36 (.tmp 2) (.tmp 9) rfl (w.heap.size + 1) cs zeroSess 36 rfl rfl hR2.out (by rw [hz19]; exact Tryz.size36) (by rw [hz19]; rfl) hz14 ?_)
    have hR3 : (W2.setRow (w.heap.size + 1) cs).heap[w.heap.size + 1]? = some (.cells cs 36 (0, 0)) := setRow_heap _ _ _ _ _ _ hR2.out
    have hl := run_loadVar_row (W2.setRow (w.heap.size + 1) cs) (w.heap.size + 1) 36 36 cs (0, 0) _ hR3 Tryz.underlying36 rfl (by rw [hz19]; exact Tryz.size36)
    refine bodyPost_ret (v := .tuple #[.agg cs, .bool true]) (by simp [results, Tryz.results14, asAddr, hl]) rfl ?_
    exact ⟨cs, by rw [HS.out], HSES.out, (((hA'.out.fresh HCH.out (fun k hk => .inl (by omega))).trans hch.out)).setRow (.inl (by omega)) _⟩
  · have HS := Lib.hid hs
    clear hs
    have hz : zeroSess.all (·.oneCell') = true := by as_aux_lemma => kernel_rfl
    go_wp2_with (refine wpList_store_row rfl 36 (.tmp 2) (.tmp 8) rfl (w.heap.size + 1) zeroSess zeroSess 36 rfl rfl hR1.out Tryz.size36 rfl hz ?_)
    have hR3 : (W1.setRow (w.heap.size + 1) zeroSess).heap[w.heap.size + 1]? = some (.cells zeroSess 36 (0, 0)) := setRow_heap _ _ _ _ _ _ hR1.out
    have hl := run_loadVar_row (W1.setRow (w.heap.size + 1) zeroSess) (w.heap.size + 1) 36 36 zeroSess (0, 0) _ hR3 Tryz.underlying36 rfl Tryz.size36
    refine bodyPost_ret (v := .tuple #[.agg zeroSess, .bool false]) (by simp [results, Tryz.results14, asAddr, hl]) rfl ?_
    exact ⟨zeroSess, by rw [HS.out], ses_of rfl hz, (hA'.out.fresh HCH.out (fun k hk => .inl (by omega))).setRow (.inl (by omega)) _⟩
end Go.Proofs.YtimonhimfioohaaGreatDoor

namespace Go.Proofs.YtimonhimfioohaaGreatDoor
open Go.RowKit
open Go.MapKept

theorem under24 : Tryz.prog.underlying 24 = some (.map 5 9) := by kernel_rfl
/-- A key that is not there yet is laid into a new map. -/
theorem ins_at (w : World) {es : Array MapEntry} {n : Nat} {c : Int} {v : Value} (h : Instr.findNow (.int .u8) (.int .u8 c) es.toList 0 = some none) :
    (Instr.mapUpdate 24 (.map (some w.heap.size)) (.int .u8 c) v).run Tryz.prog (w.alloc (.map es n)) = .ok () (w.alloc (.map (es.push ⟨.int .u8 c, v, n⟩) (n + 1))) := by
  have hb : (w.alloc (.map es n)).heap[w.heap.size]? = some (.map es n) := heap_alloc_new _ _
  have hk : IsKey (.int .u8) (.int .u8 c) := rfl
  have hset : ({ w.alloc (.map es n) with heap := (w.alloc (.map es n)).heap.setIfInBounds w.heap.size (.map (es.push ⟨.int .u8 c, v, n⟩) (n + 1)) } : World) = w.alloc (.map (es.push ⟨.int .u8 c, v, n⟩) (n + 1)) := by
    simp only [World.alloc]
    congr 1
    apply Array.ext'
    simp [Array.setIfInBounds, Array.toList_push]
  simp only [Instr.mapUpdate, Sem.run_bind, run_underlying under24, Go.MapKept.run_getObj_map hb, Go.MapKept.run_checkKey Tryz.underlying5 hk false 9999, Go.MapKept.run_findKey Tryz.underlying5 h, Go.MapKept.run_setObj_map _ hb, Result.andThen]
  rw [hset]
theorem look_at (w : World) {es : Array MapEntry} {n : Nat} {c : Int} {r : Option (Nat × Value)} (h : Instr.findNow (.int .u8) (.int .u8 c) es.toList 0 = some r) :
    (Instr.lookup 24 (.map (some w.heap.size)) (.int .u8 c) false).run Tryz.prog (w.alloc (.map es n)) = .ok (match r with | some (_, v) => v | none => .string ⟨#[]⟩) (w.alloc (.map es n)) := by
  have hb : (w.alloc (.map es n)).heap[w.heap.size]? = some (.map es n) := heap_alloc_new _ _
  have hk : IsKey (.int .u8) (.int .u8 c) := rfl
  cases r with
  | none => simp [Instr.lookup, run_underlying under24, Go.MapKept.run_getObj_map hb, Go.MapKept.run_checkKey Tryz.underlying5 hk _ 9999, Go.MapKept.run_findKey Tryz.underlying5 h, Result.andThen]
  | some q => simp [Instr.lookup, run_underlying under24, Go.MapKept.run_getObj_map hb, Go.MapKept.run_checkKey Tryz.underlying5 hk _ 9999, Go.MapKept.run_findKey Tryz.underlying5 h, Result.andThen]

theorem wp_ins {o : Oper} {a : Act} {w : World} {es : Array MapEntry} {n : Nat} {c : Int} {v : Value} {K : Act → World → Prop} {Q : Exit → Act → World → Prop} (m : Operand) (ho : o.op = .insert 24 m (.const (.int .u8 c)) (.const v))
    (hm : a.eval m = .map (some w.heap.size)) (hf : Instr.findNow (.int .u8) (.int .u8 c) es.toList 0 = some none) (h : K (a.put o.dst undef) (w.alloc (.map (es.push ⟨.int .u8 c, v, n⟩) (n + 1)))) : o.wp Tryz.prog a (w.alloc (.map es n)) K Q := by
  have h1 : a.eval (.const (.int .u8 c)) = .int .u8 c := rfl
  have h2 : a.eval (.const v) = v := rfl
  unfold Oper.wp execOp
  simp only [ho, hm, h1, h2, Sem.run_bind, Sem.run_pure, Result.andThen_ok, ins_at w hf]
  exact h
theorem wpList_ins {ops : Array Oper} {rest : List Oper} {o : Oper} {a : Act} {w : World} {es : Array MapEntry} {n : Nat} {c : Int} {v : Value} {Q : Exit → Act → World → Prop} (hgd : o.guard = none) (m : Operand) (ho : o.op = .insert 24 m (.const (.int .u8 c)) (.const v))
    (hm : a.eval m = .map (some w.heap.size)) (hf : Instr.findNow (.int .u8) (.int .u8 c) es.toList 0 = some none) (h : wpList Tryz.prog ops Q rest (a.put o.dst undef) (w.alloc (.map (es.push ⟨.int .u8 c, v, n⟩) (n + 1)))) : wpList Tryz.prog ops Q (o :: rest) a (w.alloc (.map es n)) :=
  wpList_plain hgd fun _ hK => wp_ins m ho hm hf (hK _ _ h)

/-- The map of the lines. -/
def lineMap : Array MapEntry := #[⟨.int .u8 118, .string ⟨#[48]⟩, 0⟩, ⟨.int .u8 111, .string ⟨#[45, 32, 49, 32, 49, 32, 73, 78, 32, 73, 80, 52, 32, 97]⟩, 1⟩, ⟨.int .u8 115, .string ⟨#[120]⟩, 2⟩, ⟨.int .u8 105, .string ⟨#[121]⟩, 3⟩, ⟨.int .u8 117, .string ⟨#[104, 116, 116, 112, 58, 47, 47, 97]⟩, 4⟩, ⟨.int .u8 101, .string ⟨#[97]⟩, 5⟩, ⟨.int .u8 112, .string ⟨#[49]⟩, 6⟩, ⟨.int .u8 99, .string ⟨#[73, 78, 32, 73, 80, 52, 32, 97]⟩, 7⟩, ⟨.int .u8 98, .string ⟨#[65, 83, 58, 49]⟩, 8⟩, ⟨.int .u8 116, .string ⟨#[48, 32, 48]⟩, 9⟩, ⟨.int .u8 114, .string ⟨#[49, 32, 49, 32, 48]⟩, 10⟩, ⟨.int .u8 122, .string ⟨#[49, 32, 49]⟩, 11⟩, ⟨.int .u8 107, .string ⟨#[112, 114, 111, 109, 112, 116]⟩, 12⟩, ⟨.int .u8 97, .string ⟨#[98]⟩, 13⟩, ⟨.int .u8 109, .string ⟨#[97, 117, 100, 105, 111, 32, 49, 32, 82, 84, 80, 47, 65, 86, 80, 32, 48]⟩, 14⟩]
theorem line_at (w : World) (c : UInt8) :
    (Instr.lookup 24 (.map (some w.heap.size)) (.int .u8 c.toNat) false).run Tryz.prog (w.alloc (.map lineMap 15)) = .ok (.string ⟨(lineOf c).toArray⟩) (w.alloc (.map lineMap 15)) := by
  by_cases g0 : c = 118
  · subst g0
    exact look_at w (es := lineMap) (n := 15) (c := 118) (r := some (0, .string ⟨#[48]⟩)) rfl
  by_cases g1 : c = 111
  · subst g1
    exact look_at w (es := lineMap) (n := 15) (c := 111) (r := some (1, .string ⟨#[45, 32, 49, 32, 49, 32, 73, 78, 32, 73, 80, 52, 32, 97]⟩)) rfl
  by_cases g2 : c = 115
  · subst g2
    exact look_at w (es := lineMap) (n := 15) (c := 115) (r := some (2, .string ⟨#[120]⟩)) rfl
  by_cases g3 : c = 105
  · subst g3
    exact look_at w (es := lineMap) (n := 15) (c := 105) (r := some (3, .string ⟨#[121]⟩)) rfl
  by_cases g4 : c = 117
  · subst g4
    exact look_at w (es := lineMap) (n := 15) (c := 117) (r := some (4, .string ⟨#[104, 116, 116, 112, 58, 47, 47, 97]⟩)) rfl
  by_cases g5 : c = 101
  · subst g5
    exact look_at w (es := lineMap) (n := 15) (c := 101) (r := some (5, .string ⟨#[97]⟩)) rfl
  by_cases g6 : c = 112
  · subst g6
    exact look_at w (es := lineMap) (n := 15) (c := 112) (r := some (6, .string ⟨#[49]⟩)) rfl
  by_cases g7 : c = 99
  · subst g7
    exact look_at w (es := lineMap) (n := 15) (c := 99) (r := some (7, .string ⟨#[73, 78, 32, 73, 80, 52, 32, 97]⟩)) rfl
  by_cases g8 : c = 98
  · subst g8
    exact look_at w (es := lineMap) (n := 15) (c := 98) (r := some (8, .string ⟨#[65, 83, 58, 49]⟩)) rfl
  by_cases g9 : c = 116
  · subst g9
    exact look_at w (es := lineMap) (n := 15) (c := 116) (r := some (9, .string ⟨#[48, 32, 48]⟩)) rfl
  by_cases g10 : c = 114
  · subst g10
    exact look_at w (es := lineMap) (n := 15) (c := 114) (r := some (10, .string ⟨#[49, 32, 49, 32, 48]⟩)) rfl
  by_cases g11 : c = 122
  · subst g11
    exact look_at w (es := lineMap) (n := 15) (c := 122) (r := some (11, .string ⟨#[49, 32, 49]⟩)) rfl
  by_cases g12 : c = 107
  · subst g12
    exact look_at w (es := lineMap) (n := 15) (c := 107) (r := some (12, .string ⟨#[112, 114, 111, 109, 112, 116]⟩)) rfl
  by_cases g13 : c = 97
  · subst g13
    exact look_at w (es := lineMap) (n := 15) (c := 97) (r := some (13, .string ⟨#[98]⟩)) rfl
  by_cases g14 : c = 109
  · subst g14
    exact look_at w (es := lineMap) (n := 15) (c := 109) (r := some (14, .string ⟨#[97, 117, 100, 105, 111, 32, 49, 32, 82, 84, 80, 47, 65, 86, 80, 32, 48]⟩)) rfl
  have hno : Instr.findNow (.int .u8) (.int .u8 (c.toNat : Int)) lineMap.toList 0 = some none := by
    have hne : ∀ d : UInt8, c ≠ d → (((c.toNat : Nat) : Int) == ((d.toNat : Nat) : Int)) = false := fun d h => ne_int h rfl
    simp only [lineMap, Instr.findNow, Instr.sameNow, if_true]
    rw [show (((c.toNat : Nat) : Int) == 118) = false from hne 118 g0]
    simp only []
    rw [show (((c.toNat : Nat) : Int) == 111) = false from hne 111 g1]
    simp only []
    rw [show (((c.toNat : Nat) : Int) == 115) = false from hne 115 g2]
    simp only []
    rw [show (((c.toNat : Nat) : Int) == 105) = false from hne 105 g3]
    simp only []
    rw [show (((c.toNat : Nat) : Int) == 117) = false from hne 117 g4]
    simp only []
    rw [show (((c.toNat : Nat) : Int) == 101) = false from hne 101 g5]
    simp only []
    rw [show (((c.toNat : Nat) : Int) == 112) = false from hne 112 g6]
    simp only []
    rw [show (((c.toNat : Nat) : Int) == 99) = false from hne 99 g7]
    simp only []
    rw [show (((c.toNat : Nat) : Int) == 98) = false from hne 98 g8]
    simp only []
    rw [show (((c.toNat : Nat) : Int) == 116) = false from hne 116 g9]
    simp only []
    rw [show (((c.toNat : Nat) : Int) == 114) = false from hne 114 g10]
    simp only []
    rw [show (((c.toNat : Nat) : Int) == 122) = false from hne 122 g11]
    simp only []
    rw [show (((c.toNat : Nat) : Int) == 107) = false from hne 107 g12]
    simp only []
    rw [show (((c.toNat : Nat) : Int) == 97) = false from hne 97 g13]
    simp only []
    rw [show (((c.toNat : Nat) : Int) == 109) = false from hne 109 g14]
  have h := look_at w (es := lineMap) (n := 15) hno
  rw [h]
  simp [lineOf, g0, g1, g2, g3, g4, g5, g6, g7, g8, g9, g10, g11, g12, g13, g14]

theorem encode_all : ∀ c : Fin 256, (lineOf (UInt8.ofNat c.val)).isEmpty = true ∨ Utf8.encode ((UInt8.ofNat c.val).toNat : Int) = ⟨#[UInt8.ofNat c.val]⟩ := by decide +kernel
theorem encode_at {c : UInt8} (h : knownL c) : Utf8.encode (c.toNat : Int) = ⟨#[c]⟩ := by
  have h1 := encode_all ⟨c.toNat, c.toNat_lt⟩
  simp only [UInt8.ofNat_toNat] at h1
  exact h1.resolve_left fun e => h (List.isEmpty_iff.1 e)
theorem add_str (w : World) (a b : ByteArray) (h : a.size + b.size ≤ 9223372036854775807) : (binOp .add 9 (.string a) (.string b)).run Tryz.prog w = .ok (.string (a ++ b)) w := by
  simp [binOp, run_string_add_sum w a b h]
theorem wpList_add {ops : Array Oper} {rest : List Oper} {o : Oper} {a : Act} {w : World} {A B X : ByteArray} {Q : Exit → Act → World → Prop} (hgd : o.guard = none) (x y : Operand) (ho : o.op = .binOp .add 9 x y 9)
    (hx : a.eval x = .string A) (hy : a.eval y = .string B) (hsz : A.size + B.size ≤ 4000) (hX : A ++ B = X) (h : wpList Tryz.prog ops Q rest (a.put o.dst (.string X)) w) : wpList Tryz.prog ops Q (o :: rest) a w := by
  refine wpList_plain hgd fun K hK => ?_
  have h1 := hK _ _ h
  unfold Oper.wp execOp
  have hq : (eqGuard .add 9 x y (.string A) (.string B)).run Tryz.prog w = .ok () w := rfl
  simp only [ho, hx, hy, Sem.run_bind, Sem.run_pure, Result.andThen_ok, hq, add_str w A B (Nat.le_trans hsz (by decide)), hX]
  exact h1
theorem text_snoc : ∀ (l : List UInt8) (c : UInt8), textOf (l ++ [c]) = textOf l ++ c :: 61 :: (lineOf c ++ [13, 10])
  | [], c => rfl
  | d :: l, c => by simp [textOf, text_snoc l c]

/-- Where it is told, the parser takes the types that make a description, and ends behind a time. -/
theorem told_late {l : List UInt8} (h : toldS l) : (runP 1 l).isSome = acceptsS l ∧ ∀ q, runP 1 l = some q → q = 9 ∨ 11 ≤ q := by
  have h1 := told_law h
  refine ⟨h1, fun q hq => ?_⟩
  rw [hq] at h1
  unfold acceptsS at h1
  cases hr : runS 0 l with
  | none => rw [hr] at h1; cases h1
  | some s =>
    rw [hr] at h1
    have h2 : 10 ≤ s := by simpa using h1.symm
    obtain ⟨h3, h4, _⟩ := run_ok l 0 s (by omega) hr
    have h5 : q = mapS s := by
      have h6 : runP 1 l = some (mapS s) := h3
      rw [hq] at h6
      exact Option.some.inj h6
    subst h5
    have : s = 10 ∨ s = 11 ∨ s = 12 ∨ s = 13 ∨ s = 14 ∨ s = 15 ∨ s = 16 ∨ s = 17 ∨ s = 18 ∨ s = 19 := by omega
    rcases this with rfl | rfl | rfl | rfl | rfl | rfl | rfl | rfl | rfl | rfl <;> simp [mapS]

set_option maxRecDepth 100000 in
set_option maxHeartbeats 16000000 in
theorem fnLanguage_walk {ae : Addr} {t : ByteArray} {w : World} (h6 : w.cell? ⟨6, 0, none⟩ = some (.iface 342 (.pointer (some ae)))) (h6l : 6 < w.heap.size) :
    Calls Tryz.prog 3 #[.string t] w fun e w' => e = .returned (.bool true) ∧ Ch (fun _ => False) w w' := by
  go_enter Tryz.func3, Tryz.ntmps3
  by_cases hs : 2147483647 < t.size
  · go_wp2
    go_ret
    exact ⟨rfl, Ch.refl _ _⟩
  have HWK := Lib.hid (fun W (hc : Ch (fun _ => False) w W) => works_true (w := W) (hc.cell h6 id) (Nat.lt_of_lt_of_le h6l hc.size))
  by_cases hs60 : 60 < t.size
  · go_wp2_with fail
    refine (HWK.out _ (Ch.refl _ _)).mono ?_
    rintro e w1 ⟨rfl, hc⟩
    have HC := Lib.hid hc
    clear hc
    go_wp2
    go_ret
    exact ⟨rfl, HC.out⟩
  go_wp2_with fail
  refine (told_any (t := t) (by omega) w).mono ?_
  rintro e w1 ⟨⟨r, rfl, hr⟩, hc1⟩
  have HC1 := Lib.hid hc1
  have HTOLD := Lib.hid hr
  clear hr hc1
  cases r with
  | false =>
    go_wp2_with fail
    refine (HWK.out _ HC1.out).mono ?_
    rintro e w2 ⟨rfl, hc2⟩
    have HC2 := Lib.hid (HC1.out.trans hc2)
    clear hc2
    go_wp2
    go_ret
    exact ⟨rfl, HC2.out⟩
  | true =>
    have HT := Lib.hid (HTOLD.out rfl)
    obtain ⟨n, hn⟩ : ∃ n, t.size = n := ⟨_, rfl⟩
    have HN := Lib.hid hn
    go_wp2_with fail
    rw [hn] at hs hs60
    clear hn
    go_loopg [3, 4, 5, 22] n (fun g s3 _ _ x wr => ∃ j : Nat, g = n - j ∧ j ≤ n ∧ x = .int .i64 j ∧ ∃ T : ByteArray, s3 = .string T ∧ T.data.toList = textOf (t.data.toList.take j) ∧ (∀ c ∈ t.data.toList.take j, knownL c) ∧ Ch (fun _ => False) w wr)
    case atStart => exact ⟨0, rfl, Nat.zero_le _, rfl, _, rfl, rfl, by simp, HC1.out⟩
    case round =>
      obtain ⟨j, hg, hj, rfl, T, rfl, hT, hk, hch⟩ := hrel
      have HG := Lib.hid hg
      have HTX := Lib.hid hT
      have HK := Lib.hid hk
      have HCH := Lib.hid hch
      clear hg hT hk hch
      by_cases hlt : j < n
      · have hmm := run_makeMap (P := Tryz.prog) 24 wr
        have hjt : j < t.size := by rw [HN.out]; exact hlt
        obtain ⟨c, hc⟩ : ∃ c, t[j] = c := ⟨_, rfl⟩
        have HCC := Lib.hid hc
        go_wp2_with (refine wpList_ins rfl (.tmp 25) rfl rfl rfl ?_)
        obtain ⟨lb, hlb⟩ : ∃ lb : ByteArray, (⟨(lineOf c).toArray⟩ : ByteArray) = lb := ⟨_, rfl⟩
        have HLB := Lib.hid hlb
        have hlk := line_at wr c
        unfold lineMap at hlk
        rw [hlb] at hlk
        have hcm : Ch (fun _ => False) wr (wr.alloc (.map lineMap 15)) := Ch.grown (World.grownBy_alloc _ _ none) (by simp)
        unfold lineMap at hcm
        obtain ⟨W1, hW1⟩ : ∃ W1, wr.alloc (.map lineMap 15) = W1 := ⟨_, rfl⟩
        unfold lineMap at hW1
        rw [hW1] at hlk hcm ⊢
        rw [hlk]
        have HCM := Lib.hid (HCH.out.trans hcm)
        clear hcm hlb hlk hW1
        by_cases hkn : lineOf c = []
        · have hlb0 : lb = ⟨#[]⟩ := by rw [← HLB.out, hkn]
          subst hlb0
          go_wp2_with fail
          refine (HWK.out _ HCM.out).mono ?_
          rintro e w2 ⟨rfl, hc2⟩
          have HC2 := Lib.hid (HCM.out.trans hc2)
          clear hc2
          go_wp2
          refine bodyPost_ret (v := .bool true) (by simp [results, Tryz.results3]) rfl ?_
          exact ⟨rfl, HC2.out⟩
        · have hq3 : lb.toList.isEmpty = false := by
            rw [ByteArray.toList_eq, ← HLB.out]
            cases hl : lineOf c with
            | nil => exact absurd hl hkn
            | cons x y => rfl
          go_upto_region 12 with fail
          have he := encode_at hkn
          clear hq3
          have hszl : lb.size ≤ 17 := by
            rw [← HLB.out]
            simpa [ByteArray.size] using (known_at hkn).2
          have hszT : T.size ≤ 1260 := by
            have h1 : T.size = T.data.toList.length := by simp
            have h2 := text_len _ HK.out
            rw [h1, HTX.out]
            simp at h2
            omega
          obtain ⟨x1, hx1⟩ : ∃ x : ByteArray, (⟨#[c]⟩ : ByteArray) ++ ⟨#[61]⟩ = x := ⟨_, rfl⟩
          obtain ⟨x2, hx2⟩ : ∃ x : ByteArray, x1 ++ lb = x := ⟨_, rfl⟩
          obtain ⟨x3, hx3⟩ : ∃ x : ByteArray, x2 ++ ⟨#[13, 10]⟩ = x := ⟨_, rfl⟩
          obtain ⟨x4, hx4⟩ : ∃ x : ByteArray, T ++ x3 = x := ⟨_, rfl⟩
          have s1 : x1.size = 2 := by rw [← hx1]; rfl
          have s2 : x2.size = x1.size + lb.size := by rw [← hx2, ByteArray.size_append]
          have s3 : x3.size = x2.size + 2 := by rw [← hx3, ByteArray.size_append]; rfl
          have s4 : x4.size = T.size + x3.size := by rw [← hx4, ByteArray.size_append]
          have b1 : (Utf8.encode (c.toNat : Int)).size + (⟨#[61]⟩ : ByteArray).size ≤ 4000 := by rw [he]; show 1 + 1 ≤ _; omega
          have b2 : x1.size + lb.size ≤ 4000 := by omega
          have b3 : x2.size + (⟨#[13, 10]⟩ : ByteArray).size ≤ 4000 := by show x2.size + 2 ≤ _; omega
          have b4 : T.size + x3.size ≤ 4000 := by omega
          have e1 : Utf8.encode (c.toNat : Int) ++ (⟨#[61]⟩ : ByteArray) = x1 := by rw [he]; exact hx1
          have HB := Lib.hid (And.intro b1 (And.intro b2 (And.intro b3 (And.intro b4 (And.intro e1 (And.intro hx2 (And.intro hx3 hx4)))))))
          have HX4 := Lib.hid (show x4.data.toList = textOf (t.data.toList.take (j + 1)) by
            rw [← hx4, ← hx3, ← hx2, ← hx1, ← HLB.out]
            have hjl : j < t.data.toList.length := by simpa using hjt
            have hcl : t.data.toList[j] = c := by rw [← HCC.out]; rfl
            rw [List.take_succ_eq_append_getElem hjl, hcl, text_snoc, ← HTX.out]
            simp)
          have HK4 := Lib.hid (show ∀ d ∈ t.data.toList.take (j + 1), knownL d by
            have hjl : j < t.data.toList.length := by simpa using hjt
            have hcl : t.data.toList[j] = c := by rw [← HCC.out]; rfl
            rw [List.take_succ_eq_append_getElem hjl, hcl]
            intro d hd
            rcases List.mem_append.1 hd with hd | hd
            · exact HK.out d hd
            · rw [List.mem_singleton.1 hd]; exact hkn)
          clear hx1 hx2 hx3 hx4 s1 s2 s3 s4 hszl hszT he b1 b2 b3 b4 e1
          go_wp2_with (first | (refine wpList_add rfl (.tmp 38) (.const (.string ⟨#[61]⟩)) rfl rfl rfl HB.out.1 HB.out.2.2.2.2.1 ?_) | (refine wpList_add rfl (.tmp 39) (.tmp 40) rfl rfl rfl HB.out.2.1 HB.out.2.2.2.2.2.1 ?_) | (refine wpList_add rfl (.tmp 41) (.const (.string ⟨#[13, 10]⟩)) rfl rfl rfl HB.out.2.2.1 HB.out.2.2.2.2.2.2.1 ?_) | (refine wpList_add rfl (.tmp 34) (.tmp 42) rfl rfl rfl HB.out.2.2.2.1 HB.out.2.2.2.2.2.2.2 ?_))
          go_roundg (n - (j + 1))
          case measure => have := HG.out; omega
          case rel => exact ⟨j + 1, rfl, by omega, by simp, x4, rfl, HX4.out, HK4.out, HCM.out⟩
      · have hjn : j = n := by omega
        subst hjn
        have hlen : t.data.toList.length = j := by have := HN.out; simpa using this
        have htk : t.data.toList.take j = t.data.toList := List.take_of_length_le (by omega)
        have hkk := HK.out
        rw [htk] at hkk
        have HA := Lib.hid (show Asked T t.data.toList from ⟨by rw [HTX.out, htk], by omega, hkk, (told_late HT.out).2⟩)
        have HUN := Lib.hid (unmarshal_any (ae := ae) HA.out (HCH.out.cell h6 id) (Nat.lt_of_lt_of_le h6l HCH.out.size))
        have HAC := Lib.hid (fun W => accepts_any (t := t) (by omega) W)
        obtain ⟨b, hb⟩ : ∃ b, acceptsS t.data.toList = b := ⟨_, rfl⟩
        have HB1 := Lib.hid hb
        have HB2 := Lib.hid ((told_late HT.out).1.trans hb)
        clear hb hkk htk hlen
        go_wp2_with fail
        go_at_call 14
        refine HUN.out.mono ?_
        rintro e W1 ⟨cs, rfl, hses, hc⟩
        have HUC := HCH.out.trans hc
        have hz14 := hses.all
        have hz19 := hses.size
        have hR2 : (W1.alloc (.cells zeroSess 36)).heap[W1.heap.size]? = some (.cells zeroSess 36 (0, 0)) := heap_alloc_new _ _
        have hA : Ch (fun _ => False) w (W1.alloc (.cells zeroSess 36)) := HUC.trans (Ch.grown (World.grownBy_alloc _ _ none) (by simp))
        have hA3 := Lib.hid (hA.setRow (k := W1.heap.size) (.inl HUC.size) cs)
        rw [HB2.out]
        clear hc hses hA HUC
        generalize hW : W1.alloc (.cells zeroSess 36) = W2 at *
        unfold zeroSess at hW
        go_upto_region 15 with (refine wpList_store_row rfl 36 (.tmp 6) (.tmp 48) rfl W1.heap.size cs zeroSess 36 rfl rfl hR2 (by rw [hz19]; exact Tryz.size36) (by rw [hz19]; rfl) hz14 ?_)
        clear hR2 hW
        go_wp2_with fail
        go_at_call 15
        refine (HAC.out _).mono ?_
        rintro e w1 ⟨rfl, hc⟩
        have HC2 := Lib.hid (hA3.out.trans hc)
        clear hc
        rw [HB1.out]
        cases b <;> (
        go_wp2_with fail
        refine (HWK.out _ HC2.out).mono ?_
        rintro e w2 ⟨rfl, hc2⟩
        have HC3 := Lib.hid (HC2.out.trans hc2)
        clear hc2
        go_wp2
        refine bodyPost_ret (v := .bool true) (by simp [results, Tryz.results3]) rfl ?_
        exact ⟨rfl, HC3.out⟩)
end Go.Proofs.YtimonhimfioohaaGreatDoor
