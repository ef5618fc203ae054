/- Line handlers of a session that keep one text behind a pointer: information, e-mail, phone, key. -/
import Derived.Test.YtimonhimfioohaaGreatDoorOrig
import Derived.Test.YtimonhimfioohaaGreatDoorSource
import Derived.Test.YtimonhimfioohaaGreatDoorAppReg

namespace Go.Proofs.YtimonhimfioohaaGreatDoor
open Go.RowKit

section
variable {ae : Addr} {S : Nat → Prop} {L D C : Nat} {s : ByteArray} {w0 : World} {cs : Array Value} {i : Nat} {w : World}

/-- 'i=y'. -/
theorem info_line (h : St ae S L D C s w0 cs i w) {r : List UInt8} (hl : s.data.toList.drop i = 121 :: 13 :: 10 :: r) :
    Calls Tryz.prog 204 #[.pointer (some ⟨L, 0, none⟩)] w fun e w' => e = .returned (.tuple #[.func (.func 211) #[] #[], .nilIface]) ∧
      ∃ b, St ae S L D C s w0 (cs.setIfInBounds 8 (.pointer (some ⟨b, 0, none⟩))) (i + 3) w' ∧ w'.heap[b]? = some (.cells #[.string ⟨#[121]⟩] 179 (0, 0)) ∧ w.heap.size ≤ b := by
  have hn : lead notLf (s.data.toList.drop i) = 2 := by rw [hl]; rfl
  have hlen : i + 3 ≤ s.size := drop_len hl (by simp) h.le
  have hst : (⟨((s.data.toList.drop i).take (2 - crs s i 2)).toArray⟩ : ByteArray) = ⟨#[121]⟩ := by
    unfold crs; rw [hl]; rfl
  have hline := line_ok h.lx hn (by omega)
  rw [hst] at hline
  have H := Lib.hid h
  have HLine := Lib.hid hline
  clear h hn hl hst hline
  go_enter Tryz.func204, Tryz.ntmps204
  go_wp2_with fail
  refine HLine.out.mono ?_
  rintro e w1 ⟨rfl, hm1⟩
  have h1 := (H.out.mv hm1 hlen).alloc (.cells #[.string ⟨#[121]⟩] 179)
  have hp := h1.p0
  have hf := h1.fz 8
  obtain ⟨v8, hc⟩ := h1.dc 8 (by decide)
  have hsz : w.heap.size ≤ w1.heap.size := by rw [hm1.heap]; simp [World.setCell]
  have hnew : (w1.alloc (.cells #[.string ⟨#[121]⟩] 179)).heap[w1.heap.size]? = some (.cells #[.string ⟨#[121]⟩] 179 (0, 0)) := heap_alloc_new _ _
  have hne : D ≠ w1.heap.size := by
    have := blk_lt (H.out.mv hm1 hlen).desc
    omega
  have H1 := Lib.hid h1
  have HN := Lib.hid hnew
  have HNE := Lib.hid hne
  have HS := Lib.hid hsz
  clear hm1 h1 hsz hnew hne
  go_wp2_with fail
  go_ret2
  exact ⟨rfl, _, H1.out.set 8 _, (blk_set_other _ HNE.out).trans HN.out, HS.out⟩

/-- 'e=a'. -/
theorem email_line (h : St ae S L D C s w0 cs i w) {r : List UInt8} (hl : s.data.toList.drop i = 97 :: 13 :: 10 :: r) :
    Calls Tryz.prog 206 #[.pointer (some ⟨L, 0, none⟩)] w fun e w' => e = .returned (.tuple #[.func (.func 213) #[] #[], .nilIface]) ∧
      ∃ b, St ae S L D C s w0 (cs.setIfInBounds 10 (.pointer (some ⟨b, 0, none⟩))) (i + 3) w' ∧ w'.heap[b]? = some (.cells #[.string ⟨#[97]⟩] 181 (0, 0)) ∧ w.heap.size ≤ b := by
  have hn : lead notLf (s.data.toList.drop i) = 2 := by rw [hl]; rfl
  have hlen : i + 3 ≤ s.size := drop_len hl (by simp) h.le
  have hst : (⟨((s.data.toList.drop i).take (2 - crs s i 2)).toArray⟩ : ByteArray) = ⟨#[97]⟩ := by
    unfold crs; rw [hl]; rfl
  have hline := line_ok h.lx hn (by omega)
  rw [hst] at hline
  have H := Lib.hid h
  have HLine := Lib.hid hline
  clear h hn hl hst hline
  go_enter Tryz.func206, Tryz.ntmps206
  go_wp2_with fail
  refine HLine.out.mono ?_
  rintro e w1 ⟨rfl, hm1⟩
  have h1 := (H.out.mv hm1 hlen).alloc (.cells #[.string ⟨#[97]⟩] 181)
  have hp := h1.p0
  have hf := h1.fz 10
  obtain ⟨v8, hc⟩ := h1.dc 10 (by decide)
  have hsz : w.heap.size ≤ w1.heap.size := by rw [hm1.heap]; simp [World.setCell]
  have hnew : (w1.alloc (.cells #[.string ⟨#[97]⟩] 181)).heap[w1.heap.size]? = some (.cells #[.string ⟨#[97]⟩] 181 (0, 0)) := heap_alloc_new _ _
  have hne : D ≠ w1.heap.size := by
    have := blk_lt (H.out.mv hm1 hlen).desc
    omega
  have H1 := Lib.hid h1
  have HN := Lib.hid hnew
  have HNE := Lib.hid hne
  have HS := Lib.hid hsz
  clear hm1 h1 hsz hnew hne
  go_wp2_with fail
  go_ret2
  exact ⟨rfl, _, H1.out.set 10 _, (blk_set_other _ HNE.out).trans HN.out, HS.out⟩

/-- 'p=1'. -/
theorem phone_line (h : St ae S L D C s w0 cs i w) {r : List UInt8} (hl : s.data.toList.drop i = 49 :: 13 :: 10 :: r) :
    Calls Tryz.prog 207 #[.pointer (some ⟨L, 0, none⟩)] w fun e w' => e = .returned (.tuple #[.func (.func 214) #[] #[], .nilIface]) ∧
      ∃ b, St ae S L D C s w0 (cs.setIfInBounds 11 (.pointer (some ⟨b, 0, none⟩))) (i + 3) w' ∧ w'.heap[b]? = some (.cells #[.string ⟨#[49]⟩] 183 (0, 0)) ∧ w.heap.size ≤ b := by
  have hn : lead notLf (s.data.toList.drop i) = 2 := by rw [hl]; rfl
  have hlen : i + 3 ≤ s.size := drop_len hl (by simp) h.le
  have hst : (⟨((s.data.toList.drop i).take (2 - crs s i 2)).toArray⟩ : ByteArray) = ⟨#[49]⟩ := by
    unfold crs; rw [hl]; rfl
  have hline := line_ok h.lx hn (by omega)
  rw [hst] at hline
  have H := Lib.hid h
  have HLine := Lib.hid hline
  clear h hn hl hst hline
  go_enter Tryz.func207, Tryz.ntmps207
  go_wp2_with fail
  refine HLine.out.mono ?_
  rintro e w1 ⟨rfl, hm1⟩
  have h1 := (H.out.mv hm1 hlen).alloc (.cells #[.string ⟨#[49]⟩] 183)
  have hp := h1.p0
  have hf := h1.fz 11
  obtain ⟨v8, hc⟩ := h1.dc 11 (by decide)
  have hsz : w.heap.size ≤ w1.heap.size := by rw [hm1.heap]; simp [World.setCell]
  have hnew : (w1.alloc (.cells #[.string ⟨#[49]⟩] 183)).heap[w1.heap.size]? = some (.cells #[.string ⟨#[49]⟩] 183 (0, 0)) := heap_alloc_new _ _
  have hne : D ≠ w1.heap.size := by
    have := blk_lt (H.out.mv hm1 hlen).desc
    omega
  have H1 := Lib.hid h1
  have HN := Lib.hid hnew
  have HNE := Lib.hid hne
  have HS := Lib.hid hsz
  clear hm1 h1 hsz hnew hne
  go_wp2_with fail
  go_ret2
  exact ⟨rfl, _, H1.out.set 11 _, (blk_set_other _ HNE.out).trans HN.out, HS.out⟩

/-- 'k=prompt'. -/
theorem key_line (h : St ae S L D C s w0 cs i w) {r : List UInt8} (hl : s.data.toList.drop i = 112 :: 114 :: 111 :: 109 :: 112 :: 116 :: 13 :: 10 :: r) :
    Calls Tryz.prog 225 #[.pointer (some ⟨L, 0, none⟩)] w fun e w' => e = .returned (.tuple #[.func (.func 230) #[] #[], .nilIface]) ∧
      ∃ b, St ae S L D C s w0 (cs.setIfInBounds 16 (.pointer (some ⟨b, 0, none⟩))) (i + 8) w' ∧ w'.heap[b]? = some (.cells #[.string ⟨#[112, 114, 111, 109, 112, 116]⟩] 187 (0, 0)) ∧ w.heap.size ≤ b := by
  have hn : lead notLf (s.data.toList.drop i) = 7 := by rw [hl]; rfl
  have hlen : i + 8 ≤ s.size := drop_len hl (by simp) h.le
  have hst : (⟨((s.data.toList.drop i).take (7 - crs s i 7)).toArray⟩ : ByteArray) = ⟨#[112, 114, 111, 109, 112, 116]⟩ := by
    unfold crs; rw [hl]; rfl
  have hline := line_ok h.lx hn (by omega)
  rw [hst] at hline
  have H := Lib.hid h
  have HLine := Lib.hid hline
  clear h hn hl hst hline
  go_enter Tryz.func225, Tryz.ntmps225
  go_wp2_with fail
  refine HLine.out.mono ?_
  rintro e w1 ⟨rfl, hm1⟩
  have h1 := (H.out.mv hm1 hlen).alloc (.cells #[.string ⟨#[112, 114, 111, 109, 112, 116]⟩] 187)
  have hp := h1.p0
  have hf := h1.fz 16
  obtain ⟨v8, hc⟩ := h1.dc 16 (by decide)
  have hsz : w.heap.size ≤ w1.heap.size := by rw [hm1.heap]; simp [World.setCell]
  have hnew : (w1.alloc (.cells #[.string ⟨#[112, 114, 111, 109, 112, 116]⟩] 187)).heap[w1.heap.size]? = some (.cells #[.string ⟨#[112, 114, 111, 109, 112, 116]⟩] 187 (0, 0)) := heap_alloc_new _ _
  have hne : D ≠ w1.heap.size := by
    have := blk_lt (H.out.mv hm1 hlen).desc
    omega
  have H1 := Lib.hid h1
  have HN := Lib.hid hnew
  have HNE := Lib.hid hne
  have HS := Lib.hid hsz
  clear hm1 h1 hsz hnew hne
  go_wp2_with fail
  go_ret2
  exact ⟨rfl, _, H1.out.set 16 _, (blk_set_other _ HNE.out).trans HN.out, HS.out⟩

end
end Go.Proofs.YtimonhimfioohaaGreatDoor

namespace Go.Proofs.YtimonhimfioohaaGreatDoor
open Go.RowKit

/-- F stays true whatever changes in the blocks that meet X, and behind the heap's end. -/
def Keeps (F : World → Prop) (X : Nat → Prop) (W : World) : Prop := ∀ W', Ch X W W' → F W'

section
variable {F G : World → Prop} {X Y : Nat → Prop} {W W' : World}
theorem Keeps.now (h : Keeps F X W) : F W := h W (Ch.refl _ _)
theorem Keeps.step (h : Keeps F X W) (hc : Ch X W W') (hY : ∀ k, Y k → W.heap.size ≤ k ∨ X k) : Keeps F Y W' := fun W'' hc' => h W'' (hc.fresh hc' hY)
theorem Keeps.same (h : Keeps F X W) (hc : Ch X W W') : Keeps F X W' := h.step hc fun _ hk => .inr hk
theorem Keeps.and (h : Keeps F X W) (k : Keeps G X W) : Keeps (fun W => F W ∧ G W) X W := fun W' hc => ⟨h W' hc, k W' hc⟩
theorem Keeps.imp (h : Keeps F X W) (hFG : ∀ W, F W → G W) : Keeps G X W := fun W' hc => hFG _ (h W' hc)
theorem Keeps.less (h : Keeps F X W) (hY : ∀ k, Y k → X k) : Keeps F Y W := fun W' hc => h W' (hc.mono hY)
theorem Keeps.triv (X : Nat → Prop) (W : World) {P : Prop} (h : P) : Keeps (fun _ => P) X W := fun _ _ => h
end

/-- No block that meets X has the type T. -/
def NotT (W : World) (X : Nat → Prop) (T : TypeId) : Prop := ∀ k cs fr, X k → W.heap[k]? ≠ some (.cells cs T fr)

section
variable {X Y : Nat → Prop} {W W' : World} {T : TypeId}
theorem NotT.or (h : NotT W X T) (k : NotT W Y T) : NotT W (fun i => X i ∨ Y i) T := fun i cs fr hx => hx.elim (h i cs fr) (k i cs fr)
theorem NotT.one {b : Nat} {cs : Array Value} {T' : TypeId} {fr : Nat × Nat} (h : W.heap[b]? = some (.cells cs T' fr)) (hT : T' ≠ T) : NotT W (fun i => i = b) T := fun _ _ _ hi he => by
  subst hi
  rw [h] at he
  cases he
  exact hT rfl
theorem NotT.own {b e size n : Nat} {v : Value} {xs : List Value} (h : W.ownsRow b e size v n xs) (hT : e ≠ T) : NotT W (fun i => v.ownBlock = some i) T := fun _ _ _ hi he => hT (own_type h hi he).symm
theorem NotT.nil : NotT W (fun i => Value.ownBlock (.slice none 0 0) = some i) T := fun _ _ _ hi => nomatch hi
theorem NotT.less (h : NotT W X T) (hY : ∀ k, Y k → X k) : NotT W Y T := fun i cs fr hi => h i cs fr (hY i hi)

theorem own_off {b e size n : Nat} {v : Value} {xs : List Value} (h : W.ownsRow b e size v n xs) (hX : NotT W X e) : ∀ k, X k → v.ownBlock ≠ some k := fun k hk hv => by
  rcases h.2 with ⟨rfl, _⟩ | ⟨g, cap, cur, rfl, hb, hg, _⟩
  · cases hv
  · obtain rfl : g = k := by simpa [Value.ownBlock] using hv
    exact hX g _ _ hk hg
theorem own_chX {b e size n : Nat} {v : Value} {xs : List Value} (h : W.ownsRow b e size v n xs) (hc : Ch X W W') (hX : ∀ k, X k → v.ownBlock ≠ some k) : W'.ownsRow b e size v n xs :=
  owns_same h fun g hg => hc.block g (h.lt g hg).2 fun hx => hX g hx hg

theorem Keeps.off {b e size n : Nat} {v : Value} {xs : List Value} (h : W.ownsRow b e size v n xs) (hX : ∀ k, X k → v.ownBlock ≠ some k) : Keeps (fun W => W.ownsRow b e size v n xs) X W := fun _ hc => own_chX h hc hX
theorem Keeps.own {b e size n : Nat} {v : Value} {xs : List Value} (h : W.ownsRow b e size v n xs) (hX : NotT W X e) : Keeps (fun W => W.ownsRow b e size v n xs) X W := Keeps.off h (own_off h hX)
theorem Keeps.ptr {R : List Value → Prop} {p : Option Addr} (h : Ptr W T R p) (hX : NotT W X T) : Keeps (fun W => Ptr W T R p) X W := fun _ hc =>
  h.keep fun b cs fr hb => hc.block b (blk_lt hb) fun hx => hX b cs fr hx hb
theorem Keeps.block {b : Nat} {cs : Array Value} {fr : Nat × Nat} (h : W.heap[b]? = some (.cells cs T fr)) (hX : NotT W X T) : Keeps (fun W => W.heap[b]? = some (.cells cs T fr)) X W := fun _ hc =>
  (hc.block b (blk_lt h) fun hx => hX b cs fr hx h).trans h
theorem Keeps.conn {p : Option Addr} (h : Ptr W 256 (sConn W) p) (h1 : NotT W X 256) (h2 : NotT W X 258) (h3 : NotT W X 3) : Keeps (fun W => Ptr W 256 (sConn W) p) X W := fun W' hc => by
  refine (Keeps.ptr h h1 W' hc).mono fun cs ⟨s, t, q, he, hq⟩ => ⟨s, t, q, he, ?_⟩
  refine (Keeps.ptr hq h2 W' hc).mono fun cs ⟨s, p, q, he, hp, hq⟩ => ⟨s, p, q, he, ?_, ?_⟩
  · exact Keeps.ptr hp h3 W' hc
  · exact Keeps.ptr hq h3 W' hc
end

/-- All of a list. -/
theorem Keeps.all {α : Type} {X : Nat → Prop} {W : World} {F : α → World → Prop} {l : List α} (h : ∀ a ∈ l, Keeps (F a) X W) : Keeps (fun W => ∀ a ∈ l, F a W) X W := fun W' hc a ha => h a ha W' hc

/-- What may change in the parse: the description's block, and all that it has itself made. -/
def Own (B D : Nat) (k : Nat) : Prop := k = D ∨ B ≤ k

section
variable {ae : Addr} {S S' : Nat → Prop} {L D C : Nat} {s : ByteArray} {w0 w1 : World} {cs : Array Value} {i : Nat} {w : World}
/-- The state with another frame. -/
theorem St.re (h : St ae S L D C s w0 cs i w) (hL : S' L) (hD : S' D) : St ae S' L D C s w cs i w :=
  { h with ch := Ch.refl _ _, sl := hL, sd := hD }
theorem St.frame (h : St ae S L D C s w0 cs i w) (hc : Ch S' w1 w) (hL : S' L) (hD : S' D) : St ae S' L D C s w1 cs i w :=
  { h with ch := hc, sl := hL, sd := hD }
end

section
variable {ae : Addr} {S X : Nat → Prop} {L D C : Nat} {s : ByteArray} {w0 : World} {cs : Array Value} {i : Nat} {w w' : World}
/-- The state, while other blocks change. -/
theorem St.chX (h : St ae S L D C s w0 cs i w) (hc : Ch X w w') (hX : ∀ k, X k → k ≠ L ∧ k ≠ D ∧ k ≠ 6) (hS : ∀ k, X k → S k) : St ae S L D C s w0 cs i w' :=
  ⟨(hc.block _ (blk_lt h.lexb) fun hx => (hX _ hx).1 rfl).trans h.lexb, (hc.block _ (blk_lt h.desc) fun hx => (hX _ hx).2.1 rfl).trans h.desc, hc.cell h.eof fun hx => (hX _ hx).2.2 rfl, h.l6, h.d6, h.ld, h.sz, h.le, h.csz, h.ch.trans (hc.mono hS), h.sl, h.sd⟩
theorem St.chF (h : St ae S L D C s w0 cs i w) (hc : Ch (fun _ => False) w w') : St ae S L D C s w0 cs i w' := h.chX hc (fun _ h => h.elim) fun _ h => h.elim
theorem St.lt6 (h : St ae S L D C s w0 cs i w) : 6 < w.heap.size := World.block_lt_of_cell? w _ h.eof
/-- The lexer and the description while a row changes. -/
theorem St.row {b e size n : Nat} {v : Value} {xs : List Value} (h : St ae S L D C s w0 cs i w) (ho : w.ownsRow b e size v n xs) (hb : 6 < b) (h1 : 170 ≠ e) (h2 : 108 ≠ e) : ∀ k, v.ownBlock = some k → k ≠ L ∧ k ≠ D ∧ k ≠ 6 := fun k hk =>
  ⟨fun e => by subst e; exact h1 (own_type ho hk h.lexb), fun e => by subst e; exact h2 (own_type ho hk h.desc), fun e => by have := (ho.lt k hk).1; omega⟩
end

/-- The session's cells, once the first three lines are read. -/
def dC (p8 p9 p10 p11 p12 : Option Addr) (v13 v14 v15 : Value) (p16 : Option Addr) (v18 : Value) : Array Value :=
  #[.int .i64 0, .string ⟨#[45]⟩, .int .u64 1, .int .u64 1, .string ⟨#[73, 78]⟩, .string ⟨#[73, 80, 52]⟩, .string ⟨#[97]⟩, .string ⟨#[120]⟩, .pointer p8, .pointer p9, .pointer p10, .pointer p11, .pointer p12, v13, v14, v15, .pointer p16, .slice none 0 0, v18]

/-- The pointers that stand ahead of the times. -/
structure PF (p8 p9 p10 p11 p12 : Option Addr) (W : World) : Prop where
  a8 : Ptr W 179 isStr p8
  a9 : Ptr W 249 isStr p9
  a10 : Ptr W 181 isStr p10
  a11 : Ptr W 183 isStr p11
  a12 : Ptr W 256 (sConn W) p12
end Go.Proofs.YtimonhimfioohaaGreatDoor

namespace Go.Proofs.YtimonhimfioohaaGreatDoor
open Go.RowKit

def nilS : Value := .slice none 0 0

/-- The blocks that change ahead of the first time. -/
def X1 (B D : Nat) (v13 : Value) (k : Nat) : Prop := (k = B ∨ k = D) ∨ v13.ownBlock = some k

structure F1 (B D : Nat) (p8 p9 p10 p11 p12 : Option Addr) (v13 : Value) (n13 i : Nat) (W : World) : Prop where
  dl : D < B
  cache : W.heap[B + 1]? = some (.cells #[.slice none 0 0, .slice none 0 0] 172 (0, 0))
  own : ∃ lb : List (Bool × ByteArray × Int), lb.length = n13 ∧ W.ownsRow (B + 2) 134 3 v13 n13 (lb.flatMap bandC)
  le : n13 ≤ i
  keep : Keeps (PF p8 p9 p10 p11 p12) (X1 B D v13) W

section
variable {ae : Addr} {S : Nat → Prop} {B D C : Nat} {s : ByteArray} {w0 : World} {cs : Array Value} {i i' ip : Nat} {W W' : World}
variable {p8 p9 p10 p11 p12 : Option Addr} {v13 : Value} {n13 : Nat}

theorem St.ty2 (h : St ae S B D C s w0 cs ip W) {T : TypeId} (h1 : 170 ≠ T) (h2 : 108 ≠ T) : NotT W (fun k => k = B ∨ k = D) T := (NotT.one h.lexb h1).or (NotT.one h.desc h2)

theorem F1.notT (h : F1 B D p8 p9 p10 p11 p12 v13 n13 i W) (hs : St ae S B D C s w0 cs ip W) {T : TypeId} (h1 : 170 ≠ T) (h2 : 108 ≠ T) (h3 : 134 ≠ T) : NotT W (X1 B D v13) T := by
  obtain ⟨lb, _, ho⟩ := h.own
  exact (hs.ty2 h1 h2).or (NotT.own ho h3)
theorem F1.pass (h : F1 B D p8 p9 p10 p11 p12 v13 n13 i W) (hc : Ch (fun k => k = B ∨ k = D) W W') (hi : i ≤ i') : F1 B D p8 p9 p10 p11 p12 v13 n13 i' W' := by
  obtain ⟨lb, hl, ho⟩ := h.own
  refine ⟨h.dl, (hc.block _ (blk_lt h.cache) (by have := h.dl; omega)).trans h.cache, ⟨lb, hl, own_chX ho hc fun k hk hv => ?_⟩, Nat.le_trans h.le hi, h.keep.same (hc.mono fun _ hk => .inl hk)⟩
  have := (ho.lt k hv).1
  have := h.dl
  omega
theorem F1.put8 (h : F1 B D p8 p9 p10 p11 p12 v13 n13 i W) (hs : St ae S B D C s w0 cs ip W) {p : Option Addr} (hp : Ptr W 179 isStr p) : F1 B D p p9 p10 p11 p12 v13 n13 i W :=
  { h with keep := (h.keep.and (Keeps.ptr hp (h.notT hs (by decide) (by decide) (by decide)))).imp fun _ ⟨k, q⟩ => { k with a8 := q } }
theorem F1.put9 (h : F1 B D p8 p9 p10 p11 p12 v13 n13 i W) (hs : St ae S B D C s w0 cs ip W) {p : Option Addr} (hp : Ptr W 249 isStr p) : F1 B D p8 p p10 p11 p12 v13 n13 i W :=
  { h with keep := (h.keep.and (Keeps.ptr hp (h.notT hs (by decide) (by decide) (by decide)))).imp fun _ ⟨k, q⟩ => { k with a9 := q } }
theorem F1.put10 (h : F1 B D p8 p9 p10 p11 p12 v13 n13 i W) (hs : St ae S B D C s w0 cs ip W) {p : Option Addr} (hp : Ptr W 181 isStr p) : F1 B D p8 p9 p p11 p12 v13 n13 i W :=
  { h with keep := (h.keep.and (Keeps.ptr hp (h.notT hs (by decide) (by decide) (by decide)))).imp fun _ ⟨k, q⟩ => { k with a10 := q } }
theorem F1.put11 (h : F1 B D p8 p9 p10 p11 p12 v13 n13 i W) (hs : St ae S B D C s w0 cs ip W) {p : Option Addr} (hp : Ptr W 183 isStr p) : F1 B D p8 p9 p10 p p12 v13 n13 i W :=
  { h with keep := (h.keep.and (Keeps.ptr hp (h.notT hs (by decide) (by decide) (by decide)))).imp fun _ ⟨k, q⟩ => { k with a11 := q } }
theorem F1.put12 (h : F1 B D p8 p9 p10 p11 p12 v13 n13 i W) (hs : St ae S B D C s w0 cs ip W) {p : Option Addr} (hp : Ptr W 256 (sConn W) p) : F1 B D p8 p9 p10 p11 p v13 n13 i W :=
  { h with keep := (h.keep.and (Keeps.conn hp (h.notT hs (by decide) (by decide) (by decide)) (h.notT hs (by decide) (by decide) (by decide)) (h.notT hs (by decide) (by decide) (by decide)))).imp fun _ ⟨k, q⟩ => { k with a12 := q } }
end

/-- Between two lines ahead of the first time. -/
def Ph1 (B D : Nat) (cs : Array Value) (i : Nat) (W : World) : Prop := ∃ p8 p9 p10 p11 p12 v13 n13, cs = dC p8 p9 p10 p11 p12 v13 (.slice none 0 0) (.slice none 0 0) none (.slice none 0 0) ∧ F1 B D p8 p9 p10 p11 p12 v13 n13 i W

/-- A line of the session is read: the function of the next state, the lexer behind the line. -/
def LineR (ae : Addr) (B D : Nat) (s : ByteArray) (w0 : World) (G i : Nat) (P : Array Value → World → Prop) (e : Ending) (w' : World) : Prop :=
  e = .returned (.tuple #[.func (.func G) #[] #[], .nilIface]) ∧ ∃ cs, St ae (Own B D) B D (B + 1) s w0 cs i w' ∧ P cs w'

section
variable {ae : Addr} {B D : Nat} {s : ByteArray} {w0 : World} {cs : Array Value} {i k : Nat} {w : World}
theorem St.low (h : St ae (Own B D) B D (B + 1) s w0 cs i w) : St ae (fun k => k = B ∨ k = D) B D (B + 1) s w cs i w := h.re (.inl rfl) (.inr rfl)
theorem St.back (h : St ae (Own B D) B D (B + 1) s w0 cs i w) {X : Nat → Prop} {cs' : Array Value} {i' : Nat} {w' : World} (k : St ae X B D (B + 1) s w cs' i' w') (hX : ∀ j, X j → Own B D j) : St ae (Own B D) B D (B + 1) s w0 cs' i' w' :=
  k.frame (h.ch.trans (k.ch.mono hX)) (.inr (Nat.le_refl _)) (.inl rfl)
theorem own_low : ∀ j, (j = B ∨ j = D) → Own B D j := fun _ h => h.elim (fun h => .inr (by omega)) .inl

theorem info_any (h : St ae (Own B D) B D (B + 1) s w0 cs i w) (hp : Ph1 B D cs k w) {r : List UInt8} (hl : s.data.toList.drop i = 121 :: 13 :: 10 :: r) :
    Calls Tryz.prog 204 #[.pointer (some ⟨B, 0, none⟩)] w (LineR ae B D s w0 211 (i + 3) fun cs w' => Ph1 B D cs (k + 1) w') := by
  obtain ⟨p8, p9, p10, p11, p12, v13, n13, rfl, hF⟩ := hp
  refine (info_line h.low hl).mono ?_
  rintro e w' ⟨rfl, b, hs, hb, _⟩
  exact ⟨rfl, _, h.back hs own_low, _, p9, p10, p11, p12, v13, n13, rfl, (hF.pass hs.ch (Nat.le_add_right _ _)).put8 hs (Ptr.mk hb ⟨_, rfl⟩)⟩
theorem email_any (h : St ae (Own B D) B D (B + 1) s w0 cs i w) (hp : Ph1 B D cs k w) {r : List UInt8} (hl : s.data.toList.drop i = 97 :: 13 :: 10 :: r) :
    Calls Tryz.prog 206 #[.pointer (some ⟨B, 0, none⟩)] w (LineR ae B D s w0 213 (i + 3) fun cs w' => Ph1 B D cs (k + 1) w') := by
  obtain ⟨p8, p9, p10, p11, p12, v13, n13, rfl, hF⟩ := hp
  refine (email_line h.low hl).mono ?_
  rintro e w' ⟨rfl, b, hs, hb, _⟩
  exact ⟨rfl, _, h.back hs own_low, p8, p9, _, p11, p12, v13, n13, rfl, (hF.pass hs.ch (Nat.le_add_right _ _)).put10 hs (Ptr.mk hb ⟨_, rfl⟩)⟩
theorem phone_any (h : St ae (Own B D) B D (B + 1) s w0 cs i w) (hp : Ph1 B D cs k w) {r : List UInt8} (hl : s.data.toList.drop i = 49 :: 13 :: 10 :: r) :
    Calls Tryz.prog 207 #[.pointer (some ⟨B, 0, none⟩)] w (LineR ae B D s w0 214 (i + 3) fun cs w' => Ph1 B D cs (k + 1) w') := by
  obtain ⟨p8, p9, p10, p11, p12, v13, n13, rfl, hF⟩ := hp
  refine (phone_line h.low hl).mono ?_
  rintro e w' ⟨rfl, b, hs, hb, _⟩
  exact ⟨rfl, _, h.back hs own_low, p8, p9, p10, _, p12, v13, n13, rfl, (hF.pass hs.ch (Nat.le_add_right _ _)).put11 hs (Ptr.mk hb ⟨_, rfl⟩)⟩
end
end Go.Proofs.YtimonhimfioohaaGreatDoor

namespace Go.Proofs.YtimonhimfioohaaGreatDoor
open Go.RowKit

def timC (v : Value) : List Value := [.int .u64 0, .int .u64 0, v]
def repC (v : Value) : List Value := [.int .i64 1, .int .i64 1, v]
def zonC (p : Int × Int) : List Value := [.int .u64 p.1, .int .i64 p.2]
def ptrC (b : Nat) : List Value := [.pointer (some ⟨b, 0, none⟩)]

/-- What plain reads of the parts of a description. -/
def BandRd (v : Value) (W : World) : Prop := ∃ lb : List (Bool × ByteArray × Int), lb.length ≤ 100000 ∧ W.ownsRow 0 134 3 v lb.length (lb.flatMap bandC)
def AttrRd (v : Value) (W : World) : Prop := ∃ la : List (ByteArray × ByteArray), la.length ≤ 100000 ∧ W.ownsRow 0 240 2 v la.length (la.flatMap attrC)
def OffRd (v : Value) (W : World) : Prop := ∃ l : List Int, l.length ≤ 100000 ∧ W.ownsRow 0 2 1 v l.length (l.flatMap intC)
def RepsRd (v : Value) (W : World) : Prop := ∃ os : List Value, os.length ≤ 100000 ∧ W.ownsRow 0 199 3 v os.length (os.flatMap repC) ∧ ∀ o ∈ os, OffRd o W
def TimesRd (v : Value) (W : World) : Prop := ∃ ts : List Value, ts.length ≤ 100000 ∧ W.ownsRow 0 193 3 v ts.length (ts.flatMap timC) ∧ ∀ t ∈ ts, RepsRd t W
def ZonesRd (v : Value) (W : World) : Prop := ∃ lz : List (Int × Int), lz.length ≤ 100000 ∧ W.ownsRow 0 203 2 v lz.length (lz.flatMap zonC)
def StrsRd (v : Value) (W : World) : Prop := ∃ l : List ByteArray, l.length ≤ 100000 ∧ W.ownsRow 0 9 1 v l.length (l.flatMap strC)

section
variable {X : Nat → Prop} {W : World} {v : Value}
theorem BandRd.keeps (h : BandRd v W) (hX : NotT W X 134) : Keeps (BandRd v) X W := by
  obtain ⟨l, hl, ho⟩ := h
  exact (Keeps.own ho hX).imp fun _ k => ⟨l, hl, k⟩
theorem AttrRd.keeps (h : AttrRd v W) (hX : ∀ k, X k → v.ownBlock ≠ some k) : Keeps (AttrRd v) X W := by
  obtain ⟨l, hl, ho⟩ := h
  exact (Keeps.off ho hX).imp fun _ k => ⟨l, hl, k⟩
theorem OffRd.keeps (h : OffRd v W) (hX : NotT W X 2) : Keeps (OffRd v) X W := by
  obtain ⟨l, hl, ho⟩ := h
  exact (Keeps.own ho hX).imp fun _ k => ⟨l, hl, k⟩
theorem ZonesRd.keeps (h : ZonesRd v W) (hX : NotT W X 203) : Keeps (ZonesRd v) X W := by
  obtain ⟨l, hl, ho⟩ := h
  exact (Keeps.own ho hX).imp fun _ k => ⟨l, hl, k⟩
theorem StrsRd.keeps (h : StrsRd v W) (hX : NotT W X 9) : Keeps (StrsRd v) X W := by
  obtain ⟨l, hl, ho⟩ := h
  exact (Keeps.own ho hX).imp fun _ k => ⟨l, hl, k⟩
theorem RepsRd.keeps (h : RepsRd v W) (hX : NotT W X 199) (hY : NotT W X 2) : Keeps (RepsRd v) X W := by
  obtain ⟨l, hl, ho, ha⟩ := h
  exact ((Keeps.own ho hX).and (Keeps.all fun o hm => (ha o hm).keeps hY)).imp fun _ k => ⟨l, hl, k.1, k.2⟩
theorem TimesRd.keeps (h : TimesRd v W) (hX : NotT W X 193) (hY : NotT W X 199) (hZ : NotT W X 2) : Keeps (TimesRd v) X W := by
  obtain ⟨l, hl, ho, ha⟩ := h
  exact ((Keeps.own ho hX).and (Keeps.all fun o hm => (ha o hm).keeps hY hZ)).imp fun _ k => ⟨l, hl, k.1, k.2⟩
end

/-- Behind a time: which blocks change, and what is known. -/
def X2 (B D : Nat) (v14 vr : Value) (k : Nat) : Prop := ((k = B ∨ k = D) ∨ v14.ownBlock = some k) ∨ vr.ownBlock = some k

structure F2 (B D : Nat) (p8 p9 p10 p11 p12 : Option Addr) (v13 v14 vr : Value) (ts os : List Value) (i : Nat) (W : World) : Prop where
  dl : D < B
  cache : W.heap[B + 1]? = some (.cells #[.slice none 0 0, .slice none 0 0] 172 (0, 0))
  own : W.ownsRow (B + 2) 193 3 v14 (ts.length + 1) ((ts ++ [vr]).flatMap timC)
  ownr : W.ownsRow (B + 2) 199 3 vr os.length (os.flatMap repC)
  le : ts.length + 1 ≤ i
  ler : os.length ≤ i
  keep : Keeps (fun W => PF p8 p9 p10 p11 p12 W ∧ BandRd v13 W ∧ (∀ v ∈ ts, RepsRd v W) ∧ ∀ o ∈ os, OffRd o W) (X2 B D v14 vr) W

def Ph2 (B D : Nat) (cs : Array Value) (i : Nat) (W : World) : Prop := ∃ p8 p9 p10 p11 p12 v13 v14 vr ts os, cs = dC p8 p9 p10 p11 p12 v13 v14 (.slice none 0 0) none (.slice none 0 0) ∧ F2 B D p8 p9 p10 p11 p12 v13 v14 vr ts os i W

/-- What plain reads of a session, but its attributes and its media. -/
structure SesRd (p8 p9 p10 p11 p12 : Option Addr) (v13 v14 v15 : Value) (p16 : Option Addr) (W : World) : Prop where
  pf : PF p8 p9 p10 p11 p12 W
  b13 : BandRd v13 W
  b14 : TimesRd v14 W
  b15 : ZonesRd v15 W
  a16 : Ptr W 187 isStr p16

/-- Behind the times, ahead of the first medium. -/
def X3 (B D : Nat) (va : Value) (k : Nat) : Prop := ((k = B ∨ k = D) ∨ k = B + 1) ∨ va.ownBlock = some k

structure F3 (B D : Nat) (p8 p9 p10 p11 p12 : Option Addr) (v13 v14 v15 : Value) (p16 : Option Addr) (va : Value) (la : List (ByteArray × ByteArray)) (i : Nat) (W : World) : Prop where
  dl : D < B
  cache : W.heap[B + 1]? = some (.cells #[va, .slice none 0 0] 172 (0, 0))
  own : W.ownsRow (B + 2) 240 2 va la.length (la.flatMap attrC)
  le : la.length ≤ i
  keep : Keeps (SesRd p8 p9 p10 p11 p12 v13 v14 v15 p16) (X3 B D va) W

def Ph3 (B D : Nat) (cs : Array Value) (i : Nat) (W : World) : Prop := ∃ p8 p9 p10 p11 p12 v13 v14 v15 p16 va la, cs = dC p8 p9 p10 p11 p12 v13 v14 v15 p16 (.slice none 0 0) ∧ F3 B D p8 p9 p10 p11 p12 v13 v14 v15 p16 va la i W

/-- A medium's block. -/
def mC (q2 : Option Addr) (v3 v4 : Value) (q5 q6 : Option Addr) (v7 : Value) (q8 : Option Addr) (v9 : Value) : Array Value :=
  #[.string ⟨#[97, 117, 100, 105, 111]⟩, .int .i64 1, .pointer q2, v3, v4, .pointer q5, .pointer q6, v7, .pointer q8, v9]
/-- What plain reads of a medium that changes no more. -/
structure MedF (q2 : Option Addr) (v3 v4 : Value) (q5 q6 : Option Addr) (q8 : Option Addr) (W : World) : Prop where
  a2 : Ptr W 3 isInt q2
  b3 : StrsRd v3 W
  b4 : StrsRd v4 W
  a5 : Ptr W 179 isStr q5
  a6 : Ptr W 256 (sConn W) q6
  a8 : Ptr W 187 isStr q8
def MedRdy (b : Nat) (W : World) : Prop := ∃ q2 v3 v4 q5 q6 v7 q8 v9, W.heap[b]? = some (.cells (mC q2 v3 v4 q5 q6 v7 q8 v9) 226 (0, 0)) ∧ MedF q2 v3 v4 q5 q6 q8 W ∧ BandRd v7 W ∧ AttrRd v9 W

/-- From the first medium on: no line of a medium is read yet, or the last medium is shut. -/
def X5 (B D : Nat) (vm v18 : Value) (k : Nat) : Prop := (((k = B ∨ k = D) ∨ k = B + 1) ∨ vm.ownBlock = some k) ∨ v18.ownBlock = some k

structure F5 (B D : Nat) (F : World → Prop) (vc vm v18 : Value) (bs : List Nat) (i : Nat) (W : World) : Prop where
  dl : D < B
  cache : W.heap[B + 1]? = some (.cells #[vc, vm] 172 (0, 0))
  ownm : W.ownsRow (B + 2) 240 2 vm 0 []
  own18 : W.ownsRow (B + 2) 145 1 v18 bs.length (bs.flatMap ptrC)
  le18 : bs.length ≤ i
  keep : Keeps (fun W => F W ∧ ∀ b ∈ bs, MedRdy b W) (X5 B D vm v18) W

/-- In a medium. -/
def X4 (B D b : Nat) (vm v18 v7 : Value) (k : Nat) : Prop := (X5 B D vm v18 k ∨ k = b) ∨ v7.ownBlock = some k

structure F4 (B D : Nat) (F : World → Prop) (vc vm v18 : Value) (lm : List (ByteArray × ByteArray)) (bs : List Nat) (b : Nat)
    (q2 : Option Addr) (v3 v4 : Value) (q5 q6 : Option Addr) (v7 : Value) (q8 : Option Addr) (lb : List (Bool × ByteArray × Int)) (i : Nat) (W : World) : Prop where
  dl : D < B
  cache : W.heap[B + 1]? = some (.cells #[vc, vm] 172 (0, 0))
  ownm : W.ownsRow (B + 2) 240 2 vm lm.length (lm.flatMap attrC)
  lem : lm.length ≤ i
  own18 : W.ownsRow (B + 2) 145 1 v18 (bs.length + 1) ((bs ++ [b]).flatMap ptrC)
  le18 : bs.length + 1 ≤ i
  bl : B + 2 ≤ b
  med : W.heap[b]? = some (.cells (mC q2 v3 v4 q5 q6 v7 q8 (.slice none 0 0)) 226 (0, 0))
  own7 : W.ownsRow (B + 2) 134 3 v7 lb.length (lb.flatMap bandC)
  le7 : lb.length ≤ i
  keep : Keeps (fun W => (F W ∧ ∀ b ∈ bs, MedRdy b W) ∧ MedF q2 v3 v4 q5 q6 q8 W) (X4 B D b vm v18 v7) W

def Ph4 (B D : Nat) (cs : Array Value) (i : Nat) (W : World) : Prop := ∃ p8 p9 p10 p11 p12 v13 v14 v15 p16 va vm v18 lm bs b q2 v3 v4 q5 q6 v7 q8 lb,
  cs = dC p8 p9 p10 p11 p12 v13 v14 v15 p16 v18 ∧ F4 B D (fun W => SesRd p8 p9 p10 p11 p12 v13 v14 v15 p16 W ∧ AttrRd va W) va vm v18 lm bs b q2 v3 v4 q5 q6 v7 q8 lb i W
end Go.Proofs.YtimonhimfioohaaGreatDoor

namespace Go.Proofs.YtimonhimfioohaaGreatDoor
open Go.RowKit

theorem own0 {w : World} {b e size n : Nat} {v : Value} {xs : List Value} (h : w.ownsRow b e size v n xs) : w.ownsRow 0 e size v n xs := owns_low h (Nat.zero_le _)
theorem Ch.grow {S X Y : Nat → Prop} {a b c : World} (h : Ch S a b) (k : Ch X b c) (hX : ∀ i, X i → a.heap.size ≤ i ∨ Y i) (hS : ∀ i, S i → Y i) : Ch Y a c := (h.mono hS).fresh k hX

section
variable {ae : Addr} {S : Nat → Prop} {B D C : Nat} {s : ByteArray} {w0 : World} {cs : Array Value} {i i' ip : Nat} {W W' : World}
variable {p8 p9 p10 p11 p12 p16 : Option Addr} {v13 v14 v15 vr va vm v18 : Value} {n13 : Nat} {ts os : List Value} {la lm : List (ByteArray × ByteArray)}

/-- A bandwidth of the session. -/
theorem F1.band (h : F1 B D p8 p9 p10 p11 p12 v13 n13 i W) (hc : Ch (X1 B D v13) W W') {g cap : Nat} {x : Bool × ByteArray × Int} {xs : List Value}
    (hx : ∀ lb : List (Bool × ByteArray × Int), xs = lb.flatMap bandC → lb.length = n13 → W'.ownsRow (B + 2) 134 3 (.slice (some ⟨g, 0, none⟩) (n13 + 1) cap) (n13 + 1) (xs ++ bandC x))
    (hxs : ∃ lb : List (Bool × ByteArray × Int), lb.length = n13 ∧ xs = lb.flatMap bandC) (hg : v13.ownBlock = some g ∨ W.heap.size ≤ g) (hi : i + 1 ≤ i') :
    F1 B D p8 p9 p10 p11 p12 (.slice (some ⟨g, 0, none⟩) (n13 + 1) cap) (n13 + 1) i' W' := by
  obtain ⟨lb, hl, rfl⟩ := hxs
  obtain ⟨lb0, hl0, ho0⟩ := h.own
  refine ⟨h.dl, (hc.block _ (blk_lt h.cache) ?_).trans h.cache, ⟨lb ++ [x], by simp [hl], by simpa using hx lb rfl hl⟩, by have := h.le; omega, h.keep.step hc ?_⟩
  · rintro ((hk | hk) | hk)
    · omega
    · have := h.dl; omega
    · have := (ho0.lt _ hk).1; omega
  · rintro k (hk | hk)
    · exact .inr (.inl hk)
    · obtain rfl : g = k := by simpa [Value.ownBlock] using hk
      exact hg.elim (fun h => .inr (.inr h)) .inl

theorem F1.bandRd (h : F1 B D p8 p9 p10 p11 p12 v13 n13 i W) (hi : i ≤ 100000) : BandRd v13 W := by
  obtain ⟨lb, hl, ho⟩ := h.own
  exact ⟨lb, by have := h.le; omega, by rw [hl]; exact own0 ho⟩

/-- The first time. -/
theorem F1.time (h : F1 B D p8 p9 p10 p11 p12 v13 n13 i W) {cs' : Array Value} (hs : St ae S B D C s w0 cs' ip W') (hc : Ch (fun k => k = B ∨ k = D) W W') {g cap : Nat}
    (ho : W'.ownsRow (B + 2) 193 3 (.slice (some ⟨g, 0, none⟩) 1 cap) 1 (timC (.slice none 0 0))) (hg : W.heap.size ≤ g) (hi : i + 1 ≤ i') (hi0 : i ≤ 100000) :
    F2 B D p8 p9 p10 p11 p12 v13 (.slice (some ⟨g, 0, none⟩) 1 cap) (.slice none 0 0) [] [] i' W' := by
  have hX : ∀ k, X2 B D (.slice (some ⟨g, 0, none⟩) 1 cap) (.slice none 0 0) k → W.heap.size ≤ k ∨ X1 B D v13 k := by
    rintro k ((hk | hk) | hk)
    · exact .inr (.inl hk)
    · obtain rfl : g = k := by simpa [Value.ownBlock] using hk
      exact .inl hg
    · cases hk
  have h' := h.pass hc (i' := i) (Nat.le_refl _)
  have hT : ∀ {T : TypeId}, 170 ≠ T → 108 ≠ T → 193 ≠ T → NotT W' (X2 B D (.slice (some ⟨g, 0, none⟩) 1 cap) (.slice none 0 0)) T := fun h1 h2 h3 =>
    ((hs.ty2 h1 h2).or (NotT.own ho h3)).or NotT.nil
  refine ⟨h.dl, h'.cache, by simpa using ho, World.ownsRow_nil _ _ _ _, by simp; omega, Nat.zero_le _, ?_⟩
  exact ((h.keep.step (hc.mono fun _ hk => .inl hk) hX).and ((h'.bandRd hi0).keeps (hT (by decide) (by decide) (by decide)))).imp fun _ k => ⟨k.1, k.2, by simp, by simp⟩

theorem F2.pass (h : F2 B D p8 p9 p10 p11 p12 v13 v14 vr ts os i W) (hc : Ch (fun k => k = B ∨ k = D) W W') (hi : i ≤ i') : F2 B D p8 p9 p10 p11 p12 v13 v14 vr ts os i' W' := by
  have hd := h.dl
  refine ⟨h.dl, (hc.block _ (blk_lt h.cache) (by omega)).trans h.cache, own_chX h.own hc fun k hk hv => ?_, own_chX h.ownr hc fun k hk hv => ?_, Nat.le_trans h.le hi, Nat.le_trans h.ler hi, h.keep.same (hc.mono fun _ hk => .inl (.inl hk))⟩
  · have := (h.own.lt k hv).1
    omega
  · have := (h.ownr.lt k hv).1
    omega
theorem F2.reps (h : F2 B D p8 p9 p10 p11 p12 v13 v14 vr ts os i W) (hi : i ≤ 100000) : RepsRd vr W := ⟨os, by have := h.ler; omega, own0 h.ownr, h.keep.now.2.2.2⟩

/-- One more time. -/
theorem F2.time (h : F2 B D p8 p9 p10 p11 p12 v13 v14 vr ts os i W) {cs' : Array Value} (hs : St ae S B D C s w0 cs' ip W') (hc : Ch (fun k => (k = B ∨ k = D) ∨ v14.ownBlock = some k) W W') {g cap : Nat}
    (ho : W'.ownsRow (B + 2) 193 3 (.slice (some ⟨g, 0, none⟩) (ts.length + 1 + 1) cap) (ts.length + 1 + 1) ((ts ++ [vr]).flatMap timC ++ timC (.slice none 0 0))) (hg : v14.ownBlock = some g ∨ W.heap.size ≤ g) (hi : i + 1 ≤ i') (hi0 : i ≤ 100000) :
    F2 B D p8 p9 p10 p11 p12 v13 (.slice (some ⟨g, 0, none⟩) (ts.length + 1 + 1) cap) (.slice none 0 0) (ts ++ [vr]) [] i' W' := by
  have hd := h.dl
  have hX : ∀ k, X2 B D (.slice (some ⟨g, 0, none⟩) (ts.length + 1 + 1) cap) (.slice none 0 0) k → W.heap.size ≤ k ∨ X2 B D v14 vr k := by
    rintro k ((hk | hk) | hk)
    · exact .inr (.inl (.inl hk))
    · obtain rfl : g = k := by simpa [Value.ownBlock] using hk
      exact hg.elim (fun h => .inr (.inl (.inr h))) .inl
    · cases hk
  have hT : ∀ {T : TypeId}, 170 ≠ T → 108 ≠ T → 193 ≠ T → NotT W' (X2 B D (.slice (some ⟨g, 0, none⟩) (ts.length + 1 + 1) cap) (.slice none 0 0)) T := fun h1 h2 h3 =>
    ((hs.ty2 h1 h2).or (NotT.own ho h3)).or NotT.nil
  have hk := h.keep.step (hc.mono fun _ hk => .inl hk) hX
  have hr : RepsRd vr W' := by
    refine ⟨os, by have := h.ler; omega, own0 (own_chX h.ownr hc ?_), hk.now.2.2.2⟩
    rintro k (hk | hk) hv
    · have := (h.ownr.lt k hv).1
      omega
    · rcases h.own.2 with ⟨he, _⟩ | ⟨g', cap', cur, he, _, hb, _⟩
      · rw [he] at hk; cases hk
      · rw [he] at hk
        obtain rfl : g' = k := by simpa [Value.ownBlock] using hk
        exact absurd (own_type h.ownr hv hb) (by decide)
  refine ⟨h.dl, (hc.block _ (blk_lt h.cache) ?_).trans h.cache, by simpa using ho, World.ownsRow_nil _ _ _ _, by simp; have := h.le; omega, Nat.zero_le _, ?_⟩
  · rintro (hk | hk)
    · omega
    · have := (h.own.lt _ hk).1
      omega
  · exact (hk.and (hr.keeps (hT (by decide) (by decide) (by decide)) (hT (by decide) (by decide) (by decide)))).imp fun _ k => ⟨k.1.1, k.1.2.1, fun v hv => by
      rcases List.mem_append.1 hv with hv | hv
      · exact k.1.2.2.1 v hv
      · rw [List.mem_singleton.1 hv]; exact k.2, by simp⟩

/-- A repeat. -/
theorem F2.rep (h : F2 B D p8 p9 p10 p11 p12 v13 v14 vr ts os i W) {cs' : Array Value} (hs : St ae S B D C s w0 cs' ip W') (hc : Ch (X2 B D v14 vr) W W') {vr' vo : Value}
    (ho : W'.ownsRow (B + 2) 193 3 v14 (ts.length + 1) (ts.flatMap timC ++ timC vr')) (hor : W'.ownsRow (B + 2) 199 3 vr' (os.length + 1) (os.flatMap repC ++ repC vo)) (hvo : OffRd vo W')
    (hg : ∀ k, vr'.ownBlock = some k → vr.ownBlock = some k ∨ W.heap.size ≤ k) (hi : i + 1 ≤ i') :
    F2 B D p8 p9 p10 p11 p12 v13 v14 vr' ts (os ++ [vo]) i' W' := by
  have hd := h.dl
  have hX : ∀ k, X2 B D v14 vr' k → W.heap.size ≤ k ∨ X2 B D v14 vr k := by
    rintro k ((hk | hk) | hk)
    · exact .inr (.inl (.inl hk))
    · exact .inr (.inl (.inr hk))
    · exact (hg k hk).elim (fun h => .inr (.inr h)) .inl
  have hT : ∀ {T : TypeId}, 170 ≠ T → 108 ≠ T → 193 ≠ T → 199 ≠ T → NotT W' (X2 B D v14 vr') T := fun h1 h2 h3 h4 =>
    ((hs.ty2 h1 h2).or (NotT.own ho h3)).or (NotT.own hor h4)
  refine ⟨h.dl, (hc.block _ (blk_lt h.cache) ?_).trans h.cache, by simpa using ho, by simpa using hor, by have := h.le; omega, by simp; have := h.ler; omega, ?_⟩
  · rintro ((hk | hk) | hk)
    · omega
    · have := (h.own.lt _ hk).1
      omega
    · have := (h.ownr.lt _ hk).1
      omega
  · exact ((h.keep.step hc hX).and (hvo.keeps (hT (by decide) (by decide) (by decide) (by decide)))).imp fun _ k => ⟨k.1.1, k.1.2.1, k.1.2.2.1, fun v hv => by
      rcases List.mem_append.1 hv with hv | hv
      · exact k.1.2.2.2 v hv
      · rw [List.mem_singleton.1 hv]; exact k.2⟩

/-- The times are read. -/
theorem F2.close (h : F2 B D p8 p9 p10 p11 p12 v13 v14 vr ts os i W) (hs : St ae S B D C s w0 cs ip W) (hi : i ≤ 100000) : F3 B D p8 p9 p10 p11 p12 v13 v14 (.slice none 0 0) none (.slice none 0 0) [] i W := by
  have hd := h.dl
  have hT : ∀ {T : TypeId}, 170 ≠ T → 108 ≠ T → 172 ≠ T → NotT W (X3 B D (.slice none 0 0)) T := fun h1 h2 h3 => ((hs.ty2 h1 h2).or (NotT.one h.cache h3)).or NotT.nil
  have hn := h.keep.now
  have hk : Keeps (PF p8 p9 p10 p11 p12) (X3 B D (.slice none 0 0)) W := by
    have h1 := hn.1
    exact (((((Keeps.ptr h1.a8 (hT (by decide) (by decide) (by decide))).and (Keeps.ptr h1.a9 (hT (by decide) (by decide) (by decide)))).and (Keeps.ptr h1.a10 (hT (by decide) (by decide) (by decide)))).and (Keeps.ptr h1.a11 (hT (by decide) (by decide) (by decide)))).and
      (Keeps.conn h1.a12 (hT (by decide) (by decide) (by decide)) (hT (by decide) (by decide) (by decide)) (hT (by decide) (by decide) (by decide)))).imp fun _ k => ⟨k.1.1.1.1, k.1.1.1.2, k.1.1.2, k.1.2, k.2⟩
  have ht : TimesRd v14 W := ⟨ts ++ [vr], by simp; have := h.le; omega, by simpa using own0 h.own, fun v hv => by
    rcases List.mem_append.1 hv with hv | hv
    · exact hn.2.2.1 v hv
    · rw [List.mem_singleton.1 hv]; exact h.reps hi⟩
  refine ⟨h.dl, h.cache, World.ownsRow_nil _ _ _ _, Nat.zero_le _, ?_⟩
  exact (((hk.and (hn.2.1.keeps (hT (by decide) (by decide) (by decide)))).and (ht.keeps (hT (by decide) (by decide) (by decide)) (hT (by decide) (by decide) (by decide)) (hT (by decide) (by decide) (by decide)))).imp fun _ k =>
    ⟨k.1.1, k.1.2, k.2, ⟨[], by simp, World.ownsRow_nil _ _ _ _⟩, Ptr.nil _ _ _⟩)

theorem F3.notT (h : F3 B D p8 p9 p10 p11 p12 v13 v14 v15 p16 va la i W) (hs : St ae S B D C s w0 cs ip W) {T : TypeId} (h1 : 170 ≠ T) (h2 : 108 ≠ T) (h3 : 172 ≠ T) (h4 : 240 ≠ T) : NotT W (X3 B D va) T :=
  ((hs.ty2 h1 h2).or (NotT.one h.cache h3)).or (NotT.own h.own h4)
theorem F3.pass (h : F3 B D p8 p9 p10 p11 p12 v13 v14 v15 p16 va la i W) (hc : Ch (fun k => k = B ∨ k = D) W W') (hi : i ≤ i') : F3 B D p8 p9 p10 p11 p12 v13 v14 v15 p16 va la i' W' := by
  have hd := h.dl
  refine ⟨h.dl, (hc.block _ (blk_lt h.cache) (by omega)).trans h.cache, own_chX h.own hc fun k hk hv => ?_, Nat.le_trans h.le hi, h.keep.same (hc.mono fun _ hk => .inl (.inl hk))⟩
  have := (h.own.lt k hv).1
  omega
theorem F3.put16 (h : F3 B D p8 p9 p10 p11 p12 v13 v14 v15 p16 va la i W) (hs : St ae S B D C s w0 cs ip W) {p : Option Addr} (hp : Ptr W 187 isStr p) : F3 B D p8 p9 p10 p11 p12 v13 v14 v15 p va la i W :=
  { h with keep := (h.keep.and (Keeps.ptr hp (h.notT hs (by decide) (by decide) (by decide) (by decide)))).imp fun _ ⟨k, q⟩ => { k with a16 := q } }
theorem F3.put15 (h : F3 B D p8 p9 p10 p11 p12 v13 v14 v15 p16 va la i W) (hs : St ae S B D C s w0 cs ip W) {v : Value} (hp : ZonesRd v W) : F3 B D p8 p9 p10 p11 p12 v13 v14 v p16 va la i W :=
  { h with keep := (h.keep.and (hp.keeps (h.notT hs (by decide) (by decide) (by decide) (by decide)))).imp fun _ ⟨k, q⟩ => { k with b15 := q } }
/-- An attribute of the session. -/
theorem F3.attr (h : F3 B D p8 p9 p10 p11 p12 v13 v14 v15 p16 va la i W) (hc : Ch (X3 B D va) W W') {va' : Value} {x : ByteArray × ByteArray} (hC : W'.heap[B + 1]? = some (.cells #[va', .slice none 0 0] 172 (0, 0)))
    (ho : W'.ownsRow (B + 2) 240 2 va' (la.length + 1) (la.flatMap attrC ++ attrC x)) (hg : ∀ k, va'.ownBlock = some k → va.ownBlock = some k ∨ W.heap.size ≤ k) (hi : i + 1 ≤ i') :
    F3 B D p8 p9 p10 p11 p12 v13 v14 v15 p16 va' (la ++ [x]) i' W' := by
  refine ⟨h.dl, hC, by simpa using ho, by simp; have := h.le; omega, h.keep.step hc ?_⟩
  rintro k (hk | hk)
  · exact .inr (.inl hk)
  · exact (hg k hk).elim (fun h => .inr (.inr h)) .inl
end
end Go.Proofs.YtimonhimfioohaaGreatDoor

namespace Go.Proofs.YtimonhimfioohaaGreatDoor
open Go.RowKit

section
variable {ae : Addr} {S : Nat → Prop} {B D C : Nat} {s : ByteArray} {w0 : World} {cs : Array Value} {i i' ip : Nat} {W W' : World} {F : World → Prop}
variable {p8 p9 p10 p11 p12 p16 : Option Addr} {v13 v14 v15 va vc vm vm' v18 v3 v4 v7 v9 : Value} {la lm : List (ByteArray × ByteArray)} {bs : List Nat} {b : Nat} {q2 q5 q6 q8 : Option Addr} {lb : List (Bool × ByteArray × Int)}

theorem MedF.keeps {X : Nat → Prop} (h : MedF q2 v3 v4 q5 q6 q8 W) (h1 : NotT W X 3) (h2 : NotT W X 9) (h3 : NotT W X 179) (h4 : NotT W X 256) (h5 : NotT W X 258) (h6 : NotT W X 187) : Keeps (MedF q2 v3 v4 q5 q6 q8) X W :=
  ((((((Keeps.ptr h.a2 h1).and (h.b3.keeps h2)).and (h.b4.keeps h2)).and (Keeps.ptr h.a5 h3)).and (Keeps.conn h.a6 h4 h5 h1)).and (Keeps.ptr h.a8 h6)).imp fun _ k => ⟨k.1.1.1.1.1, k.1.1.1.1.2, k.1.1.1.2, k.1.1.2, k.1.2, k.2⟩

theorem F3.attrRd (h : F3 B D p8 p9 p10 p11 p12 v13 v14 v15 p16 va la i W) (hi : i ≤ 100000) : AttrRd va W := ⟨la, by have := h.le; omega, own0 h.own⟩

/-- Ahead of the first medium. -/
theorem F3.open5 (h : F3 B D p8 p9 p10 p11 p12 v13 v14 v15 p16 va la i W) (_hs : St ae S B D C s w0 cs ip W) (hi : i ≤ 100000) :
    F5 B D (fun W => SesRd p8 p9 p10 p11 p12 v13 v14 v15 p16 W ∧ AttrRd va W) va (.slice none 0 0) (.slice none 0 0) [] i W := by
  have hd := h.dl
  have hX : ∀ k, X5 B D (.slice none 0 0) (.slice none 0 0) k → (k = B ∨ k = D) ∨ k = B + 1 := by
    rintro k ((hk | hk) | hk)
    · exact hk
    · cases hk
    · cases hk
  refine ⟨h.dl, h.cache, World.ownsRow_nil _ _ _ _, World.ownsRow_nil _ _ _ _, Nat.zero_le _, ?_⟩
  exact ((h.keep.less fun k hk => .inl (hX k hk)).and ((h.attrRd hi).keeps fun k hk hv => by
    have := (h.own.lt k hv).1
    have := hX k hk
    omega)).imp fun _ k => ⟨k, by simp⟩

theorem F5.notT (h : F5 B D F vc vm v18 bs i W) (hs : St ae S B D C s w0 cs ip W) {T : TypeId} (h1 : 170 ≠ T) (h2 : 108 ≠ T) (h3 : 172 ≠ T) (h4 : 240 ≠ T) (h5 : 145 ≠ T) : NotT W (X5 B D vm v18) T :=
  (((hs.ty2 h1 h2).or (NotT.one h.cache h3)).or (NotT.own h.ownm h4)).or (NotT.own h.own18 h5)

/-- A medium begins. -/
theorem F5.med (h : F5 B D F vc vm v18 bs i W) {cs' : Array Value} (hs : St ae S B D C s w0 cs' ip W') (hc : Ch (fun k => (k = B ∨ k = D) ∨ v18.ownBlock = some k) W W') {g cap : Nat}
    (ho : W'.ownsRow (B + 2) 145 1 (.slice (some ⟨g, 0, none⟩) (bs.length + 1) cap) (bs.length + 1) (bs.flatMap ptrC ++ ptrC b)) (hg : v18.ownBlock = some g ∨ W.heap.size ≤ g)
    (hb : W'.heap[b]? = some (.cells (mC none v3 v4 none none (.slice none 0 0) none (.slice none 0 0)) 226 (0, 0))) (hbl : W.heap.size ≤ b) (h3 : StrsRd v3 W') (h4 : StrsRd v4 W') (hi : i + 1 ≤ i') :
    F4 B D F vc vm (.slice (some ⟨g, 0, none⟩) (bs.length + 1) cap) [] bs b none v3 v4 none none (.slice none 0 0) none [] i' W' := by
  have hd := h.dl
  have hcl := blk_lt h.cache
  have hX : ∀ k, X4 B D b vm (.slice (some ⟨g, 0, none⟩) (bs.length + 1) cap) (.slice none 0 0) k → W.heap.size ≤ k ∨ X5 B D vm v18 k := by
    rintro k (((hk | hk) | hk) | hk)
    · exact .inr (.inl hk)
    · obtain rfl : g = k := by simpa [Value.ownBlock] using hk
      exact hg.elim (fun h => .inr (.inr h)) .inl
    · exact .inl (by omega)
    · cases hk
  have hck : ∀ k, ((k = B ∨ k = D) ∨ v18.ownBlock = some k) → k = B ∨ k = D ∨ B + 2 ≤ k := by
    rintro k ((hk | hk) | hk)
    · exact .inl hk
    · exact .inr (.inl hk)
    · exact .inr (.inr (h.own18.lt k hk).1)
  have hcache := (hc.block _ hcl (fun e => by have := hck _ e; omega)).trans h.cache
  have hm : W'.ownsRow (B + 2) 240 2 vm 0 [] := own_chX h.ownm hc (by
    rintro k (hk | hk) hv
    · have := (h.ownm.lt k hv).1
      omega
    · rcases h.own18.2 with ⟨he, _⟩ | ⟨g', cap', cur, he, _, hb', _⟩
      · rw [he] at hk; cases hk
      · rw [he] at hk
        obtain rfl : g' = k := by simpa [Value.ownBlock] using hk
        exact absurd (own_type h.ownm hv hb') (by decide))
  have hT : ∀ {T : TypeId}, 170 ≠ T → 108 ≠ T → 172 ≠ T → 240 ≠ T → 145 ≠ T → 226 ≠ T → NotT W' (X4 B D b vm (.slice (some ⟨g, 0, none⟩) (bs.length + 1) cap) (.slice none 0 0)) T := fun h1 h2 h3 h4 h5 h6 =>
    ((((((hs.ty2 h1 h2).or (NotT.one hcache h3)).or (NotT.own hm h4)).or (NotT.own ho h5)).or (NotT.one hb h6))).or NotT.nil
  refine ⟨h.dl, hcache, hm, Nat.zero_le _, by simpa using ho, by have := h.le18; omega, by omega, hb, World.ownsRow_nil _ _ _ _, Nat.zero_le _, ?_⟩
  have hk := h.keep.step (hc.mono fun k hk => hk.elim (fun h => .inl (.inl (.inl h))) .inr) hX
  have hf : MedF none v3 v4 none none none W' := ⟨Ptr.nil _ _ _, h3, h4, Ptr.nil _ _ _, Ptr.nil _ _ _, Ptr.nil _ _ _⟩
  exact hk.and (hf.keeps (hT (by decide) (by decide) (by decide) (by decide) (by decide) (by decide)) (hT (by decide) (by decide) (by decide) (by decide) (by decide) (by decide)) (hT (by decide) (by decide) (by decide) (by decide) (by decide) (by decide)) (hT (by decide) (by decide) (by decide) (by decide) (by decide) (by decide)) (hT (by decide) (by decide) (by decide) (by decide) (by decide) (by decide)) (hT (by decide) (by decide) (by decide) (by decide) (by decide) (by decide)))

theorem F4.notT (h : F4 B D F vc vm v18 lm bs b q2 v3 v4 q5 q6 v7 q8 lb i W) (hs : St ae S B D C s w0 cs ip W) {T : TypeId} (h1 : 170 ≠ T) (h2 : 108 ≠ T) (h3 : 172 ≠ T) (h4 : 240 ≠ T) (h5 : 145 ≠ T) (h6 : 226 ≠ T) (h7 : 134 ≠ T) : NotT W (X4 B D b vm v18 v7) T :=
  ((((((hs.ty2 h1 h2).or (NotT.one h.cache h3)).or (NotT.own h.ownm h4)).or (NotT.own h.own18 h5)).or (NotT.one h.med h6))).or (NotT.own h.own7 h7)

/-- The row of a type is not a block of another one. -/
theorem own_ne {e size n : Nat} {v : Value} {xs : List Value} {B0 k T : Nat} {ct : Array Value} {fr : Nat × Nat} (h : W.ownsRow B0 e size v n xs) (hb : W.heap[k]? = some (.cells ct T fr)) (hT : T ≠ e) : v.ownBlock ≠ some k := fun hv => hT (own_type h hv hb)
theorem own_ne2 {e e' size size' n n' : Nat} {v v' : Value} {xs xs' : List Value} {B0 B1 k : Nat} (h : W.ownsRow B0 e size v n xs) (h' : W.ownsRow B1 e' size' v' n' xs') (hT : e' ≠ e) (hv' : v'.ownBlock = some k) : v.ownBlock ≠ some k := by
  rcases h'.2 with ⟨he, _⟩ | ⟨g', cap', cur, he, _, hb', _⟩
  · rw [he] at hv'; cases hv'
  · rw [he] at hv'
    obtain rfl : g' = k := by simpa [Value.ownBlock] using hv'
    exact own_ne h hb' hT

theorem F4.pass (h : F4 B D F vc vm v18 lm bs b q2 v3 v4 q5 q6 v7 q8 lb i W) (hc : Ch (fun k => k = B ∨ k = D) W W') (hi : i ≤ i') : F4 B D F vc vm v18 lm bs b q2 v3 v4 q5 q6 v7 q8 lb i' W' := by
  have hd := h.dl
  have hlow : ∀ {e size n : Nat} {v : Value} {xs : List Value}, W.ownsRow (B + 2) e size v n xs → ∀ k, (k = B ∨ k = D) → v.ownBlock ≠ some k := fun ho k hk hv => by
    have := (ho.lt k hv).1
    omega
  refine ⟨h.dl, (hc.block _ (blk_lt h.cache) (by omega)).trans h.cache, own_chX h.ownm hc (hlow h.ownm), Nat.le_trans h.lem hi, own_chX h.own18 hc (hlow h.own18), Nat.le_trans h.le18 hi, h.bl, (hc.block _ (blk_lt h.med) (by have := h.bl; omega)).trans h.med, own_chX h.own7 hc (hlow h.own7), Nat.le_trans h.le7 hi, h.keep.same (hc.mono fun _ hk => .inl (.inl (.inl (.inl (.inl hk)))))⟩

/-- A line that writes into the medium's own block: its new cells, the new kept facts. -/
theorem F4.put (h : F4 B D F vc vm v18 lm bs b q2 v3 v4 q5 q6 v7 q8 lb i W) {cs' : Array Value} (hs : St ae S B D C s w0 cs' ip W') (hc : Ch (fun k => (k = B ∨ k = D) ∨ k = b) W W') (hi : i ≤ i')
    {q5' q6' q8' : Option Addr} (hb : W'.heap[b]? = some (.cells (mC q2 v3 v4 q5' q6' v7 q8' (.slice none 0 0)) 226 (0, 0)))
    (hn : ∀ (_k : MedF q2 v3 v4 q5 q6 q8 W'), MedF q2 v3 v4 q5' q6' q8' W') : F4 B D F vc vm v18 lm bs b q2 v3 v4 q5' q6' v7 q8' lb i' W' := by
  have hd := h.dl
  have hbl := h.bl
  have hlow : ∀ {e size n : Nat} {v : Value} {xs : List Value}, W.ownsRow (B + 2) e size v n xs → 226 ≠ e → ∀ k, ((k = B ∨ k = D) ∨ k = b) → v.ownBlock ≠ some k := fun ho hT k hk hv => by
    rcases hk with hk | hk
    · have := (ho.lt k hv).1
      omega
    · subst hk
      exact own_ne ho h.med hT hv
  have hk := h.keep.same (hc.mono fun _ hk => hk.elim (fun h => .inl (.inl (.inl (.inl (.inl h))))) (fun h => .inl (.inr h)))
  have hF : F4 B D F vc vm v18 lm bs b q2 v3 v4 q5' q6' v7 q8' lb i' W' → F4 B D F vc vm v18 lm bs b q2 v3 v4 q5' q6' v7 q8' lb i' W' := id
  have hcache := (hc.block _ (blk_lt h.cache) (by omega)).trans h.cache
  have hm := own_chX h.ownm hc (hlow h.ownm (by decide))
  have h18 := own_chX h.own18 hc (hlow h.own18 (by decide))
  have h7 := own_chX h.own7 hc (hlow h.own7 (by decide))
  have hT : ∀ {T : TypeId}, 170 ≠ T → 108 ≠ T → 172 ≠ T → 240 ≠ T → 145 ≠ T → 226 ≠ T → 134 ≠ T → NotT W' (X4 B D b vm v18 v7) T := fun h1 h2 h3 h4 h5 h6 h7' =>
    ((((((hs.ty2 h1 h2).or (NotT.one hcache h3)).or (NotT.own hm h4)).or (NotT.own h18 h5)).or (NotT.one hb h6))).or (NotT.own h7 h7')
  refine ⟨h.dl, hcache, hm, Nat.le_trans h.lem hi, h18, Nat.le_trans h.le18 hi, h.bl, hb, h7, Nat.le_trans h.le7 hi, ?_⟩
  exact (hk.imp fun _ k => k.1).and ((hn hk.now.2).keeps (hT (by decide) (by decide) (by decide) (by decide) (by decide) (by decide) (by decide)) (hT (by decide) (by decide) (by decide) (by decide) (by decide) (by decide) (by decide)) (hT (by decide) (by decide) (by decide) (by decide) (by decide) (by decide) (by decide)) (hT (by decide) (by decide) (by decide) (by decide) (by decide) (by decide) (by decide)) (hT (by decide) (by decide) (by decide) (by decide) (by decide) (by decide) (by decide)) (hT (by decide) (by decide) (by decide) (by decide) (by decide) (by decide) (by decide)))

/-- A bandwidth of a medium. -/
theorem F4.band (h : F4 B D F vc vm v18 lm bs b q2 v3 v4 q5 q6 v7 q8 lb i W) (hc : Ch (fun k => ((k = B ∨ k = D) ∨ k = b) ∨ v7.ownBlock = some k) W W') {v7' : Value} {x : Bool × ByteArray × Int}
    (ho : W'.ownsRow (B + 2) 134 3 v7' (lb.length + 1) (lb.flatMap bandC ++ bandC x)) (hg : ∀ k, v7'.ownBlock = some k → v7.ownBlock = some k ∨ W.heap.size ≤ k)
    (hb : W'.heap[b]? = some (.cells (mC q2 v3 v4 q5 q6 v7' q8 (.slice none 0 0)) 226 (0, 0))) (hi : i + 1 ≤ i') :
    F4 B D F vc vm v18 lm bs b q2 v3 v4 q5 q6 v7' q8 (lb ++ [x]) i' W' := by
  have hd := h.dl
  have hbl := h.bl
  have hlow : ∀ {e size n : Nat} {v : Value} {xs : List Value}, W.ownsRow (B + 2) e size v n xs → 226 ≠ e → 134 ≠ e → ∀ k, (((k = B ∨ k = D) ∨ k = b) ∨ v7.ownBlock = some k) → v.ownBlock ≠ some k := fun ho hT hT' k hk hv => by
    rcases hk with (hk | hk) | hk
    · have := (ho.lt k hv).1
      omega
    · subst hk
      exact own_ne ho h.med hT hv
    · exact own_ne2 ho h.own7 hT' hk hv
  have hcache := (hc.block _ (blk_lt h.cache) (by
    rintro ((hk | hk) | hk)
    · omega
    · omega
    · have := (h.own7.lt _ hk).1
      omega)).trans h.cache
  refine ⟨h.dl, hcache, own_chX h.ownm hc (hlow h.ownm (by decide) (by decide)), by have := h.lem; omega, own_chX h.own18 hc (hlow h.own18 (by decide) (by decide)), by have := h.le18; omega, h.bl, hb, by simpa using ho, by simp; have := h.le7; omega, h.keep.step (hc.mono ?_) ?_⟩
  · rintro k ((hk | hk) | hk)
    · exact .inl (.inl (.inl (.inl (.inl hk))))
    · exact .inl (.inr hk)
    · exact .inr hk
  · rintro k (hk | hk)
    · exact .inr (.inl hk)
    · exact (hg k hk).elim (fun h => .inr (.inr h)) .inl

/-- An attribute of a medium. -/
theorem F4.attr (h : F4 B D F vc vm v18 lm bs b q2 v3 v4 q5 q6 v7 q8 lb i W) (hc : Ch (fun k => ((k = B ∨ k = D) ∨ k = B + 1) ∨ vm.ownBlock = some k) W W') {x : ByteArray × ByteArray}
    (hC : W'.heap[B + 1]? = some (.cells #[vc, vm'] 172 (0, 0)))
    (ho : W'.ownsRow (B + 2) 240 2 vm' (lm.length + 1) (lm.flatMap attrC ++ attrC x)) (hg : ∀ k, vm'.ownBlock = some k → vm.ownBlock = some k ∨ W.heap.size ≤ k) (hi : i + 1 ≤ i') :
    F4 B D F vc vm' v18 (lm ++ [x]) bs b q2 v3 v4 q5 q6 v7 q8 lb i' W' := by
  have hd := h.dl
  have hbl := h.bl
  have hlow : ∀ {e size n : Nat} {v : Value} {xs : List Value}, W.ownsRow (B + 2) e size v n xs → 240 ≠ e → ∀ k, (((k = B ∨ k = D) ∨ k = B + 1) ∨ vm.ownBlock = some k) → v.ownBlock ≠ some k := fun ho hT k hk hv => by
    rcases hk with hk | hk
    · have := (ho.lt k hv).1
      omega
    · exact own_ne2 ho h.ownm hT hk hv
  have hmed := (hc.block _ (blk_lt h.med) (by
    rintro (hk | hk)
    · omega
    · exact own_ne h.ownm h.med (by decide) hk)).trans h.med
  refine ⟨h.dl, hC, by simpa using ho, by simp; have := h.lem; omega, own_chX h.own18 hc (hlow h.own18 (by decide)), by have := h.le18; omega, h.bl, hmed, own_chX h.own7 hc (hlow h.own7 (by decide)), by have := h.le7; omega, h.keep.step (hc.mono ?_) ?_⟩
  · rintro k (hk | hk)
    · exact .inl (.inl (.inl (.inl hk)))
    · exact .inl (.inl (.inl (.inr hk)))
  · rintro k (((hk | hk) | hk) | hk)
    · rcases hk with hk | hk
      · exact .inr (.inl (.inl (.inl (.inl hk))))
      · exact (hg k hk).elim (fun h => .inr (.inl (.inl (.inl (.inr h))))) .inl
    · exact .inr (.inl (.inl (.inr hk)))
    · exact .inr (.inl (.inr hk))
    · exact .inr (.inr hk)

/-- A medium is shut: it has its attributes. -/
theorem F4.shut (h : F4 B D F vc vm v18 lm bs b q2 v3 v4 q5 q6 v7 q8 lb i W) (hs : St ae S B D C s w0 cs ip W') (hc : Ch (fun k => k = b ∨ k = B + 1) W W') (hC : W'.heap[B + 1]? = some (.cells #[vc, vm'] 172 (0, 0)))
    (hb : W'.heap[b]? = some (.cells (mC q2 v3 v4 q5 q6 v7 q8 v9) 226 (0, 0))) (hm : W'.ownsRow (B + 2) 240 2 vm' 0 []) (hm' : ∀ k, vm'.ownBlock = some k → vm.ownBlock = some k)
    (h9 : AttrRd v9 W') (h9' : ∀ k, v9.ownBlock = some k → W.heap.size ≤ k) (hi : i ≤ 100000) :
    F5 B D F vc vm' v18 (bs ++ [b]) i W' := by
  have hd := h.dl
  have hbl := h.bl
  have hlow : ∀ {e size n : Nat} {v : Value} {xs : List Value}, W.ownsRow (B + 2) e size v n xs → 226 ≠ e → ∀ k, (k = b ∨ k = B + 1) → v.ownBlock ≠ some k := fun ho hT k hk hv => by
    rcases hk with hk | hk
    · subst hk
      exact own_ne ho h.med hT hv
    · have := (ho.lt k hv).1
      omega
  have h18 := own_chX h.own18 hc (hlow h.own18 (by decide))
  have h7 := own_chX h.own7 hc (hlow h.own7 (by decide))
  have hX : ∀ k, X5 B D vm' v18 k → X4 B D b vm v18 v7 k := by
    rintro k ((hk | hk) | hk)
    · exact .inl (.inl (.inl (.inl hk)))
    · exact .inl (.inl (.inl (.inr (hm' k hk))))
    · exact .inl (.inl (.inr hk))
  have hT : ∀ {T : TypeId}, 170 ≠ T → 108 ≠ T → 172 ≠ T → 240 ≠ T → 145 ≠ T → NotT W' (X5 B D vm' v18) T := fun h1 h2 h3 h4 h5 =>
    (((hs.ty2 h1 h2).or (NotT.one hC h3)).or (NotT.own hm h4)).or (NotT.own h18 h5)
  have hk := h.keep.step (hc.mono fun k hk => hk.elim (fun h => .inl (.inr h)) (fun h => .inl (.inl (.inl (.inl (.inr h)))))) fun k hk => .inr (hX k hk)
  have hband : BandRd v7 W' := ⟨lb, by have := h.le7; omega, own0 h7⟩
  have h9k : Keeps (AttrRd v9) (X5 B D vm' v18) W' := h9.keeps fun k hk hv => by
    have hv9 := h9' k hv
    rcases hk with (((hk | hk) | hk) | hk) | hk
    · have := blk_lt h.cache; omega
    · have := blk_lt h.cache; omega
    · have := blk_lt h.cache; omega
    · have := (h.ownm.lt k (hm' k hk)).2; omega
    · have := (h.own18.lt k hk).2; omega
  refine ⟨h.dl, hC, hm, by simpa using h18, by simp; exact h.le18, ?_⟩
  refine ((((hk.and (Keeps.block hb (hT (by decide) (by decide) (by decide) (by decide) (by decide)))).and (hband.keeps (hT (by decide) (by decide) (by decide) (by decide) (by decide)))).and h9k)).imp fun _ k => ⟨k.1.1.1.1.1, fun b' hb' => ?_⟩
  rcases List.mem_append.1 hb' with hb' | hb'
  · exact k.1.1.1.1.2 b' hb'
  · rw [List.mem_singleton.1 hb']
    exact ⟨q2, v3, v4, q5, q6, v7, q8, v9, k.1.1.2, k.1.1.1.2, k.1.2, k.2⟩
end
end Go.Proofs.YtimonhimfioohaaGreatDoor
