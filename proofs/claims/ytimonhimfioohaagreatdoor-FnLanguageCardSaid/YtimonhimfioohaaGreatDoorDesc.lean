/- The state of the parse: the lexer's block, the description's block, what else is kept. -/
import Derived.Test.YtimonhimfioohaaGreatDoorHandle
import Derived.Deep.RegionHeld3
import Derived.Test.YtimonhimfioohaaGreatDoorShelf
namespace Go.Proofs.YtimonhimfioohaaGreatDoor
open Go.RowKit

/-- All blocks of w but those that meet S are in w' as they were. -/
structure Ch (S : Nat → Prop) (w w' : World) : Prop where
  os : w'.os = w.os
  tape : w'.tape = w.tape
  output : w'.output = w.output
  size : w.heap.size ≤ w'.heap.size
  block : ∀ k, k < w.heap.size → ¬ S k → w'.heap[k]? = w.heap[k]?

theorem Ch.refl (S : Nat → Prop) (w : World) : Ch S w w := ⟨rfl, rfl, rfl, Nat.le_refl _, fun _ _ _ => rfl⟩
theorem Ch.trans {S : Nat → Prop} {a b c : World} (h : Ch S a b) (k : Ch S b c) : Ch S a c :=
  ⟨k.os.trans h.os, k.tape.trans h.tape, k.output.trans h.output, Nat.le_trans h.size k.size, fun i hi hs => (k.block i (Nat.lt_of_lt_of_le hi h.size) hs).trans (h.block i hi hs)⟩
theorem Ch.mono {S T : Nat → Prop} {w w' : World} (h : Ch S w w') (hST : ∀ k, S k → T k) : Ch T w w' :=
  ⟨h.os, h.tape, h.output, h.size, fun k hk hT => h.block k hk fun hS => hT (hST k hS)⟩
theorem Ch.set {S : Nat → Prop} (w : World) {k j : Nat} (hS : S k) (v : Value) : Ch S w (w.setCell ⟨k, j, none⟩ v) :=
  ⟨rfl, rfl, rfl, by simp [World.setCell], fun i _ hi => Below.heap_setCell w _ v i (fun e => hi (by subst e; exact hS))⟩
theorem Ch.of_heap {S : Nat → Prop} {a w w' : World} (h : Ch S a w) (h1 : w'.heap = w.heap) (h2 : w'.os = w.os) (h3 : w'.tape = w.tape) (h4 : w'.output = w.output) : Ch S a w' :=
  ⟨h2.trans h.os, h3.trans h.tape, h4.trans h.output, by rw [h1]; exact h.size, by rw [h1]; exact h.block⟩
theorem Ch.below {B : Nat} {w w' : World} (h : Ch (fun k => B ≤ k) w w') (hB : B ≤ w.heap.size) : Below B w w' :=
  ⟨h.os, h.tape, h.output, h.size, fun k hk => h.block k (by omega) (by omega)⟩

theorem blk_cell {w : World} {k j : Nat} {cs : Array Value} {t : TypeId} {fr : Nat × Nat} {v : Value} (h : w.heap[k]? = some (.cells cs t fr)) (hv : cs[j]? = some v) : w.cell? ⟨k, j, none⟩ = some v := by
  simp [World.cell?, h, hv]
theorem blk_frozen {w : World} {k j : Nat} {cs : Array Value} {t : TypeId} (h : w.heap[k]? = some (.cells cs t (0, 0))) : w.frozen? ⟨k, j, none⟩ = false := by
  simp [World.frozen?, h]
theorem blk_set {w : World} {k j : Nat} {cs : Array Value} {t : TypeId} {fr : Nat × Nat} (v : Value) (h : w.heap[k]? = some (.cells cs t fr)) : (w.setCell ⟨k, j, none⟩ v).heap[k]? = some (.cells (cs.setIfInBounds j v) t fr) := by
  simp [World.setCell, Array.getElem?_modify, h]
theorem blk_set_other {w : World} {k k' j : Nat} (v : Value) (hne : k ≠ k') : (w.setCell ⟨k, j, none⟩ v).heap[k']? = w.heap[k']? := by
  simp [World.setCell, Array.getElem?_modify, hne]
theorem blk_lt {w : World} {k : Nat} {o : Obj} (h : w.heap[k]? = some o) : k < w.heap.size := (Array.getElem?_eq_some_iff.1 h).1

theorem Mv.blk_other {b o j k : Nat} {w w' : World} (h : Mv b o j w w') (hk : b ≠ k) : w'.heap[k]? = w.heap[k]? := by rw [h.heap]; exact blk_set_other _ hk
theorem Mv.blk_same {b o j : Nat} {w w' : World} {cs : Array Value} {t : TypeId} {fr : Nat × Nat} (h : Mv b o j w w') (hb : w.heap[b]? = some (.cells cs t fr)) :
    w'.heap[b]? = some (.cells (cs.setIfInBounds o (.int .i64 j)) t fr) := by rw [h.heap]; exact blk_set _ hb
theorem Mv.ch {b o j : Nat} {S : Nat → Prop} {w w' : World} (h : Mv b o j w w') (hS : S b) : Ch S w w' :=
  (Ch.set (j := o) w hS (.int .i64 j)).of_heap h.heap h.os h.tape h.output

/-- The parse stands at i: the lexer's block L, the description's block D with the cells cs, the cache's block C; since w0 only blocks that meet S have changed. -/
structure St (ae : Addr) (S : Nat → Prop) (L D C : Nat) (s : ByteArray) (w0 : World) (cs : Array Value) (i : Nat) (w : World) : Prop where
  lexb : w.heap[L]? = some (.cells #[.pointer (some ⟨D, 0, none⟩), .pointer (some ⟨C, 0, none⟩), .string s, .int .i64 i] 170 (0, 0))
  desc : w.heap[D]? = some (.cells cs 108 (0, 0))
  eof : w.cell? ⟨6, 0, none⟩ = some (.iface 342 (.pointer (some ae)))
  l6 : L ≠ 6
  d6 : D ≠ 6
  ld : L ≠ D
  sz : s.size ≤ 9223372036854775806
  le : i ≤ s.size
  csz : cs.size = 19
  ch : Ch S w0 w
  sl : S L
  sd : S D

section
variable {ae : Addr} {S : Nat → Prop} {L D C : Nat} {s : ByteArray} {w0 : World} {cs : Array Value} {i : Nat} {w : World}
theorem St.lx (h : St ae S L D C s w0 cs i w) : Lx ae L 2 s i w :=
  ⟨blk_cell h.lexb rfl, blk_cell h.lexb rfl, blk_frozen h.lexb, h.eof, h.l6, h.sz, h.le⟩
theorem St.mv (h : St ae S L D C s w0 cs i w) {j : Nat} {w' : World} (m : Mv L (2 + 1) j w w') (hj : j ≤ s.size) : St ae S L D C s w0 cs j w' :=
  ⟨by rw [m.blk_same h.lexb]; rfl, by rw [m.blk_other h.ld]; exact h.desc, by rw [m.cell (by simp)]; exact h.eof, h.l6, h.d6, h.ld, h.sz, hj, h.csz, h.ch.trans (m.ch h.sl), h.sl, h.sd⟩
theorem St.set (h : St ae S L D C s w0 cs i w) (k : Nat) (v : Value) : St ae S L D C s w0 (cs.setIfInBounds k v) i (w.setCell ⟨D, k, none⟩ v) :=
  ⟨by rw [blk_set_other _ (Ne.symm h.ld)]; exact h.lexb, blk_set _ h.desc, by rw [World.cell?_setCell_other _ _ _ _ (by simp [h.d6])]; exact h.eof, h.l6, h.d6, h.ld, h.sz, h.le, by simp [h.csz], h.ch.trans (Ch.set w h.sd v), h.sl, h.sd⟩
theorem St.of_heap (h : St ae S L D C s w0 cs i w) {w' : World} (h1 : w'.heap = w.heap) (h2 : w'.os = w.os) (h3 : w'.tape = w.tape) (h4 : w'.output = w.output) : St ae S L D C s w0 cs i w' :=
  ⟨by rw [h1]; exact h.lexb, by rw [h1]; exact h.desc, by rw [cell?_heap h1]; exact h.eof, h.l6, h.d6, h.ld, h.sz, h.le, h.csz, h.ch.of_heap h1 h2 h3 h4, h.sl, h.sd⟩
theorem St.drew (h : St ae S L D C s w0 cs i w) : St ae S L D C s w0 cs i w.drew := h.of_heap rfl rfl rfl rfl
theorem St.drewN (h : St ae S L D C s w0 cs i w) (n : Nat) : St ae S L D C s w0 cs i (w.drewN n) := h.of_heap rfl rfl rfl rfl
theorem St.alloc (h : St ae S L D C s w0 cs i w) (o : Obj) : St ae S L D C s w0 cs i (w.alloc o) :=
  have hb : ∀ k, k < w.heap.size → (w.alloc o).heap[k]? = w.heap[k]? := fun k hk => Below.heap_alloc w o k hk
  have h6 : (w.alloc o).cell? ⟨6, 0, none⟩ = w.cell? ⟨6, 0, none⟩ := World.cell?_of_block (hb 6 (World.block_lt_of_cell? w _ h.eof))
  ⟨by rw [hb L (blk_lt h.lexb)]; exact h.lexb, by rw [hb D (blk_lt h.desc)]; exact h.desc, by rw [h6]; exact h.eof, h.l6, h.d6, h.ld, h.sz, h.le, h.csz,
    h.ch.trans ⟨rfl, rfl, rfl, by simp, fun k hk _ => hb k hk⟩, h.sl, h.sd⟩
theorem St.p0 (h : St ae S L D C s w0 cs i w) : w.cell? ⟨L, 0, none⟩ = some (.pointer (some ⟨D, 0, none⟩)) := blk_cell h.lexb rfl
theorem St.fz (h : St ae S L D C s w0 cs i w) (k : Nat) : w.frozen? ⟨D, k, none⟩ = false := blk_frozen h.desc
theorem St.dc (h : St ae S L D C s w0 cs i w) (k : Nat) (hk : k < 19) : ∃ v, w.cell? ⟨D, k, none⟩ = some v :=
  ⟨_, blk_cell h.desc (Array.getElem?_eq_getElem (by rw [h.csz]; exact hk))⟩
end

/-- The byte texts of the lines. -/
def lit (l : List Nat) : List UInt8 := l.map UInt8.ofNat

theorem step_drop {s : ByteArray} {i n : Nat} {l r : List UInt8} (h : s.data.toList.drop i = l) (hr : l.drop n = r) : s.data.toList.drop (i + n) = r := by
  rw [← List.drop_drop, h, hr]
theorem drop_len {s : ByteArray} {i n : Nat} {l : List UInt8} (h : s.data.toList.drop i = l) (hn : n ≤ l.length) (hi : i ≤ s.size) : i + n ≤ s.size := by
  have h1 := congrArg List.length h
  rw [List.length_drop] at h1
  have : s.data.toList.length = s.size := by simp
  omega

end Go.Proofs.YtimonhimfioohaaGreatDoor
