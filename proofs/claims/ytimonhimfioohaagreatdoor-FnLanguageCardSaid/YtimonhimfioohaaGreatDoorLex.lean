/- Contracts of the lexer's small functions (package sdp) and of errors.Is at io.EOF: each by its walk. -/
import Derived.Test.YtimonhimfioohaaGreatDoorRows
import Derived.WalkKit
import Derived.WalkSpells
import Derived.WalkLawsBesides
import Derived.LaidEql
import Derived.Deep.QuietTactic
import Derived.BigQuiet
import Derived.Lib.Hide
import Derived.Deep.LoopGhost
namespace Go.Proofs.YtimonhimfioohaaGreatDoor
open Go.RowKit

/-- The world in which the cell at offset o of block b holds j and nothing else has changed. -/
structure Mv (b o j : Nat) (w w' : World) : Prop where
  os : w'.os = w.os
  tape : w'.tape = w.tape
  output : w'.output = w.output
  heap : w'.heap = (w.setCell ⟨b, o, none⟩ (.int .i64 j)).heap

theorem cell?_heap {w w' : World} (h : w'.heap = w.heap) (a : Addr) : w'.cell? a = w.cell? a := by simp [World.cell?, h]
theorem frozen?_heap {w w' : World} (h : w'.heap = w.heap) (a : Addr) : w'.frozen? a = w.frozen? a := by simp [World.frozen?, h]

theorem Mv.cell {b o j : Nat} {w w' : World} (h : Mv b o j w w') {a : Addr} (ha : (⟨b, o, none⟩ : Addr) ≠ a) : w'.cell? a = w.cell? a := by
  rw [cell?_heap h.heap, World.cell?_setCell_other _ _ _ _ ha]
theorem Mv.frozen {b o j : Nat} {w w' : World} (h : Mv b o j w w') (a : Addr) : w'.frozen? a = w.frozen? a := by
  rw [frozen?_heap h.heap, World.frozen?_setCell]
theorem Mv.pos {b o j : Nat} {w w' : World} (h : Mv b o j w w') {u : Value} (hu : w.cell? ⟨b, o, none⟩ = some u) : w'.cell? ⟨b, o, none⟩ = some (.int .i64 j) := by
  rw [cell?_heap h.heap]; exact World.cell?_setCell_same _ _ _ hu

theorem setCell_setCell_heap (w : World) (a : Addr) (u v : Value) : ((w.setCell a u).setCell a v).heap = (w.setCell a v).heap := by
  apply Array.ext_getElem?
  intro i
  simp only [World.setCell, Array.getElem?_modify]
  by_cases h : a.block = i
  · simp only [h, if_true]
    cases w.heap[i]? with
    | none => rfl
    | some ob => cases ob <;> simp <;> (try split) <;> simp
  · simp only [h, if_false]

theorem setCell_heap {w w' : World} (h : w'.heap = w.heap) (a : Addr) (v : Value) : (w'.setCell a v).heap = (w.setCell a v).heap := by
  simp [World.setCell, h]

theorem Mv.trans {b o j k : Nat} {w w1 w2 : World} (h : Mv b o j w w1) (h2 : Mv b o k w1 w2) : Mv b o k w w2 :=
  ⟨h2.os.trans h.os, h2.tape.trans h.tape, h2.output.trans h.output, by rw [h2.heap, setCell_heap h.heap, setCell_setCell_heap]⟩

/-- The lexer's base at ⟨b, o⟩: its text s, its position i; io.EOF's cell. -/
structure Lx (ae : Addr) (b o : Nat) (s : ByteArray) (i : Nat) (w : World) : Prop where
  str : w.cell? ⟨b, o, none⟩ = some (.string s)
  pos : w.cell? ⟨b, o + 1, none⟩ = some (.int .i64 i)
  fr : w.frozen? ⟨b, o + 1, none⟩ = false
  eof : w.cell? ⟨6, 0, none⟩ = some (.iface 342 (.pointer (some ae)))
  ne : b ≠ 6
  sz : s.size ≤ 9223372036854775806
  le : i ≤ s.size

theorem Lx.mv {ae : Addr} {b o i j : Nat} {s : ByteArray} {w w' : World} (h : Lx ae b o s i w) (m : Mv b (o + 1) j w w') (hj : j ≤ s.size) : Lx ae b o s j w' :=
  ⟨by rw [m.cell (by simp)]; exact h.str, m.pos h.pos, by rw [m.frozen]; exact h.fr, by rw [m.cell (by simp)]; exact h.eof, h.ne, h.sz, hj⟩

theorem Lx.refl {ae : Addr} {b o i : Nat} {s : ByteArray} {w : World} (h : Lx ae b o s i w) : Mv b (o + 1) i w w := by
  refine ⟨rfl, rfl, rfl, ?_⟩
  have hp := h.pos
  apply Array.ext_getElem?
  intro k
  simp only [World.setCell, Array.getElem?_modify]
  by_cases hk : b = k
  · subst hk
    simp only [if_true]
    unfold World.cell? at hp
    dsimp only at hp
    cases hh : w.heap[b]? with
    | none => simp
    | some ob =>
      rw [hh] at hp
      cases ob with
      | cells c e f =>
        simp only [Option.isSome_none, Bool.false_eq_true, if_false] at hp
        simp only [Option.map_some, Option.isSome_none, Bool.false_eq_true, if_false]
        congr 2
        obtain ⟨hlt, hv⟩ := Array.getElem?_eq_some_iff.1 hp
        rw [Array.setIfInBounds_def]
        simp only [hlt, dif_pos]
        apply Array.ext_getElem?
        intro m
        by_cases hm : o + 1 = m
        · subst hm; simp [hlt, hv]
        · rw [Array.getElem?_set_ne (h := hlt) hm]
      | _ => simp at hp
  · simp only [hk, if_false]

theorem Lx.of_drewN {ae : Addr} {b o i : Nat} {s : ByteArray} {w : World} (h : Lx ae b o s i w) (n : Nat) : Lx ae b o s i (w.drewN n) :=
  ⟨h.str, h.pos, h.fr, h.eof, h.ne, h.sz, h.le⟩

theorem newline_yes (c : Int) (w : World) (h : c = 10 ∨ c = 13) : Calls Tryz.prog 171 #[.int .u8 c] w fun e w' => e = .returned (.bool true) ∧ w = w' := by
  rcases h with rfl | rfl
  all_goals
    go_enter Tryz.func171, Tryz.ntmps171
    go_wp2
    go_ret
    exact ⟨rfl, rfl⟩
theorem newline_no (c : Int) (w : World) (h1 : (c == 10) = false) (h2 : (c == 13) = false) : Calls Tryz.prog 171 #[.int .u8 c] w fun e w' => e = .returned (.bool false) ∧ w = w' := by
  go_enter Tryz.func171, Tryz.ntmps171
  go_wp2
  go_ret
  exact ⟨rfl, rfl⟩
theorem blank_yes (c : Int) (w : World) (h : c = 32 ∨ c = 9) : Calls Tryz.prog 175 #[.int .u8 c] w fun e w' => e = .returned (.bool true) ∧ w = w' := by
  rcases h with rfl | rfl
  all_goals
    go_enter Tryz.func175, Tryz.ntmps175
    go_wp2
    go_ret
    exact ⟨rfl, rfl⟩
theorem blank_no (c : Int) (w : World) (h1 : (c == 32) = false) (h2 : (c == 9) = false) : Calls Tryz.prog 175 #[.int .u8 c] w fun e w' => e = .returned (.bool false) ∧ w = w' := by
  go_enter Tryz.func175, Tryz.ntmps175
  go_wp2
  go_ret
  exact ⟨rfl, rfl⟩

theorem copyString_any (p : Value) (s : ByteArray) (w : World) : Calls Tryz.prog 197 #[p, .string s] w fun e w' => e = .returned (.string s) ∧ w = w' := by
  go_enter Tryz.func197, Tryz.ntmps197
  go_wp2
  go_ret
  exact ⟨rfl, rfl⟩

set_option maxHeartbeats 400000 in
theorem readByte_ok {ae : Addr} {b o : Nat} {s : ByteArray} {i : Nat} {w : World} (h : Lx ae b o s i w) (hi : i < s.size) :
    Calls Tryz.prog 170 #[.pointer (some ⟨b, o, none⟩)] w fun e w' => e = .returned (.tuple #[.int .u8 s[i].toNat, .nilIface]) ∧ Mv b (o + 1) (i + 1) w w' := by
  have h0 := h.str
  have h1 := h.pos
  have hf := h.fr
  have hs := h.sz
  clear h
  have hlt : decide ((s.size : Int) ≤ (i : Int)) = false := by simp; omega
  have hlt' : (i : Int) < (s.size : Int) := by omega
  go_enter Tryz.func170, Tryz.ntmps170
  go_wp2
  go_quiet (fail)
  go_wp2
  go_quiet (fail)
  go_wp2
  go_ret2
  exact ⟨rfl, rfl, rfl, rfl, rfl⟩

set_option maxHeartbeats 400000 in
theorem readByte_eof {ae : Addr} {b o : Nat} {s : ByteArray} {i : Nat} {w : World} (h : Lx ae b o s i w) (hi : i = s.size) :
    Calls Tryz.prog 170 #[.pointer (some ⟨b, o, none⟩)] w fun e w' => e = .returned (.tuple #[.int .u8 0, .iface 342 (.pointer (some ae))]) ∧ Mv b (o + 1) i w w' := by
  have hr := h.refl
  have h0 := h.str
  have h1 := h.pos
  have he := h.eof
  have hs := h.sz
  have HR := Lib.hid hr
  subst hi
  clear h hr
  have hlt : decide ((s.size : Int) ≤ (s.size : Int)) = true := by simp
  go_enter Tryz.func170, Tryz.ntmps170
  go_wp2
  go_quiet (fail)
  go_wp2
  go_quiet (fail)
  go_wp2
  go_ret2
  exact ⟨rfl, HR.out.os, HR.out.tape, HR.out.output, HR.out.heap⟩

theorem unread_ok {ae : Addr} {b o : Nat} {s : ByteArray} {i : Nat} {w : World} (h : Lx ae b o s (i + 1) w) :
    Calls Tryz.prog 174 #[.pointer (some ⟨b, o, none⟩)] w fun e w' => e = .returned .nilIface ∧ Mv b (o + 1) i w w' := by
  have h1 := h.pos
  have hf := h.fr
  have hs := h.sz
  have hl := h.le
  clear h
  have hlt : decide (((i + 1 : Nat) : Int) ≤ 0) = false := by simp
  go_enter Tryz.func174, Tryz.ntmps174
  go_wp2
  go_ret
  refine ⟨rfl, rfl, rfl, rfl, ?_⟩
  simp

theorem syntaxError_any {ae : Addr} {b o : Nat} {s : ByteArray} {i : Nat} {w : World} (h : Lx ae b o s i w) :
    Calls Tryz.prog 149 #[.pointer (some ⟨b, o, none⟩)] w fun e w' => (∃ v, e = .returned (.iface 304 v)) ∧ Mv b (o + 1) i w w' := by
  have hr := h.refl
  have HR := Lib.hid hr
  have h0 := h.str
  have h1 := h.pos
  have hf := h.fr
  have hs := h.sz
  have hl := h.le
  clear h hr
  go_enter Tryz.func149, Tryz.ntmps149
  go_wp2
  go_quiet (fail)
  go_wp2
  go_ret
  exact ⟨⟨_, rfl⟩, HR.out.os, HR.out.tape, HR.out.output, HR.out.heap⟩

/-! errors.Is -/
theorem Tryz.isTypeOf (v : Value) (w : World) : (Extern.ReflectliteType.typeOf #[.iface 342 v]).run Tryz.prog w = .ok (.iface 326 (.agg #[.pointer (some ⟨17, 342, none⟩)])) w := by kernel_rfl
theorem Tryz.callComparable (w : World) : (callFunc 290 #[.agg #[.pointer (some ⟨17, 342, none⟩)]]).run Tryz.prog w = .ok (.value (.bool true)) w := by kernel_rfl
theorem Tryz.isMethodComparable (v : Value) (w : World) : (Go.method 483 326 v "Comparable").run Tryz.prog w = .ok (290, v) w := by kernel_rfl
theorem Tryz.isComp : (Tryz.prog.info? 342).map (·.comparable) = some true := by kernel_rfl
theorem Tryz.isSize : (Tryz.prog.info? 344).map (·.size) = some 1 := by kernel_rfl

theorem is_nil (b : Addr) (w : World) :
    Calls Tryz.prog 148 #[.nilIface, .iface 342 (.pointer (some b))] w fun e w' => e = .returned (.bool false) ∧ w = w' := by
  have hn := run_eql_iface_nil_left (P := Tryz.prog) w 342 (.pointer (some b)) Tryz.underlying111
  go_enter Tryz.func148, Tryz.ntmps148
  go_wp2
  go_ret
  exact ⟨rfl, rfl⟩

set_option maxRecDepth 100000 in
theorem is_same (a : Addr) (w : World) :
    Calls Tryz.prog 148 #[.iface 342 (.pointer (some a)), .iface 342 (.pointer (some a))] w fun e w' => e = .returned (.bool true) ∧ w = w' := by
  obtain ⟨i, hi, hcmp⟩ := Option.map_eq_some_iff.1 Tryz.isComp
  obtain ⟨j, hj, hjs⟩ := Option.map_eq_some_iff.1 Tryz.isSize
  have h8 := @run_callFunc_extern Tryz.prog 172 _ Extern.ReflectliteType.typeOf Tryz.func172 (by kernel_rfl) (by kernel_rfl) (by kernel_rfl) (by kernel_rfl)
  have h32 := Tryz.callComparable
  have mR := Tryz.isMethodComparable
  have tT := Tryz.isTypeOf
  have heq := run_eql_iface_ptr_same (P := Tryz.prog) w a Tryz.underlying111 Tryz.underlying342 hi hcmp hj
  go_enter Tryz.func148, Tryz.ntmps148
  go_wp2
  refine wp_loop_rounds 1 ?_
  rw [rounds_succ]
  go_wp2
  go_ret
  exact ⟨rfl, rfl⟩
end Go.Proofs.YtimonhimfioohaaGreatDoor
