/- The thin package's small conversions, both ways. -/
import Derived.Test.YtimonhimfioohaaGreatDoorMem
import Derived.Test.YtimonhimfioohaaGreatDoorWorks
import Derived.Test.YtimonhimfioohaaGreatDoorPort
namespace Go.Proofs.YtimonhimfioohaaGreatDoor
open Go.RowKit

/-- The cells from the head of block b on. -/
def At (w : World) (b : Nat) (cs : List Value) : Prop := ∀ j u, cs[j]? = some u → w.cell? ⟨b, j, none⟩ = some u
theorem At.ch {w w' : World} {b : Nat} {cs : List Value} (h : At w b cs) (hc : Ch (fun _ => False) w w') : At w' b cs := fun j u hu => hc.cell0 (h j u hu)
theorem At.of {w : World} {b : Nat} {cs : Array Value} {t : TypeId} {fr : Nat × Nat} (h : w.heap[b]? = some (.cells cs t fr)) : At w b cs.toList := fun j u hu => blk_cell h (by simpa using hu)
/-- A pointer that is nil, or points to the head of a block of such a type with such cells. -/
def Ptr (w : World) (T : TypeId) (R : List Value → Prop) (p : Option Addr) : Prop := ∀ a, p = some a → ∃ (b : Nat) (cs : Array Value) (fr : Nat × Nat), a = ⟨b, 0, none⟩ ∧ R cs.toList ∧ w.heap[b]? = some (.cells cs T fr)
theorem Ptr.keep {w w' : World} {T : TypeId} {R : List Value → Prop} {p : Option Addr} (h : Ptr w T R p) (hk : ∀ (b : Nat) (cs : Array Value) (fr : Nat × Nat), w.heap[b]? = some (.cells cs T fr) → w'.heap[b]? = w.heap[b]?) : Ptr w' T R p := fun a ha => by
  obtain ⟨b, cs, fr, h1, h2, h3⟩ := h a ha
  exact ⟨b, cs, fr, h1, h2, (hk b cs fr h3).trans h3⟩
theorem Ptr.ch {w w' : World} {T : TypeId} {R : List Value → Prop} {p : Option Addr} (h : Ptr w T R p) (hc : Ch (fun _ => False) w w') : Ptr w' T R p := h.keep fun b _ _ hb => hc.block b (blk_lt hb) id
theorem Ptr.mono {w : World} {T : TypeId} {R S : List Value → Prop} {p : Option Addr} (h : Ptr w T R p) (hRS : ∀ cs, R cs → S cs) : Ptr w T S p := fun a ha => by
  obtain ⟨b, cs, fr, h1, h2, h3⟩ := h a ha
  exact ⟨b, cs, fr, h1, hRS _ h2, h3⟩
theorem Ptr.nil (w : World) (T : TypeId) (R : List Value → Prop) : Ptr w T R none := fun _ h => nomatch h
theorem Ptr.mk {w : World} {R : List Value → Prop} {b : Nat} {cs : Array Value} {T : TypeId} {fr : Nat × Nat} (h : w.heap[b]? = some (.cells cs T fr)) (hR : R cs.toList) : Ptr w T R (some ⟨b, 0, none⟩) := fun _ ha => ⟨b, cs, fr, (Option.some.inj ha).symm, hR, h⟩

/-- An address of the package, connection data of the package. -/
def sAddr (w : World) (cs : List Value) : Prop := ∃ (s : ByteArray) (p q : Option Addr), cs = [.string s, .pointer p, .pointer q] ∧ Ptr w 3 isInt p ∧ Ptr w 3 isInt q
def sConn (w : World) (cs : List Value) : Prop := ∃ (s t : ByteArray) (p : Option Addr), cs = [.string s, .string t, .pointer p] ∧ Ptr w 258 (sAddr w) p
theorem sAddr.ch {w w' : World} {cs : List Value} (h : sAddr w cs) (hc : Ch (fun _ => False) w w') : sAddr w' cs := by
  obtain ⟨s, p, q, h1, h2, h3⟩ := h
  exact ⟨s, p, q, h1, h2.ch hc, h3.ch hc⟩
theorem sConn.ch {w w' : World} {cs : List Value} (h : sConn w cs) (hc : Ch (fun _ => False) w w') : sConn w' cs := by
  obtain ⟨s, t, p, h1, h2⟩ := h
  exact ⟨s, t, p, h1, (h2.ch hc).mono fun _ k => sAddr.ch k hc⟩

/-- What a conversion to a pointer answers. -/
def ToPtr (T : TypeId) (R : World → List Value → Prop) (w : World) (e : Ending) (w' : World) : Prop := ∃ p, e = .returned (.pointer p) ∧ Ptr w' T (R w') p ∧ Ch (fun _ => False) w w'
/-- What a conversion to a slice answers, if it does not matter what it holds. -/
def ToSl (w : World) (e : Ending) (w' : World) : Prop := ∃ A n c, e = .returned (.slice A n c) ∧ Ch (fun _ => False) w w'

set_option maxRecDepth 100000 in
set_option maxHeartbeats 1600000 in
theorem first_f104 {A : Option Addr} {n c : Nat} {w : World} (hn : n ≤ maxLen) (h : Els w 1 isInt A n) : Calls Tryz.prog 104 #[.slice A n c] w (ToPtr 3 (fun _ => isInt) w) := by
  unfold maxLen at hn
  by_cases h0 : n = 0
  · subst h0
    go_enter Tryz.func104, Tryz.ntmps104
    go_wp2
    refine bodyPost_ret (v := .pointer none) (by simp [results, Tryz.results104]) rfl ?_
    exact ⟨_, rfl, Ptr.nil _ _ _, Ch.refl _ _⟩
  · obtain ⟨b, o, cs, rfl, -, ⟨s, rfl⟩, hc⟩ := h.at0 (by omega)
    have c0 := hc 0 _ rfl
    rw [Nat.add_zero] at c0
    have hnz : ((n : Int) == 0) = false := beq_false_of_ne (by omega)
    have hnp : (0 : Int) < n := by omega
    have hcx : Ch (fun _ => False) w (w.alloc (.cells #[.int .i64 s] 3)) := Ch.grown (World.grownBy_alloc _ _ none) (by simp)
    have hb : (w.alloc (.cells #[.int .i64 s] 3)).heap[w.heap.size]? = some (.cells #[.int .i64 s] 3 (0, 0)) := heap_alloc_new w _
    have HX := Lib.hid hcx
    have HB := Lib.hid hb
    clear h hc hcx hb h0
    go_enter Tryz.func104, Tryz.ntmps104
    go_wp2
    refine bodyPost_ret (v := .pointer (some ⟨w.heap.size, 0, none⟩)) (by simp [results, Tryz.results104]) rfl ?_
    exact ⟨_, rfl, Ptr.mk HB.out ⟨s, rfl⟩, HX.out⟩

set_option maxRecDepth 100000 in
set_option maxHeartbeats 1600000 in
theorem first_f105 {A : Option Addr} {n c : Nat} {w : World} (hn : n ≤ maxLen) (h : Els w 1 isStr A n) : Calls Tryz.prog 105 #[.slice A n c] w (ToPtr 179 (fun _ => isStr) w) := by
  unfold maxLen at hn
  by_cases h0 : n = 0
  · subst h0
    go_enter Tryz.func105, Tryz.ntmps105
    go_wp2
    refine bodyPost_ret (v := .pointer none) (by simp [results, Tryz.results105]) rfl ?_
    exact ⟨_, rfl, Ptr.nil _ _ _, Ch.refl _ _⟩
  · obtain ⟨b, o, cs, rfl, -, ⟨s, rfl⟩, hc⟩ := h.at0 (by omega)
    have c0 := hc 0 _ rfl
    rw [Nat.add_zero] at c0
    have hnz : ((n : Int) == 0) = false := beq_false_of_ne (by omega)
    have hnp : (0 : Int) < n := by omega
    have hcx : Ch (fun _ => False) w (w.alloc (.cells #[.string s] 179)) := Ch.grown (World.grownBy_alloc _ _ none) (by simp)
    have hb : (w.alloc (.cells #[.string s] 179)).heap[w.heap.size]? = some (.cells #[.string s] 179 (0, 0)) := heap_alloc_new w _
    have HX := Lib.hid hcx
    have HB := Lib.hid hb
    clear h hc hcx hb h0
    go_enter Tryz.func105, Tryz.ntmps105
    go_wp2
    refine bodyPost_ret (v := .pointer (some ⟨w.heap.size, 0, none⟩)) (by simp [results, Tryz.results105]) rfl ?_
    exact ⟨_, rfl, Ptr.mk HB.out ⟨s, rfl⟩, HX.out⟩

set_option maxRecDepth 100000 in
set_option maxHeartbeats 1600000 in
theorem first_f108 {A : Option Addr} {n c : Nat} {w : World} (hn : n ≤ maxLen) (h : Els w 1 isStr A n) : Calls Tryz.prog 108 #[.slice A n c] w (ToPtr 187 (fun _ => isStr) w) := by
  unfold maxLen at hn
  by_cases h0 : n = 0
  · subst h0
    go_enter Tryz.func108, Tryz.ntmps108
    go_wp2
    refine bodyPost_ret (v := .pointer none) (by simp [results, Tryz.results108]) rfl ?_
    exact ⟨_, rfl, Ptr.nil _ _ _, Ch.refl _ _⟩
  · obtain ⟨b, o, cs, rfl, -, ⟨s, rfl⟩, hc⟩ := h.at0 (by omega)
    have c0 := hc 0 _ rfl
    rw [Nat.add_zero] at c0
    have hnz : ((n : Int) == 0) = false := beq_false_of_ne (by omega)
    have hnp : (0 : Int) < n := by omega
    have hcx : Ch (fun _ => False) w (w.alloc (.cells #[.string s] 187)) := Ch.grown (World.grownBy_alloc _ _ none) (by simp)
    have hb : (w.alloc (.cells #[.string s] 187)).heap[w.heap.size]? = some (.cells #[.string s] 187 (0, 0)) := heap_alloc_new w _
    have HX := Lib.hid hcx
    have HB := Lib.hid hb
    clear h hc hcx hb h0
    go_enter Tryz.func108, Tryz.ntmps108
    go_wp2
    refine bodyPost_ret (v := .pointer (some ⟨w.heap.size, 0, none⟩)) (by simp [results, Tryz.results108]) rfl ?_
    exact ⟨_, rfl, Ptr.mk HB.out ⟨s, rfl⟩, HX.out⟩

set_option maxRecDepth 100000 in
set_option maxHeartbeats 1600000 in
theorem first_f113 {A : Option Addr} {n c : Nat} {w : World} (hn : n ≤ maxLen) (h : Els w 1 isStr A n) : Calls Tryz.prog 113 #[.slice A n c] w (ToPtr 181 (fun _ => isStr) w) := by
  unfold maxLen at hn
  by_cases h0 : n = 0
  · subst h0
    go_enter Tryz.func113, Tryz.ntmps113
    go_wp2
    refine bodyPost_ret (v := .pointer none) (by simp [results, Tryz.results113]) rfl ?_
    exact ⟨_, rfl, Ptr.nil _ _ _, Ch.refl _ _⟩
  · obtain ⟨b, o, cs, rfl, -, ⟨s, rfl⟩, hc⟩ := h.at0 (by omega)
    have c0 := hc 0 _ rfl
    rw [Nat.add_zero] at c0
    have hnz : ((n : Int) == 0) = false := beq_false_of_ne (by omega)
    have hnp : (0 : Int) < n := by omega
    have hcx : Ch (fun _ => False) w (w.alloc (.cells #[.string s] 181)) := Ch.grown (World.grownBy_alloc _ _ none) (by simp)
    have hb : (w.alloc (.cells #[.string s] 181)).heap[w.heap.size]? = some (.cells #[.string s] 181 (0, 0)) := heap_alloc_new w _
    have HX := Lib.hid hcx
    have HB := Lib.hid hb
    clear h hc hcx hb h0
    go_enter Tryz.func113, Tryz.ntmps113
    go_wp2
    refine bodyPost_ret (v := .pointer (some ⟨w.heap.size, 0, none⟩)) (by simp [results, Tryz.results113]) rfl ?_
    exact ⟨_, rfl, Ptr.mk HB.out ⟨s, rfl⟩, HX.out⟩

set_option maxRecDepth 100000 in
set_option maxHeartbeats 1600000 in
theorem first_f114 {A : Option Addr} {n c : Nat} {w : World} (hn : n ≤ maxLen) (h : Els w 1 isStr A n) : Calls Tryz.prog 114 #[.slice A n c] w (ToPtr 183 (fun _ => isStr) w) := by
  unfold maxLen at hn
  by_cases h0 : n = 0
  · subst h0
    go_enter Tryz.func114, Tryz.ntmps114
    go_wp2
    refine bodyPost_ret (v := .pointer none) (by simp [results, Tryz.results114]) rfl ?_
    exact ⟨_, rfl, Ptr.nil _ _ _, Ch.refl _ _⟩
  · obtain ⟨b, o, cs, rfl, -, ⟨s, rfl⟩, hc⟩ := h.at0 (by omega)
    have c0 := hc 0 _ rfl
    rw [Nat.add_zero] at c0
    have hnz : ((n : Int) == 0) = false := beq_false_of_ne (by omega)
    have hnp : (0 : Int) < n := by omega
    have hcx : Ch (fun _ => False) w (w.alloc (.cells #[.string s] 183)) := Ch.grown (World.grownBy_alloc _ _ none) (by simp)
    have hb : (w.alloc (.cells #[.string s] 183)).heap[w.heap.size]? = some (.cells #[.string s] 183 (0, 0)) := heap_alloc_new w _
    have HX := Lib.hid hcx
    have HB := Lib.hid hb
    clear h hc hcx hb h0
    go_enter Tryz.func114, Tryz.ntmps114
    go_wp2
    refine bodyPost_ret (v := .pointer (some ⟨w.heap.size, 0, none⟩)) (by simp [results, Tryz.results114]) rfl ?_
    exact ⟨_, rfl, Ptr.mk HB.out ⟨s, rfl⟩, HX.out⟩

set_option maxRecDepth 100000 in
set_option maxHeartbeats 1600000 in
theorem first_f123 {A : Option Addr} {n c : Nat} {w : World} (hn : n ≤ maxLen) (h : Els w 1 isStr A n) : Calls Tryz.prog 123 #[.slice A n c] w (ToPtr 9 (fun _ => isStr) w) := by
  unfold maxLen at hn
  by_cases h0 : n = 0
  · subst h0
    go_enter Tryz.func123, Tryz.ntmps123
    go_wp2
    refine bodyPost_ret (v := .pointer none) (by simp [results, Tryz.results123]) rfl ?_
    exact ⟨_, rfl, Ptr.nil _ _ _, Ch.refl _ _⟩
  · obtain ⟨b, o, cs, rfl, -, ⟨s, rfl⟩, hc⟩ := h.at0 (by omega)
    have c0 := hc 0 _ rfl
    rw [Nat.add_zero] at c0
    have hnz : ((n : Int) == 0) = false := beq_false_of_ne (by omega)
    have hnp : (0 : Int) < n := by omega
    have hcx : Ch (fun _ => False) w (w.alloc (.cells #[.string s] 9)) := Ch.grown (World.grownBy_alloc _ _ none) (by simp)
    have hb : (w.alloc (.cells #[.string s] 9)).heap[w.heap.size]? = some (.cells #[.string s] 9 (0, 0)) := heap_alloc_new w _
    have HX := Lib.hid hcx
    have HB := Lib.hid hb
    clear h hc hcx hb h0
    go_enter Tryz.func123, Tryz.ntmps123
    go_wp2
    refine bodyPost_ret (v := .pointer (some ⟨w.heap.size, 0, none⟩)) (by simp [results, Tryz.results123]) rfl ?_
    exact ⟨_, rfl, Ptr.mk HB.out ⟨s, rfl⟩, HX.out⟩

set_option maxRecDepth 100000 in
set_option maxHeartbeats 1600000 in
theorem first_f112 {A : Option Addr} {n c : Nat} {w : World} (hn : n ≤ maxLen) (h : Els w 1 isStr A n) : Calls Tryz.prog 112 #[.slice A n c] w (ToPtr 249 (fun _ => isStr) w) := by
  unfold maxLen at hn
  by_cases h0 : n = 0
  · subst h0
    go_enter Tryz.func112, Tryz.ntmps112
    go_wp2
    refine bodyPost_ret (v := .pointer none) (by simp [results, Tryz.results112]) rfl ?_
    exact ⟨_, rfl, Ptr.nil _ _ _, Ch.refl _ _⟩
  · obtain ⟨b, o, cs, rfl, -, ⟨s, rfl⟩, hc⟩ := h.at0 (by omega)
    have c0 := hc 0 _ rfl
    rw [Nat.add_zero] at c0
    have hnz : ((n : Int) == 0) = false := beq_false_of_ne (by omega)
    have hnp : (0 : Int) < n := by omega
    have hcx : Ch (fun _ => False) w (w.alloc (.cells #[.string s] 249)) := Ch.grown (World.grownBy_alloc _ _ none) (by simp)
    have hb : (w.alloc (.cells #[.string s] 249)).heap[w.heap.size]? = some (.cells #[.string s] 249 (0, 0)) := heap_alloc_new w _
    have HX := Lib.hid hcx
    have HB := Lib.hid hb
    clear h hc hcx hb h0
    go_enter Tryz.func112, Tryz.ntmps112
    go_wp2
    refine bodyPost_ret (v := .pointer (some ⟨w.heap.size, 0, none⟩)) (by simp [results, Tryz.results112]) rfl ?_
    exact ⟨_, rfl, Ptr.mk HB.out ⟨s, rfl⟩, HX.out⟩

set_option maxRecDepth 100000 in
set_option maxHeartbeats 1600000 in
theorem back_f102 {p : Option Addr} {w : World} (h : Ptr w 3 isInt p) : Calls Tryz.prog 102 #[.pointer p] w (ToSl w) := by
  cases p with
  | none =>
    go_enter Tryz.func102, Tryz.ntmps102
    go_wp2
    refine bodyPost_ret (v := .slice none 0 0) (by simp [results, Tryz.results102]) rfl ?_
    exact ⟨_, _, _, rfl, Ch.refl _ _⟩
  | some a =>
    obtain ⟨b, cs, fr, rfl, ⟨s, hcs⟩, hb⟩ := h a rfl
    have c0 : w.cell? ⟨b, 0, none⟩ = some (.int .i64 s) := At.of hb 0 _ (by rw [hcs]; rfl)
    have hcx : Ch (fun _ => False) w (w.alloc (.cells #[.int .i64 s] 3)) := Ch.grown (World.grownBy_alloc _ _ none) (by simp)
    have HX := Lib.hid hcx
    clear h hb hcx hcs
    go_enter Tryz.func102, Tryz.ntmps102
    go_wp2
    refine bodyPost_ret (v := .slice (some ⟨w.heap.size, 0, none⟩) 1 1) (by simp [results, Tryz.results102]) rfl ?_
    exact ⟨_, _, _, rfl, HX.out⟩

set_option maxRecDepth 100000 in
set_option maxHeartbeats 1600000 in
theorem back_f89 {p : Option Addr} {w : World} (h : Ptr w 179 isStr p) : Calls Tryz.prog 89 #[.pointer p] w (ToSl w) := by
  cases p with
  | none =>
    go_enter Tryz.func89, Tryz.ntmps89
    go_wp2
    refine bodyPost_ret (v := .slice none 0 0) (by simp [results, Tryz.results89]) rfl ?_
    exact ⟨_, _, _, rfl, Ch.refl _ _⟩
  | some a =>
    obtain ⟨b, cs, fr, rfl, ⟨s, hcs⟩, hb⟩ := h a rfl
    have c0 : w.cell? ⟨b, 0, none⟩ = some (.string s) := At.of hb 0 _ (by rw [hcs]; rfl)
    have hcx : Ch (fun _ => False) w (w.alloc (.cells #[.string s] 9)) := Ch.grown (World.grownBy_alloc _ _ none) (by simp)
    have HX := Lib.hid hcx
    clear h hb hcx hcs
    go_enter Tryz.func89, Tryz.ntmps89
    go_wp2
    refine bodyPost_ret (v := .slice (some ⟨w.heap.size, 0, none⟩) 1 1) (by simp [results, Tryz.results89]) rfl ?_
    exact ⟨_, _, _, rfl, HX.out⟩

set_option maxRecDepth 100000 in
set_option maxHeartbeats 1600000 in
theorem back_f90 {p : Option Addr} {w : World} (h : Ptr w 181 isStr p) : Calls Tryz.prog 90 #[.pointer p] w (ToSl w) := by
  cases p with
  | none =>
    go_enter Tryz.func90, Tryz.ntmps90
    go_wp2
    refine bodyPost_ret (v := .slice none 0 0) (by simp [results, Tryz.results90]) rfl ?_
    exact ⟨_, _, _, rfl, Ch.refl _ _⟩
  | some a =>
    obtain ⟨b, cs, fr, rfl, ⟨s, hcs⟩, hb⟩ := h a rfl
    have c0 : w.cell? ⟨b, 0, none⟩ = some (.string s) := At.of hb 0 _ (by rw [hcs]; rfl)
    have hcx : Ch (fun _ => False) w (w.alloc (.cells #[.string s] 9)) := Ch.grown (World.grownBy_alloc _ _ none) (by simp)
    have HX := Lib.hid hcx
    clear h hb hcx hcs
    go_enter Tryz.func90, Tryz.ntmps90
    go_wp2
    refine bodyPost_ret (v := .slice (some ⟨w.heap.size, 0, none⟩) 1 1) (by simp [results, Tryz.results90]) rfl ?_
    exact ⟨_, _, _, rfl, HX.out⟩

set_option maxRecDepth 100000 in
set_option maxHeartbeats 1600000 in
theorem back_f91 {p : Option Addr} {w : World} (h : Ptr w 183 isStr p) : Calls Tryz.prog 91 #[.pointer p] w (ToSl w) := by
  cases p with
  | none =>
    go_enter Tryz.func91, Tryz.ntmps91
    go_wp2
    refine bodyPost_ret (v := .slice none 0 0) (by simp [results, Tryz.results91]) rfl ?_
    exact ⟨_, _, _, rfl, Ch.refl _ _⟩
  | some a =>
    obtain ⟨b, cs, fr, rfl, ⟨s, hcs⟩, hb⟩ := h a rfl
    have c0 : w.cell? ⟨b, 0, none⟩ = some (.string s) := At.of hb 0 _ (by rw [hcs]; rfl)
    have hcx : Ch (fun _ => False) w (w.alloc (.cells #[.string s] 9)) := Ch.grown (World.grownBy_alloc _ _ none) (by simp)
    have HX := Lib.hid hcx
    clear h hb hcx hcs
    go_enter Tryz.func91, Tryz.ntmps91
    go_wp2
    refine bodyPost_ret (v := .slice (some ⟨w.heap.size, 0, none⟩) 1 1) (by simp [results, Tryz.results91]) rfl ?_
    exact ⟨_, _, _, rfl, HX.out⟩

set_option maxRecDepth 100000 in
set_option maxHeartbeats 1600000 in
theorem back_f94 {p : Option Addr} {w : World} (h : Ptr w 187 isStr p) : Calls Tryz.prog 94 #[.pointer p] w (ToSl w) := by
  cases p with
  | none =>
    go_enter Tryz.func94, Tryz.ntmps94
    go_wp2
    refine bodyPost_ret (v := .slice none 0 0) (by simp [results, Tryz.results94]) rfl ?_
    exact ⟨_, _, _, rfl, Ch.refl _ _⟩
  | some a =>
    obtain ⟨b, cs, fr, rfl, ⟨s, hcs⟩, hb⟩ := h a rfl
    have c0 : w.cell? ⟨b, 0, none⟩ = some (.string s) := At.of hb 0 _ (by rw [hcs]; rfl)
    have hcx : Ch (fun _ => False) w (w.alloc (.cells #[.string s] 9)) := Ch.grown (World.grownBy_alloc _ _ none) (by simp)
    have HX := Lib.hid hcx
    clear h hb hcx hcs
    go_enter Tryz.func94, Tryz.ntmps94
    go_wp2
    refine bodyPost_ret (v := .slice (some ⟨w.heap.size, 0, none⟩) 1 1) (by simp [results, Tryz.results94]) rfl ?_
    exact ⟨_, _, _, rfl, HX.out⟩

set_option maxRecDepth 100000 in
set_option maxHeartbeats 1600000 in
theorem back_f79 {p : Option Addr} {w : World} (h : Ptr w 9 isStr p) : Calls Tryz.prog 79 #[.pointer p] w (ToSl w) := by
  cases p with
  | none =>
    go_enter Tryz.func79, Tryz.ntmps79
    go_wp2
    refine bodyPost_ret (v := .slice none 0 0) (by simp [results, Tryz.results79]) rfl ?_
    exact ⟨_, _, _, rfl, Ch.refl _ _⟩
  | some a =>
    obtain ⟨b, cs, fr, rfl, ⟨s, hcs⟩, hb⟩ := h a rfl
    have c0 : w.cell? ⟨b, 0, none⟩ = some (.string s) := At.of hb 0 _ (by rw [hcs]; rfl)
    have hcx : Ch (fun _ => False) w (w.alloc (.cells #[.string s] 9)) := Ch.grown (World.grownBy_alloc _ _ none) (by simp)
    have HX := Lib.hid hcx
    clear h hb hcx hcs
    go_enter Tryz.func79, Tryz.ntmps79
    go_wp2
    refine bodyPost_ret (v := .slice (some ⟨w.heap.size, 0, none⟩) 1 1) (by simp [results, Tryz.results79]) rfl ?_
    exact ⟨_, _, _, rfl, HX.out⟩

set_option maxRecDepth 100000 in
set_option maxHeartbeats 1600000 in
theorem back_f78 {p : Option Addr} {w : World} (h : Ptr w 249 isStr p) : Calls Tryz.prog 78 #[.pointer p] w (ToSl w) := by
  cases p with
  | none =>
    go_enter Tryz.func78, Tryz.ntmps78
    go_wp2
    refine bodyPost_ret (v := .slice none 0 0) (by simp [results, Tryz.results78]) rfl ?_
    exact ⟨_, _, _, rfl, Ch.refl _ _⟩
  | some a =>
    obtain ⟨b, cs, fr, rfl, ⟨s, hcs⟩, hb⟩ := h a rfl
    have c0 : w.cell? ⟨b, 0, none⟩ = some (.string s) := At.of hb 0 _ (by rw [hcs]; rfl)
    have hcx : Ch (fun _ => False) w (w.alloc (.cells #[.string s] 9)) := Ch.grown (World.grownBy_alloc _ _ none) (by simp)
    have HX := Lib.hid hcx
    clear h hb hcx hcs
    go_enter Tryz.func78, Tryz.ntmps78
    go_wp2
    refine bodyPost_ret (v := .slice (some ⟨w.heap.size, 0, none⟩) 1 1) (by simp [results, Tryz.results78]) rfl ?_
    exact ⟨_, _, _, rfl, HX.out⟩

/-- A slice whose elements read as a list. -/
def Lst (w : World) (size : Nat) {α : Type} (f : α → List Value) (A : Option Addr) (l : List α) : Prop :=
  ∀ k a, l[k]? = some a → ∃ b o, A = some ⟨b, o, none⟩ ∧ ∀ j u, (f a)[j]? = some u → w.cell? ⟨b, o + (k * size + j), none⟩ = some u
theorem Lst.ch {w w' : World} {size : Nat} {α : Type} {f : α → List Value} {A : Option Addr} {l : List α} (h : Lst w size f A l) (hc : Ch (fun _ => False) w w') : Lst w' size f A l := fun k a ha => by
  obtain ⟨b, o, h1, h2⟩ := h k a ha
  exact ⟨b, o, h1, fun j u hu => hc.cell0 (h2 j u hu)⟩
theorem Els.list {w : World} {size : Nat} {α : Type} {f : α → List Value} {A : Option Addr} : ∀ {n : Nat}, Els w size (fun cs => ∃ a, cs = f a) A n → ∃ l : List α, l.length = n ∧ Lst w size f A l
  | 0, _ => ⟨[], rfl, fun k a h => by simp at h⟩
  | n + 1, h => by
    obtain ⟨l, hl, hL⟩ := Els.list (n := n) (fun k hk => h k (by omega))
    obtain ⟨b, o, cs, h1, _, ⟨a, rfl⟩, h3⟩ := h n (by omega)
    refine ⟨l ++ [a], by simp [hl], fun k x hx => ?_⟩
    rcases Nat.lt_or_ge k l.length with hk | hk
    · rw [List.getElem?_append_left hk] at hx
      exact hL k x hx
    · have hk2 : k = n := by
        have := (List.getElem?_eq_some_iff.1 hx).1
        simp at this
        omega
      subst hk2
      rw [List.getElem?_append_right hk, hl, Nat.sub_self] at hx
      obtain rfl : a = x := by simpa using hx
      exact ⟨b, o, h1, h3⟩
theorem flat_at {α : Type} {f : α → List Value} {size : Nat} (hf : ∀ a, (f a).length = size) : ∀ (l : List α) (k j : Nat) (a : α) (u : Value), l[k]? = some a → (f a)[j]? = some u → (l.flatMap f)[k * size + j]? = some u
  | [], k, j, a, u, h, _ => by simp at h
  | x :: l, 0, j, a, u, h, hu => by
    obtain rfl : x = a := by simpa using h
    have hj : j < (f x).length := (List.getElem?_eq_some_iff.1 hu).1
    rw [List.flatMap_cons, Nat.zero_mul, Nat.zero_add, List.getElem?_append_left hj]
    exact hu
  | x :: l, k + 1, j, a, u, h, hu => by
    have h' : l[k]? = some a := by simpa using h
    have e : (k + 1) * size + j = (f x).length + (k * size + j) := by rw [hf, Nat.add_mul]; omega
    rw [List.flatMap_cons, e, List.getElem?_append_right (by omega), Nat.add_sub_cancel_left]
    exact flat_at hf l k j a u h' hu
theorem Lst.of_own {w : World} {base size n : Nat} {e : TypeId} {v : Value} {α : Type} {f : α → List Value} {l : List α} (hf : ∀ a, (f a).length = size) (h : w.ownsRow base e size v n (l.flatMap f)) (hn : n = l.length) : ∃ A c, v = .slice A n c ∧ n ≤ c ∧ Lst w size f A l := by
  subst hn
  rcases h.2 with ⟨rfl, h0⟩ | ⟨g, cap, cur, rfl, _, _, hc, _⟩
  · refine ⟨none, 0, by rw [h0], by omega, fun k a ha => ?_⟩
    have := (List.getElem?_eq_some_iff.1 ha).1
    omega
  · refine ⟨_, cap, rfl, hc, fun k a ha => ⟨g, 0, rfl, fun j u hu => ?_⟩⟩
    have h1 := h.cells (g := g) rfl _ _ (flat_at hf l k j a u ha hu)
    rw [Nat.zero_add]
    have hadd : (⟨g, 0, none⟩ : Addr).add (k * size + j) = ⟨g, k * size + j, none⟩ := by unfold Addr.add; split <;> simp_all
    rw [hadd] at h1
    exact h1
theorem take_flat {α : Type} (f : α → List Value) {l : List α} {j : Nat} {a : α} (h : l[j]? = some a) : (l.take (j + 1)).flatMap f = (l.take j).flatMap f ++ f a := by
  rw [List.take_add_one, h]
  simp

def strC (s : ByteArray) : List Value := [.string s]
def attrC (p : ByteArray × ByteArray) : List Value := [.string p.1, .string p.2]
def bandC (p : Bool × ByteArray × Int) : List Value := [.bool p.1, .string p.2.1, .int .u64 p.2.2]
theorem Els.strs {w : World} {A : Option Addr} {n : Nat} (h : Els w 1 isStr A n) : ∃ l : List ByteArray, l.length = n ∧ Lst w 1 strC A l := Els.list h
theorem Els.attrs {w : World} {A : Option Addr} {n : Nat} (h : Els w 2 isAttr A n) : ∃ l : List (ByteArray × ByteArray), l.length = n ∧ Lst w 2 attrC A l := Els.list (h.mono fun _ ⟨s, t, h⟩ => ⟨(s, t), h⟩)
theorem Els.bands {w : World} {A : Option Addr} {n : Nat} (h : Els w 3 isBand A n) : ∃ l : List (Bool × ByteArray × Int), l.length = n ∧ Lst w 3 bandC A l := Els.list (h.mono fun _ ⟨x, s, m, h⟩ => ⟨(x, s, m), h⟩)

/-- What a conversion of a list answers: a row of the call's own. -/
def ToOwn (E size : Nat) {α : Type} (f : α → List Value) (l : List α) (w : World) (e : Ending) (w' : World) : Prop := ∃ v, e = .returned v ∧ w'.ownsRow w.heap.size E size v l.length (l.flatMap f) ∧ Ch (fun _ => False) w w'

theorem clone_any {A : Option Addr} {c : Nat} {l : List ByteArray} {w : World} (hn : l.length ≤ 2147483647) (h : Lst w 1 strC A l) : Calls Tryz.prog 103 #[.slice A l.length c] w (ToOwn 9 1 strC l w) := by
  cases A with
  | none =>
    have h0 : l = [] := by
      cases l with
      | nil => rfl
      | cons a l =>
        obtain ⟨b, o, h1, _⟩ := h 0 a rfl
        cases h1
    subst h0
    refine (Tryz.slices_Clone_string_nil _ _ w).mono ?_
    rintro e w' ⟨rfl, rfl⟩
    exact ⟨_, rfl, World.ownsRow_nil _ _ _ _, Ch.refl _ _⟩
  | some a =>
    cases l with
    | nil =>
      refine (Tryz.slices_Clone_string_zero a c w).mono ?_
      rintro e w' ⟨v, rfl, ho, _, hb⟩
      exact ⟨v, rfl, ho, Ch.of_below hb⟩
    | cons x l =>
      obtain ⟨b, o, h1, _⟩ := h 0 x rfl
      cases h1
      refine (Tryz.slices_Clone_string b o (x :: l).length c (x :: l) w (Nat.le_refl _) (by omega) (fun j hj => ?_)).mono ?_
      · obtain ⟨b', o', h2, h3⟩ := h j _ (List.getElem?_eq_getElem hj)
        cases h2
        have h4 := h3 0 _ rfl
        rw [Nat.mul_one, Nat.add_zero] at h4
        rw [h4]
        simp [List.getD_eq_getElem?_getD, List.getElem?_eq_getElem hj]
      · rintro e w' ⟨v, rfl, ho, _, hb⟩
        refine ⟨v, rfl, ?_, Ch.of_below hb⟩
        rw [List.take_length] at ho
        have e1 : (x :: l).flatMap strC = (x :: l).map Value.string := by
          generalize (x :: l) = L
          induction L with
          | nil => rfl
          | cons y L ih => rw [List.flatMap_cons, ih]; rfl
        rw [e1]
        exact ho

theorem info240_c : (Tryz.prog.info? 240).map (fun i => (i.zero, i.size, i.bytes)) = some (some (.agg #[.string ⟨#[]⟩, .string ⟨#[]⟩]), 2, 32) := by kernel_rfl
set_option maxRecDepth 100000 in
set_option maxHeartbeats 4000000 in
theorem attributes_any {A : Option Addr} {c : Nat} {l : List (ByteArray × ByteArray)} {w : World} (hn : l.length ≤ 2147483647) (h : Lst w 2 attrC A l) : Calls Tryz.prog 109 #[.slice A l.length c] w (ToOwn 240 2 attrC l w) := by
  have HL := Lib.hid h
  clear h
  obtain ⟨i0, hi0, hz0, hz1, hz2⟩ := info_parts info240_c
  generalize hlen : l.length = n at *
  have HLEN := Lib.hid hlen
  clear hlen
  go_enter Tryz.func109, Tryz.ntmps109
  go_wp2
  go_loopg [3, 5, 8] n (fun g x3 _ x8 wr => ∃ j : Nat, g = n - j ∧ j ≤ n ∧ x8 = .int .i64 j ∧ wr.ownsRow w.heap.size 240 2 x3 j ((l.take j).flatMap attrC) ∧ Ch (fun _ => False) w wr)
  case atStart => exact ⟨0, rfl, Nat.zero_le _, rfl, World.ownsRow_nil _ _ _ _, Ch.refl _ _⟩
  case round =>
    obtain ⟨j, hg, hj, rfl, hown, hch⟩ := hrel
    have HG := Lib.hid hg
    have HC := Lib.hid hch
    have HO := Lib.hid hown
    clear hg hch hown
    by_cases hlt : j < n
    · have hget : l[j]? = some (l[j]'(by rw [HLEN.out]; exact hlt)) := List.getElem?_eq_getElem _
      generalize l[j]'(by rw [HLEN.out]; exact hlt) = a at hget
      obtain ⟨s, t⟩ := a
      obtain ⟨b, o, hA, hc⟩ := (HL.out.ch HC.out) j _ hget
      subst hA
      unfold attrC at hc
      have k0 := hc 0 _ rfl
      rw [Nat.add_zero] at k0
      have k1 := hc 1 _ rfl
      rw [← Nat.add_assoc] at k1
      have HT := Lib.hid (take_flat attrC hget)
      have hcx : Ch (fun _ => False) wr ((wr.alloc (.cells #[.string s, .string t] 73)).alloc (.cells #[.string s, .string t] 240)) := (Ch.grown (World.grownBy_alloc _ _ none) (by simp)).trans (Ch.grown (World.grownBy_alloc _ _ none) (by simp))
      have hb : ((wr.alloc (.cells #[.string s, .string t] 73)).alloc (.cells #[.string s, .string t] 240)).heap[wr.heap.size + 1]? = some (.cells #[.string s, .string t] 240 (0, 0)) := by
        have h1 := heap_alloc_new (wr.alloc (.cells #[.string s, .string t] 73)) (.cells #[.string s, .string t] 240)
        rw [World.size_alloc] at h1
        exact h1
      have HX := Lib.hid hcx
      have HB := Lib.hid hb
      have HS := Lib.hid (Nat.le_trans HC.out.size HX.out.size)
      clear hc hget hcx hb
      go_wp2_with (at_builtin; refine wpList_append_lies _ rfl (.tmp 12) (.tmp 18) 105 rfl w.heap.size 240 i0 _ 2 32 Tryz.underlying105 hi0 hz0 hz1 hz2 rfl (by decide) u3 j _ rfl ((HO.out.alloc _).alloc _) ⟨wr.heap.size + 1, 0, none⟩ 1 1 [.string s, .string t] rfl rfl (World.news_of_block HB.out) (by simp [Value.oneCell']) (by decide) (by unfold maxLen; omega) (by omega) HS.out _ rfl ?_; intro g1 cap1 W1 hown1 hgrow1 hat1 hlt1; have HO1 := Lib.hid hown1; have HG1 := Lib.hid hgrow1; clear hown1 hgrow1 hat1 hlt1)
      have HC1 := Lib.hid ((HC.out.trans HX.out).old HG1.out (fun k hk => .inl (HO.out.lt k hk).1))
      go_roundg (n - (j + 1))
      case measure => have := HG.out; omega
      case rel =>
        refine ⟨j + 1, rfl, by omega, by simp, ?_, HC1.out⟩
        rw [HT.out]
        exact HO1.out
    · obtain rfl : j = n := by omega
      go_wp2
      refine bodyPost_ret (v := u3) (by simp [results, Tryz.results109]) rfl ?_
      refine ⟨u3, rfl, ?_, HC.out⟩
      have h1 := HO.out
      rw [← HLEN.out, List.take_length, HLEN.out] at h1
      rw [HLEN.out]
      exact h1

theorem info73_c : (Tryz.prog.info? 73).map (fun i => (i.zero, i.size, i.bytes)) = some (some (.agg #[.string ⟨#[]⟩, .string ⟨#[]⟩]), 2, 32) := by kernel_rfl
set_option maxRecDepth 100000 in
set_option maxHeartbeats 4000000 in
theorem attributesOf_any {A : Option Addr} {c : Nat} {l : List (ByteArray × ByteArray)} {w : World} (hn : l.length ≤ 2147483647) (h : Lst w 2 attrC A l) : Calls Tryz.prog 95 #[.slice A l.length c] w (ToOwn 73 2 attrC l w) := by
  have HL := Lib.hid h
  clear h
  obtain ⟨i0, hi0, hz0, hz1, hz2⟩ := info_parts info73_c
  generalize hlen : l.length = n at *
  have HLEN := Lib.hid hlen
  clear hlen
  go_enter Tryz.func95, Tryz.ntmps95
  go_wp2
  go_loopg [3, 5, 8] n (fun g x3 _ x8 wr => ∃ j : Nat, g = n - j ∧ j ≤ n ∧ x8 = .int .i64 j ∧ wr.ownsRow w.heap.size 73 2 x3 j ((l.take j).flatMap attrC) ∧ Ch (fun _ => False) w wr)
  case atStart => exact ⟨0, rfl, Nat.zero_le _, rfl, World.ownsRow_nil _ _ _ _, Ch.refl _ _⟩
  case round =>
    obtain ⟨j, hg, hj, rfl, hown, hch⟩ := hrel
    have HG := Lib.hid hg
    have HC := Lib.hid hch
    have HO := Lib.hid hown
    clear hg hch hown
    by_cases hlt : j < n
    · have hget : l[j]? = some (l[j]'(by rw [HLEN.out]; exact hlt)) := List.getElem?_eq_getElem _
      generalize l[j]'(by rw [HLEN.out]; exact hlt) = a at hget
      obtain ⟨s, t⟩ := a
      obtain ⟨b, o, hA, hc⟩ := (HL.out.ch HC.out) j _ hget
      subst hA
      unfold attrC at hc
      have k0 := hc 0 _ rfl
      rw [Nat.add_zero] at k0
      have k1 := hc 1 _ rfl
      rw [← Nat.add_assoc] at k1
      have HT := Lib.hid (take_flat attrC hget)
      have hcx : Ch (fun _ => False) wr ((wr.alloc (.cells #[.string s, .string t] 240)).alloc (.cells #[.string s, .string t] 73)) := (Ch.grown (World.grownBy_alloc _ _ none) (by simp)).trans (Ch.grown (World.grownBy_alloc _ _ none) (by simp))
      have hb : ((wr.alloc (.cells #[.string s, .string t] 240)).alloc (.cells #[.string s, .string t] 73)).heap[wr.heap.size + 1]? = some (.cells #[.string s, .string t] 73 (0, 0)) := by
        have h1 := heap_alloc_new (wr.alloc (.cells #[.string s, .string t] 240)) (.cells #[.string s, .string t] 73)
        rw [World.size_alloc] at h1
        exact h1
      have HX := Lib.hid hcx
      have HB := Lib.hid hb
      have HS := Lib.hid (Nat.le_trans HC.out.size HX.out.size)
      clear hc hget hcx hb
      go_wp2_with (at_builtin; refine wpList_append_lies _ rfl (.tmp 12) (.tmp 18) 33 rfl w.heap.size 73 i0 _ 2 32 Tryz.underlying33 hi0 hz0 hz1 hz2 rfl (by decide) u3 j _ rfl ((HO.out.alloc _).alloc _) ⟨wr.heap.size + 1, 0, none⟩ 1 1 [.string s, .string t] rfl rfl (World.news_of_block HB.out) (by simp [Value.oneCell']) (by decide) (by unfold maxLen; omega) (by omega) HS.out _ rfl ?_; intro g1 cap1 W1 hown1 hgrow1 hat1 hlt1; have HO1 := Lib.hid hown1; have HG1 := Lib.hid hgrow1; clear hown1 hgrow1 hat1 hlt1)
      have HC1 := Lib.hid ((HC.out.trans HX.out).old HG1.out (fun k hk => .inl (HO.out.lt k hk).1))
      go_roundg (n - (j + 1))
      case measure => have := HG.out; omega
      case rel =>
        refine ⟨j + 1, rfl, by omega, by simp, ?_, HC1.out⟩
        rw [HT.out]
        exact HO1.out
    · obtain rfl : j = n := by omega
      go_wp2
      refine bodyPost_ret (v := u3) (by simp [results, Tryz.results95]) rfl ?_
      refine ⟨u3, rfl, ?_, HC.out⟩
      have h1 := HO.out
      rw [← HLEN.out, List.take_length, HLEN.out] at h1
      rw [HLEN.out]
      exact h1

theorem info134_c : (Tryz.prog.info? 134).map (fun i => (i.zero, i.size, i.bytes)) = some (some (.agg #[.bool false, .string ⟨#[]⟩, .int .u64 0]), 3, 32) := by kernel_rfl
set_option maxRecDepth 100000 in
set_option maxHeartbeats 4000000 in
theorem bandwidths_any {A : Option Addr} {c : Nat} {l : List (Bool × ByteArray × Int)} {w : World} (hn : l.length ≤ 2147483647) (h : Lst w 3 bandC A l) : Calls Tryz.prog 107 #[.slice A l.length c] w (ToOwn 134 3 bandC l w) := by
  have HL := Lib.hid h
  clear h
  obtain ⟨i0, hi0, hz0, hz1, hz2⟩ := info_parts info134_c
  generalize hlen : l.length = n at *
  have HLEN := Lib.hid hlen
  clear hlen
  go_enter Tryz.func107, Tryz.ntmps107
  go_wp2
  go_loopg [3, 5, 8] n (fun g x3 _ x8 wr => ∃ j : Nat, g = n - j ∧ j ≤ n ∧ x8 = .int .i64 j ∧ wr.ownsRow w.heap.size 134 3 x3 j ((l.take j).flatMap bandC) ∧ Ch (fun _ => False) w wr)
  case atStart => exact ⟨0, rfl, Nat.zero_le _, rfl, World.ownsRow_nil _ _ _ _, Ch.refl _ _⟩
  case round =>
    obtain ⟨j, hg, hj, rfl, hown, hch⟩ := hrel
    have HG := Lib.hid hg
    have HC := Lib.hid hch
    have HO := Lib.hid hown
    clear hg hch hown
    by_cases hlt : j < n
    · have hget : l[j]? = some (l[j]'(by rw [HLEN.out]; exact hlt)) := List.getElem?_eq_getElem _
      generalize l[j]'(by rw [HLEN.out]; exact hlt) = a at hget
      obtain ⟨x, s, m⟩ := a
      obtain ⟨b, o, hA, hc⟩ := (HL.out.ch HC.out) j _ hget
      subst hA
      unfold bandC at hc
      have k0 := hc 0 _ rfl
      rw [Nat.add_zero] at k0
      have k1 := hc 1 _ rfl
      rw [← Nat.add_assoc] at k1
      have k2 := hc 2 _ rfl
      rw [← Nat.add_assoc] at k2
      have HT := Lib.hid (take_flat bandC hget)
      have hcx : Ch (fun _ => False) wr ((wr.alloc (.cells #[.bool x, .string s, .int .u64 m] 45)).alloc (.cells #[.bool x, .string s, .int .u64 m] 134)) := (Ch.grown (World.grownBy_alloc _ _ none) (by simp)).trans (Ch.grown (World.grownBy_alloc _ _ none) (by simp))
      have hb : ((wr.alloc (.cells #[.bool x, .string s, .int .u64 m] 45)).alloc (.cells #[.bool x, .string s, .int .u64 m] 134)).heap[wr.heap.size + 1]? = some (.cells #[.bool x, .string s, .int .u64 m] 134 (0, 0)) := by
        have h1 := heap_alloc_new (wr.alloc (.cells #[.bool x, .string s, .int .u64 m] 45)) (.cells #[.bool x, .string s, .int .u64 m] 134)
        rw [World.size_alloc] at h1
        exact h1
      have HX := Lib.hid hcx
      have HB := Lib.hid hb
      have HS := Lib.hid (Nat.le_trans HC.out.size HX.out.size)
      clear hc hget hcx hb
      go_wp2_with (at_builtin; refine wpList_append_lies _ rfl (.tmp 12) (.tmp 20) 101 rfl w.heap.size 134 i0 _ 3 32 Tryz.underlying101 hi0 hz0 hz1 hz2 rfl (by decide) u3 j _ rfl ((HO.out.alloc _).alloc _) ⟨wr.heap.size + 1, 0, none⟩ 1 1 [.bool x, .string s, .int .u64 m] rfl rfl (World.news_of_block HB.out) (by simp [Value.oneCell']) (by decide) (by unfold maxLen; omega) (by omega) HS.out _ rfl ?_; intro g1 cap1 W1 hown1 hgrow1 hat1 hlt1; have HO1 := Lib.hid hown1; have HG1 := Lib.hid hgrow1; clear hown1 hgrow1 hat1 hlt1)
      have HC1 := Lib.hid ((HC.out.trans HX.out).old HG1.out (fun k hk => .inl (HO.out.lt k hk).1))
      go_roundg (n - (j + 1))
      case measure => have := HG.out; omega
      case rel =>
        refine ⟨j + 1, rfl, by omega, by simp, ?_, HC1.out⟩
        rw [HT.out]
        exact HO1.out
    · obtain rfl : j = n := by omega
      go_wp2
      refine bodyPost_ret (v := u3) (by simp [results, Tryz.results107]) rfl ?_
      refine ⟨u3, rfl, ?_, HC.out⟩
      have h1 := HO.out
      rw [← HLEN.out, List.take_length, HLEN.out] at h1
      rw [HLEN.out]
      exact h1

theorem info45_c : (Tryz.prog.info? 45).map (fun i => (i.zero, i.size, i.bytes)) = some (some (.agg #[.bool false, .string ⟨#[]⟩, .int .u64 0]), 3, 32) := by kernel_rfl
set_option maxRecDepth 100000 in
set_option maxHeartbeats 4000000 in
theorem bandwidthsOf_any {A : Option Addr} {c : Nat} {l : List (Bool × ByteArray × Int)} {w : World} (hn : l.length ≤ 2147483647) (h : Lst w 3 bandC A l) : Calls Tryz.prog 93 #[.slice A l.length c] w (ToOwn 45 3 bandC l w) := by
  have HL := Lib.hid h
  clear h
  obtain ⟨i0, hi0, hz0, hz1, hz2⟩ := info_parts info45_c
  generalize hlen : l.length = n at *
  have HLEN := Lib.hid hlen
  clear hlen
  go_enter Tryz.func93, Tryz.ntmps93
  go_wp2
  go_loopg [3, 5, 8] n (fun g x3 _ x8 wr => ∃ j : Nat, g = n - j ∧ j ≤ n ∧ x8 = .int .i64 j ∧ wr.ownsRow w.heap.size 45 3 x3 j ((l.take j).flatMap bandC) ∧ Ch (fun _ => False) w wr)
  case atStart => exact ⟨0, rfl, Nat.zero_le _, rfl, World.ownsRow_nil _ _ _ _, Ch.refl _ _⟩
  case round =>
    obtain ⟨j, hg, hj, rfl, hown, hch⟩ := hrel
    have HG := Lib.hid hg
    have HC := Lib.hid hch
    have HO := Lib.hid hown
    clear hg hch hown
    by_cases hlt : j < n
    · have hget : l[j]? = some (l[j]'(by rw [HLEN.out]; exact hlt)) := List.getElem?_eq_getElem _
      generalize l[j]'(by rw [HLEN.out]; exact hlt) = a at hget
      obtain ⟨x, s, m⟩ := a
      obtain ⟨b, o, hA, hc⟩ := (HL.out.ch HC.out) j _ hget
      subst hA
      unfold bandC at hc
      have k0 := hc 0 _ rfl
      rw [Nat.add_zero] at k0
      have k1 := hc 1 _ rfl
      rw [← Nat.add_assoc] at k1
      have k2 := hc 2 _ rfl
      rw [← Nat.add_assoc] at k2
      have HT := Lib.hid (take_flat bandC hget)
      have hcx : Ch (fun _ => False) wr ((wr.alloc (.cells #[.bool x, .string s, .int .u64 m] 134)).alloc (.cells #[.bool x, .string s, .int .u64 m] 45)) := (Ch.grown (World.grownBy_alloc _ _ none) (by simp)).trans (Ch.grown (World.grownBy_alloc _ _ none) (by simp))
      have hb : ((wr.alloc (.cells #[.bool x, .string s, .int .u64 m] 134)).alloc (.cells #[.bool x, .string s, .int .u64 m] 45)).heap[wr.heap.size + 1]? = some (.cells #[.bool x, .string s, .int .u64 m] 45 (0, 0)) := by
        have h1 := heap_alloc_new (wr.alloc (.cells #[.bool x, .string s, .int .u64 m] 134)) (.cells #[.bool x, .string s, .int .u64 m] 45)
        rw [World.size_alloc] at h1
        exact h1
      have HX := Lib.hid hcx
      have HB := Lib.hid hb
      have HS := Lib.hid (Nat.le_trans HC.out.size HX.out.size)
      clear hc hget hcx hb
      go_wp2_with (at_builtin; refine wpList_append_lies _ rfl (.tmp 12) (.tmp 20) 30 rfl w.heap.size 45 i0 _ 3 32 Tryz.underlying30 hi0 hz0 hz1 hz2 rfl (by decide) u3 j _ rfl ((HO.out.alloc _).alloc _) ⟨wr.heap.size + 1, 0, none⟩ 1 1 [.bool x, .string s, .int .u64 m] rfl rfl (World.news_of_block HB.out) (by simp [Value.oneCell']) (by decide) (by unfold maxLen; omega) (by omega) HS.out _ rfl ?_; intro g1 cap1 W1 hown1 hgrow1 hat1 hlt1; have HO1 := Lib.hid hown1; have HG1 := Lib.hid hgrow1; clear hown1 hgrow1 hat1 hlt1)
      have HC1 := Lib.hid ((HC.out.trans HX.out).old HG1.out (fun k hk => .inl (HO.out.lt k hk).1))
      go_roundg (n - (j + 1))
      case measure => have := HG.out; omega
      case rel =>
        refine ⟨j + 1, rfl, by omega, by simp, ?_, HC1.out⟩
        rw [HT.out]
        exact HO1.out
    · obtain rfl : j = n := by omega
      go_wp2
      refine bodyPost_ret (v := u3) (by simp [results, Tryz.results93]) rfl ?_
      refine ⟨u3, rfl, ?_, HC.out⟩
      have h1 := HO.out
      rw [← HLEN.out, List.take_length, HLEN.out] at h1
      rw [HLEN.out]
      exact h1

end Go.Proofs.YtimonhimfioohaaGreatDoor
