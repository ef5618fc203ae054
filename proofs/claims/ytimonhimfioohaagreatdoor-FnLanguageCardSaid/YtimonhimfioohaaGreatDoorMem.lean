/- Slices whose elements read; the laws on sizes: they tell true only if all lengths are small. -/
import Derived.Test.YtimonhimfioohaaGreatDoorTime
import Derived.Deep.LoopGhost
namespace Go.Proofs.YtimonhimfioohaaGreatDoor
open Go.RowKit

/-- A slice of n elements of so many cells: R tells what an element's cells are. -/
def Els (w : World) (size : Nat) (R : List Value → Prop) (A : Option Addr) (n : Nat) : Prop :=
  ∀ k, k < n → ∃ b o cs, A = some ⟨b, o, none⟩ ∧ cs.length = size ∧ R cs ∧ ∀ j u, cs[j]? = some u → w.cell? ⟨b, o + (k * size + j), none⟩ = some u

theorem Ch.cell0 {w w' : World} (h : Ch (fun _ => False) w w') {p : Addr} {v : Value} (hc : w.cell? p = some v) : w'.cell? p = some v := by
  have hb := World.block_lt_of_cell? w p hc
  rw [World.cell?_of_block (h.block p.block hb id)]
  exact hc
theorem Els.ch {w w' : World} {size n : Nat} {R : List Value → Prop} {A : Option Addr} (h : Els w size R A n) (hc : Ch (fun _ => False) w w') : Els w' size R A n := by
  intro k hk
  obtain ⟨b, o, cs, h1, h2, h3, h4⟩ := h k hk
  exact ⟨b, o, cs, h1, h2, h3, fun j u hu => hc.cell0 (h4 j u hu)⟩
theorem Els.mono {w : World} {size n : Nat} {R S : List Value → Prop} {A : Option Addr} (h : Els w size R A n) (hRS : ∀ cs, R cs → S cs) : Els w size S A n := by
  intro k hk
  obtain ⟨b, o, cs, h1, h2, h3, h4⟩ := h k hk
  exact ⟨b, o, cs, h1, h2, hRS cs h3, h4⟩
theorem Els.at0 {w : World} {size n : Nat} {R : List Value → Prop} {A : Option Addr} (h : Els w size R A n) (hn : 0 < n) : ∃ b o cs, A = some ⟨b, o, none⟩ ∧ cs.length = size ∧ R cs ∧ ∀ j u, cs[j]? = some u → w.cell? ⟨b, o + j, none⟩ = some u := by
  obtain ⟨b, o, cs, h1, h2, h3, h4⟩ := h 0 hn
  exact ⟨b, o, cs, h1, h2, h3, fun j u hu => by have := h4 j u hu; rwa [Nat.zero_mul, Nat.zero_add] at this⟩

/-- A bool that, if it is true, tells something. -/
def TellsB (P : Prop) (e : Ending) : Prop := ∃ r, e = .returned (.bool r) ∧ (r = true → P)

def isStr (cs : List Value) : Prop := ∃ s : ByteArray, cs = [.string s]
def isInt (cs : List Value) : Prop := ∃ n : Int, cs = [.int .i64 n]
def isAttr (cs : List Value) : Prop := ∃ s t : ByteArray, cs = [.string s, .string t]
def isBand (cs : List Value) : Prop := ∃ (x : Bool) (s : ByteArray) (n : Int), cs = [.bool x, .string s, .int .u64 n]
def isZone (cs : List Value) : Prop := ∃ n m : Int, cs = [.int .u64 n, .int .i64 m]
def isAddr (w : World) (cs : List Value) : Prop := ∃ (s : ByteArray) (A : Option Addr) (n c : Nat) (B : Option Addr) (m d : Nat), cs = [.string s, .slice A n c, .slice B m d] ∧ n ≤ maxLen ∧ m ≤ maxLen ∧ Els w 1 isInt A n ∧ Els w 1 isInt B m
def isConn (w : World) (cs : List Value) : Prop := ∃ (s t : ByteArray) (A : Option Addr) (n c : Nat), cs = [.string s, .string t, .slice A n c] ∧ n ≤ maxLen ∧ Els w 3 (isAddr w) A n
def isRepeat (w : World) (cs : List Value) : Prop := ∃ (i j : Int) (A : Option Addr) (n c : Nat), cs = [.int .i64 i, .int .i64 j, .slice A n c] ∧ n ≤ maxLen ∧ n * 8 ≤ 140737488355328 ∧ Els w 1 isInt A n
def isTime (w : World) (cs : List Value) : Prop := ∃ (i j : Int) (A : Option Addr) (n c : Nat), cs = [.int .u64 i, .int .u64 j, .slice A n c] ∧ n ≤ maxLen ∧ Els w 3 (isRepeat w) A n
/-- The cells of a medium. -/
def medCells (name : ByteArray) (port : Int) (A1 A2 A3 A4 A5 A6 A7 A8 : Option Addr) (n1 n2 n3 n4 n5 n6 n7 n8 c1 c2 c3 c4 c5 c6 c7 c8 : Nat) : List Value :=
  [.string name, .int .i64 port, .slice A1 n1 c1, .slice A2 n2 c2, .slice A3 n3 c3, .slice A4 n4 c4, .slice A5 n5 c5, .slice A6 n6 c6, .slice A7 n7 c7, .slice A8 n8 c8]
/-- What a medium's slices read. -/
structure MedRd (w : World) (A1 A2 A3 A4 A5 A6 A7 A8 : Option Addr) (n1 n2 n3 n4 n5 n6 n7 n8 : Nat) : Prop where
  l1 : n1 ≤ maxLen
  l2 : n2 ≤ maxLen
  l3 : n3 ≤ maxLen
  l4 : n4 ≤ maxLen
  l5 : n5 ≤ maxLen
  l6 : n6 ≤ maxLen
  l7 : n7 ≤ maxLen
  l8 : n8 ≤ maxLen
  r1 : Els w 1 isInt A1 n1
  r2 : Els w 1 isStr A2 n2
  r3 : Els w 1 isStr A3 n3
  r4 : Els w 1 isStr A4 n4
  r5 : Els w 3 (isConn w) A5 n5
  r6 : Els w 3 isBand A6 n6
  r7 : Els w 1 isStr A7 n7
  r8 : Els w 2 isAttr A8 n8
def isMedia (w : World) (cs : List Value) : Prop := ∃ name port A1 A2 A3 A4 A5 A6 A7 A8 n1 n2 n3 n4 n5 n6 n7 n8 c1 c2 c3 c4 c5 c6 c7 c8, cs = medCells name port A1 A2 A3 A4 A5 A6 A7 A8 n1 n2 n3 n4 n5 n6 n7 n8 c1 c2 c3 c4 c5 c6 c7 c8 ∧ MedRd w A1 A2 A3 A4 A5 A6 A7 A8 n1 n2 n3 n4 n5 n6 n7 n8

theorem isAddr.ch {w w' : World} {cs : List Value} (h : isAddr w cs) (hc : Ch (fun _ => False) w w') : isAddr w' cs := by
  obtain ⟨s, A, n, c, B, m, d, h1, h2, h3, h4, h5⟩ := h
  exact ⟨s, A, n, c, B, m, d, h1, h2, h3, h4.ch hc, h5.ch hc⟩
theorem isConn.ch {w w' : World} {cs : List Value} (h : isConn w cs) (hc : Ch (fun _ => False) w w') : isConn w' cs := by
  obtain ⟨s, t, A, n, c, h1, h2, h3⟩ := h
  exact ⟨s, t, A, n, c, h1, h2, (h3.ch hc).mono fun _ h => h.ch hc⟩
theorem isRepeat.ch {w w' : World} {cs : List Value} (h : isRepeat w cs) (hc : Ch (fun _ => False) w w') : isRepeat w' cs := by
  obtain ⟨s, t, A, n, c, h1, h2, h3, h4⟩ := h
  exact ⟨s, t, A, n, c, h1, h2, h3, h4.ch hc⟩
theorem isTime.ch {w w' : World} {cs : List Value} (h : isTime w cs) (hc : Ch (fun _ => False) w w') : isTime w' cs := by
  obtain ⟨s, t, A, n, c, h1, h2, h3⟩ := h
  exact ⟨s, t, A, n, c, h1, h2, (h3.ch hc).mono fun _ h => h.ch hc⟩
theorem MedRd.ch {w w' : World} {A1 A2 A3 A4 A5 A6 A7 A8 : Option Addr} {n1 n2 n3 n4 n5 n6 n7 n8 : Nat} (h : MedRd w A1 A2 A3 A4 A5 A6 A7 A8 n1 n2 n3 n4 n5 n6 n7 n8) (hc : Ch (fun _ => False) w w') : MedRd w' A1 A2 A3 A4 A5 A6 A7 A8 n1 n2 n3 n4 n5 n6 n7 n8 :=
  ⟨h.l1, h.l2, h.l3, h.l4, h.l5, h.l6, h.l7, h.l8, h.r1.ch hc, h.r2.ch hc, h.r3.ch hc, h.r4.ch hc, (h.r5.ch hc).mono fun _ k => k.ch hc, h.r6.ch hc, h.r7.ch hc, h.r8.ch hc⟩
theorem isMedia.ch {w w' : World} {cs : List Value} (h : isMedia w cs) (hc : Ch (fun _ => False) w w') : isMedia w' cs := by
  obtain ⟨name, port, A1, A2, A3, A4, A5, A6, A7, A8, n1, n2, n3, n4, n5, n6, n7, n8, c1, c2, c3, c4, c5, c6, c7, c8, h1, h2⟩ := h
  exact ⟨name, port, A1, A2, A3, A4, A5, A6, A7, A8, n1, n2, n3, n4, n5, n6, n7, n8, c1, c2, c3, c4, c5, c6, c7, c8, h1, h2.ch hc⟩

set_option maxRecDepth 100000 in
set_option maxHeartbeats 1600000 in
theorem zzFits3_any {A : Option Addr} {n c : Nat} {w : World} (hn : n ≤ maxLen) (h : Els w 1 isStr A n) :
    Calls Tryz.prog 60 #[.slice A n c] w fun e w' => TellsB (n ≤ 2147483647) e ∧ Ch (fun _ => False) w w' := by
  have HE := Lib.hid h
  clear h
  unfold maxLen at hn
  go_enter Tryz.func60, Tryz.ntmps60
  by_cases hn2 : 2147483647 < n
  · go_wp2
    refine bodyPost_ret (v := .bool false) (by simp [results, Tryz.results60]) rfl ?_
    exact ⟨⟨_, rfl, fun h => nomatch h⟩, Ch.refl _ _⟩
  go_wp2
  go_loopg [10] n (fun g x wr => ∃ j : Nat, g = n - j ∧ j ≤ n ∧ x = .int .i64 j ∧ wr = w)
  case atStart => exact ⟨0, rfl, Nat.zero_le _, rfl, rfl⟩
  case round =>
    obtain ⟨j, hg, hj, rfl, rfl⟩ := hrel
    have HG := Lib.hid hg
    clear hg
    by_cases hlt : j < n
    · obtain ⟨b, o, cs, rfl, -, ⟨s, rfl⟩, hc⟩ := HE.out j hlt
      have c0 := hc 0 _ rfl
      rw [Nat.mul_one, Nat.add_zero] at c0
      clear hc
      by_cases hs : 2147483647 < s.size
      · go_wp2
        refine bodyPost_ret (v := .bool false) (by simp [results, Tryz.results60]) rfl ?_
        exact ⟨⟨_, rfl, fun h => nomatch h⟩, Ch.refl _ _⟩
      · go_wp2
        go_roundg (n - (j + 1))
        case measure => have := HG.out; omega
        case rel => exact ⟨j + 1, rfl, by omega, by simp, rfl⟩
    · go_wp2
      refine bodyPost_ret (v := .bool true) (by simp [results, Tryz.results60]) rfl ?_
      exact ⟨⟨_, rfl, fun _ => by omega⟩, Ch.refl _ _⟩

set_option maxRecDepth 100000 in
set_option maxHeartbeats 1600000 in
theorem zzFits_f101 {s t : ByteArray} {w : World} :
    Calls Tryz.prog 101 #[.agg #[.string s, .string t]] w fun e w' => TellsB (True) e ∧ Ch (fun _ => False) w w' := by
  have hc : Ch (fun _ => False) w (w.alloc (.cells #[.string s, .string t] 73)) := Ch.grown (World.grownBy_alloc _ _ none) (by simp)
  have HC := Lib.hid hc
  clear hc
  go_enter Tryz.func101, Tryz.ntmps101
  go_wp2
  all_goals
    refine bodyPost_ret (by simp [results, Tryz.results101]; rfl) rfl ?_
    exact ⟨⟨_, rfl, fun _ => trivial⟩, HC.out⟩

set_option maxRecDepth 100000 in
set_option maxHeartbeats 1600000 in
theorem zzFits14_any {A : Option Addr} {n c : Nat} {w : World} (hn : n ≤ maxLen) (h : Els w 2 isAttr A n) :
    Calls Tryz.prog 63 #[.slice A n c] w fun e w' => TellsB (n ≤ 2147483647) e ∧ Ch (fun _ => False) w w' := by
  have HE := Lib.hid h
  clear h
  unfold maxLen at hn
  go_enter Tryz.func63, Tryz.ntmps63
  by_cases hn2 : 2147483647 < n
  · go_wp2
    refine bodyPost_ret (v := .bool false) (by simp [results, Tryz.results63]) rfl ?_
    exact ⟨⟨_, rfl, fun h => nomatch h⟩, Ch.refl _ _⟩
  go_wp2
  go_loopg [4, 10] n (fun g _ x wr => ∃ j : Nat, g = n - j ∧ j ≤ n ∧ x = .int .i64 j ∧ Ch (fun _ => False) w wr)
  case atStart => exact ⟨0, rfl, Nat.zero_le _, rfl, Ch.refl _ _⟩
  case round =>
    obtain ⟨j, hg, hj, rfl, hch⟩ := hrel
    have HG := Lib.hid hg
    have HC := Lib.hid hch
    clear hg hch
    by_cases hlt : j < n
    · obtain ⟨b, o, cs, rfl, -, ⟨s, t, rfl⟩, hc⟩ := (HE.out.ch HC.out) j hlt
      have k0 := hc 0 _ rfl
      rw [Nat.add_zero] at k0
      have k1 := hc 1 _ rfl
      rw [← Nat.add_assoc] at k1
      clear hc
      have hcx : Ch (fun _ => False) wr (wr.alloc (.cells #[.string s, .string t] 73)) := Ch.grown (World.grownBy_alloc _ _ none) (by simp)
      have HX := Lib.hid hcx
      clear hcx
      go_wp2_with fail
      refine (zzFits_f101 ).mono ?_
      rintro e w1 ⟨⟨r, rfl, hr⟩, hc1⟩
      clear hr
      have HD := Lib.hid (HC.out.trans (HX.out.trans hc1))
      clear hc1 k0 k1
      cases r with
      | false =>
        go_wp2
        refine bodyPost_ret (v := .bool false) (by simp [results, Tryz.results63]) rfl ?_
        exact ⟨⟨_, rfl, fun h => nomatch h⟩, HD.out⟩
      | true =>
        go_wp2
        go_roundg (n - (j + 1))
        case measure => have := HG.out; omega
        case rel => exact ⟨j + 1, rfl, by omega, by simp, HD.out⟩
    · go_wp2
      refine bodyPost_ret (v := .bool true) (by simp [results, Tryz.results63]) rfl ?_
      exact ⟨⟨_, rfl, fun _ => by omega⟩, HC.out⟩

set_option maxRecDepth 100000 in
set_option maxHeartbeats 1600000 in
theorem zzFits_f20 {x : Bool} {s : ByteArray} {m : Int} {w : World} :
    Calls Tryz.prog 20 #[.agg #[.bool x, .string s, .int .u64 m]] w fun e w' => TellsB (True) e ∧ Ch (fun _ => False) w w' := by
  have hc : Ch (fun _ => False) w (w.alloc (.cells #[.bool x, .string s, .int .u64 m] 45)) := Ch.grown (World.grownBy_alloc _ _ none) (by simp)
  have HC := Lib.hid hc
  clear hc
  go_enter Tryz.func20, Tryz.ntmps20
  go_wp2
  all_goals
    refine bodyPost_ret (by simp [results, Tryz.results20]; rfl) rfl ?_
    exact ⟨⟨_, rfl, fun _ => trivial⟩, HC.out⟩

set_option maxRecDepth 100000 in
set_option maxHeartbeats 1600000 in
theorem zzFits8_any {A : Option Addr} {n c : Nat} {w : World} (hn : n ≤ maxLen) (h : Els w 3 isBand A n) :
    Calls Tryz.prog 62 #[.slice A n c] w fun e w' => TellsB (n ≤ 2147483647) e ∧ Ch (fun _ => False) w w' := by
  have HE := Lib.hid h
  clear h
  unfold maxLen at hn
  go_enter Tryz.func62, Tryz.ntmps62
  by_cases hn2 : 2147483647 < n
  · go_wp2
    refine bodyPost_ret (v := .bool false) (by simp [results, Tryz.results62]) rfl ?_
    exact ⟨⟨_, rfl, fun h => nomatch h⟩, Ch.refl _ _⟩
  go_wp2
  go_loopg [4, 10] n (fun g _ x wr => ∃ j : Nat, g = n - j ∧ j ≤ n ∧ x = .int .i64 j ∧ Ch (fun _ => False) w wr)
  case atStart => exact ⟨0, rfl, Nat.zero_le _, rfl, Ch.refl _ _⟩
  case round =>
    obtain ⟨j, hg, hj, rfl, hch⟩ := hrel
    have HG := Lib.hid hg
    have HC := Lib.hid hch
    clear hg hch
    by_cases hlt : j < n
    · obtain ⟨b, o, cs, rfl, -, ⟨x, s, m, rfl⟩, hc⟩ := (HE.out.ch HC.out) j hlt
      have k0 := hc 0 _ rfl
      rw [Nat.add_zero] at k0
      have k1 := hc 1 _ rfl
      rw [← Nat.add_assoc] at k1
      have k2 := hc 2 _ rfl
      rw [← Nat.add_assoc] at k2
      clear hc
      have hcx : Ch (fun _ => False) wr (wr.alloc (.cells #[.bool x, .string s, .int .u64 m] 45)) := Ch.grown (World.grownBy_alloc _ _ none) (by simp)
      have HX := Lib.hid hcx
      clear hcx
      go_wp2_with fail
      refine (zzFits_f20 ).mono ?_
      rintro e w1 ⟨⟨r, rfl, hr⟩, hc1⟩
      clear hr
      have HD := Lib.hid (HC.out.trans (HX.out.trans hc1))
      clear hc1 k0 k1 k2
      cases r with
      | false =>
        go_wp2
        refine bodyPost_ret (v := .bool false) (by simp [results, Tryz.results62]) rfl ?_
        exact ⟨⟨_, rfl, fun h => nomatch h⟩, HD.out⟩
      | true =>
        go_wp2
        go_roundg (n - (j + 1))
        case measure => have := HG.out; omega
        case rel => exact ⟨j + 1, rfl, by omega, by simp, HD.out⟩
    · go_wp2
      refine bodyPost_ret (v := .bool true) (by simp [results, Tryz.results62]) rfl ?_
      exact ⟨⟨_, rfl, fun _ => by omega⟩, HC.out⟩

set_option maxRecDepth 100000 in
set_option maxHeartbeats 1600000 in
theorem zzFits_f158 {s : ByteArray} {A : Option Addr} {n c : Nat} {B : Option Addr} {m d : Nat} {w : World} :
    Calls Tryz.prog 158 #[.agg #[.string s, .slice A n c, .slice B m d]] w fun e w' => TellsB (True) e ∧ Ch (fun _ => False) w w' := by
  have hc : Ch (fun _ => False) w (w.alloc (.cells #[.string s, .slice A n c, .slice B m d] 259)) := Ch.grown (World.grownBy_alloc _ _ none) (by simp)
  have HC := Lib.hid hc
  clear hc
  go_enter Tryz.func158, Tryz.ntmps158
  go_wp2
  all_goals
    refine bodyPost_ret (by simp [results, Tryz.results158]; rfl) rfl ?_
    exact ⟨⟨_, rfl, fun _ => trivial⟩, HC.out⟩

set_option maxRecDepth 100000 in
set_option maxHeartbeats 1600000 in
theorem zzFits6_any {A : Option Addr} {n c : Nat} {w : World} (hn : n ≤ maxLen) (h : Els w 3 (isAddr w) A n) :
    Calls Tryz.prog 137 #[.slice A n c] w fun e w' => TellsB (n ≤ 2147483647) e ∧ Ch (fun _ => False) w w' := by
  have HE := Lib.hid h
  clear h
  unfold maxLen at hn
  go_enter Tryz.func137, Tryz.ntmps137
  by_cases hn2 : 2147483647 < n
  · go_wp2
    refine bodyPost_ret (v := .bool false) (by simp [results, Tryz.results137]) rfl ?_
    exact ⟨⟨_, rfl, fun h => nomatch h⟩, Ch.refl _ _⟩
  go_wp2
  go_loopg [4, 10] n (fun g _ x wr => ∃ j : Nat, g = n - j ∧ j ≤ n ∧ x = .int .i64 j ∧ Ch (fun _ => False) w wr)
  case atStart => exact ⟨0, rfl, Nat.zero_le _, rfl, Ch.refl _ _⟩
  case round =>
    obtain ⟨j, hg, hj, rfl, hch⟩ := hrel
    have HG := Lib.hid hg
    have HC := Lib.hid hch
    clear hg hch
    by_cases hlt : j < n
    · obtain ⟨b, o, cs, rfl, -, ⟨s, A1, n1, c1, A2, n2, c2, rfl, hl1, hl2, he1, he2⟩, hc⟩ := ((HE.out.ch HC.out).mono fun _ h => isAddr.ch h HC.out) j hlt
      have k0 := hc 0 _ rfl
      rw [Nat.add_zero] at k0
      have k1 := hc 1 _ rfl
      rw [← Nat.add_assoc] at k1
      have k2 := hc 2 _ rfl
      rw [← Nat.add_assoc] at k2
      clear hc
      have hcx : Ch (fun _ => False) wr (wr.alloc (.cells #[.string s, .slice A1 n1 c1, .slice A2 n2 c2] 259)) := Ch.grown (World.grownBy_alloc _ _ none) (by simp)
      have HX := Lib.hid hcx
      clear hcx
      go_wp2_with fail
      refine (zzFits_f158 ).mono ?_
      rintro e w1 ⟨⟨r, rfl, hr⟩, hc1⟩
      clear hr
      have HD := Lib.hid (HC.out.trans (HX.out.trans hc1))
      clear hc1 k0 k1 k2
      cases r with
      | false =>
        go_wp2
        refine bodyPost_ret (v := .bool false) (by simp [results, Tryz.results137]) rfl ?_
        exact ⟨⟨_, rfl, fun h => nomatch h⟩, HD.out⟩
      | true =>
        go_wp2
        go_roundg (n - (j + 1))
        case measure => have := HG.out; omega
        case rel => exact ⟨j + 1, rfl, by omega, by simp, HD.out⟩
    · go_wp2
      refine bodyPost_ret (v := .bool true) (by simp [results, Tryz.results137]) rfl ?_
      exact ⟨⟨_, rfl, fun _ => by omega⟩, HC.out⟩

set_option maxRecDepth 100000 in
set_option maxHeartbeats 1600000 in
theorem zzFits_f100 {s t : ByteArray} {A : Option Addr} {n c : Nat} {w : World} (hn : n ≤ maxLen) (h : Els w 3 (isAddr w) A n) :
    Calls Tryz.prog 100 #[.agg #[.string s, .string t, .slice A n c]] w fun e w' => TellsB True e ∧ Ch (fun _ => False) w w' := by
  have hcx : Ch (fun _ => False) w (w.alloc (.cells #[.string s, .string t, .slice A n c] 217)) := Ch.grown (World.grownBy_alloc _ _ none) (by simp)
  have h' := (h.ch hcx).mono fun _ k => isAddr.ch k hcx
  have HE := Lib.hid h'
  have HX := Lib.hid hcx
  have HN := Lib.hid hn
  clear h h' hcx hn
  go_enter Tryz.func100, Tryz.ntmps100
  go_wp2_with (go_at_call 137; refine (zzFits6_any HN.out HE.out).mono ?_; rintro e w1 ⟨⟨r, rfl, hr⟩, hc1⟩; have HD := Lib.hid (HX.out.trans hc1); clear hr hc1; cases r)
  all_goals
    refine bodyPost_ret (by simp [results, Tryz.results100]; rfl) rfl ?_
    first
      | exact ⟨⟨_, rfl, fun _ => trivial⟩, HD.out⟩
      | exact ⟨⟨_, rfl, fun _ => trivial⟩, HX.out⟩

set_option maxRecDepth 100000 in
set_option maxHeartbeats 1600000 in
theorem zzFits4_any {A : Option Addr} {n c : Nat} {w : World} (hn : n ≤ maxLen) (h : Els w 3 (isConn w) A n) :
    Calls Tryz.prog 61 #[.slice A n c] w fun e w' => TellsB (n ≤ 2147483647) e ∧ Ch (fun _ => False) w w' := by
  have HE := Lib.hid h
  clear h
  unfold maxLen at hn
  go_enter Tryz.func61, Tryz.ntmps61
  by_cases hn2 : 2147483647 < n
  · go_wp2
    refine bodyPost_ret (v := .bool false) (by simp [results, Tryz.results61]) rfl ?_
    exact ⟨⟨_, rfl, fun h => nomatch h⟩, Ch.refl _ _⟩
  go_wp2
  go_loopg [4, 10] n (fun g _ x wr => ∃ j : Nat, g = n - j ∧ j ≤ n ∧ x = .int .i64 j ∧ Ch (fun _ => False) w wr)
  case atStart => exact ⟨0, rfl, Nat.zero_le _, rfl, Ch.refl _ _⟩
  case round =>
    obtain ⟨j, hg, hj, rfl, hch⟩ := hrel
    have HG := Lib.hid hg
    have HC := Lib.hid hch
    clear hg hch
    by_cases hlt : j < n
    · obtain ⟨b, o, cs, rfl, -, ⟨s, t, A1, n1, c1, rfl, hl1, he1⟩, hc⟩ := ((HE.out.ch HC.out).mono fun _ h => isConn.ch h HC.out) j hlt
      have k0 := hc 0 _ rfl
      rw [Nat.add_zero] at k0
      have k1 := hc 1 _ rfl
      rw [← Nat.add_assoc] at k1
      have k2 := hc 2 _ rfl
      rw [← Nat.add_assoc] at k2
      clear hc
      have hcx : Ch (fun _ => False) wr (wr.alloc (.cells #[.string s, .string t, .slice A1 n1 c1] 217)) := Ch.grown (World.grownBy_alloc _ _ none) (by simp)
      have HX := Lib.hid hcx
      clear hcx
      go_wp2_with fail
      refine (zzFits_f100 hl1 ((he1.ch HX.out).mono fun _ k => isAddr.ch k HX.out)).mono ?_
      rintro e w1 ⟨⟨r, rfl, hr⟩, hc1⟩
      clear hr
      have HD := Lib.hid (HC.out.trans (HX.out.trans hc1))
      clear hc1 k0 k1 k2
      cases r with
      | false =>
        go_wp2
        refine bodyPost_ret (v := .bool false) (by simp [results, Tryz.results61]) rfl ?_
        exact ⟨⟨_, rfl, fun h => nomatch h⟩, HD.out⟩
      | true =>
        go_wp2
        go_roundg (n - (j + 1))
        case measure => have := HG.out; omega
        case rel => exact ⟨j + 1, rfl, by omega, by simp, HD.out⟩
    · go_wp2
      refine bodyPost_ret (v := .bool true) (by simp [results, Tryz.results61]) rfl ?_
      exact ⟨⟨_, rfl, fun _ => by omega⟩, HC.out⟩

set_option maxRecDepth 100000 in
set_option maxHeartbeats 1600000 in
theorem zzFits_f163 {i j : Int} {A : Option Addr} {n c : Nat} {w : World} :
    Calls Tryz.prog 163 #[.agg #[.int .i64 i, .int .i64 j, .slice A n c]] w fun e w' => TellsB (True) e ∧ Ch (fun _ => False) w w' := by
  have hc : Ch (fun _ => False) w (w.alloc (.cells #[.int .i64 i, .int .i64 j, .slice A n c] 201)) := Ch.grown (World.grownBy_alloc _ _ none) (by simp)
  have HC := Lib.hid hc
  clear hc
  go_enter Tryz.func163, Tryz.ntmps163
  go_wp2
  all_goals
    refine bodyPost_ret (by simp [results, Tryz.results163]; rfl) rfl ?_
    exact ⟨⟨_, rfl, fun _ => trivial⟩, HC.out⟩

set_option maxRecDepth 100000 in
set_option maxHeartbeats 1600000 in
theorem zzFits12_any {A : Option Addr} {n c : Nat} {w : World} (hn : n ≤ maxLen) (h : Els w 3 (isRepeat w) A n) :
    Calls Tryz.prog 139 #[.slice A n c] w fun e w' => TellsB (n ≤ 2147483647) e ∧ Ch (fun _ => False) w w' := by
  have HE := Lib.hid h
  clear h
  unfold maxLen at hn
  go_enter Tryz.func139, Tryz.ntmps139
  by_cases hn2 : 2147483647 < n
  · go_wp2
    refine bodyPost_ret (v := .bool false) (by simp [results, Tryz.results139]) rfl ?_
    exact ⟨⟨_, rfl, fun h => nomatch h⟩, Ch.refl _ _⟩
  go_wp2
  go_loopg [4, 10] n (fun g _ x wr => ∃ j : Nat, g = n - j ∧ j ≤ n ∧ x = .int .i64 j ∧ Ch (fun _ => False) w wr)
  case atStart => exact ⟨0, rfl, Nat.zero_le _, rfl, Ch.refl _ _⟩
  case round =>
    obtain ⟨j, hg, hj, rfl, hch⟩ := hrel
    have HG := Lib.hid hg
    have HC := Lib.hid hch
    clear hg hch
    by_cases hlt : j < n
    · obtain ⟨b, o, cs, rfl, -, ⟨s, t, A1, n1, c1, rfl, hl1, hl2, he1⟩, hc⟩ := ((HE.out.ch HC.out).mono fun _ h => isRepeat.ch h HC.out) j hlt
      have k0 := hc 0 _ rfl
      rw [Nat.add_zero] at k0
      have k1 := hc 1 _ rfl
      rw [← Nat.add_assoc] at k1
      have k2 := hc 2 _ rfl
      rw [← Nat.add_assoc] at k2
      clear hc
      have hcx : Ch (fun _ => False) wr (wr.alloc (.cells #[.int .i64 s, .int .i64 t, .slice A1 n1 c1] 201)) := Ch.grown (World.grownBy_alloc _ _ none) (by simp)
      have HX := Lib.hid hcx
      clear hcx
      go_wp2_with fail
      refine (zzFits_f163 ).mono ?_
      rintro e w1 ⟨⟨r, rfl, hr⟩, hc1⟩
      clear hr
      have HD := Lib.hid (HC.out.trans (HX.out.trans hc1))
      clear hc1 k0 k1 k2
      cases r with
      | false =>
        go_wp2
        refine bodyPost_ret (v := .bool false) (by simp [results, Tryz.results139]) rfl ?_
        exact ⟨⟨_, rfl, fun h => nomatch h⟩, HD.out⟩
      | true =>
        go_wp2
        go_roundg (n - (j + 1))
        case measure => have := HG.out; omega
        case rel => exact ⟨j + 1, rfl, by omega, by simp, HD.out⟩
    · go_wp2
      refine bodyPost_ret (v := .bool true) (by simp [results, Tryz.results139]) rfl ?_
      exact ⟨⟨_, rfl, fun _ => by omega⟩, HC.out⟩

set_option maxRecDepth 100000 in
set_option maxHeartbeats 1600000 in
theorem zzFits_f111 {i j : Int} {A : Option Addr} {n c : Nat} {w : World} (hn : n ≤ maxLen) (h : Els w 3 (isRepeat w) A n) :
    Calls Tryz.prog 111 #[.agg #[.int .u64 i, .int .u64 j, .slice A n c]] w fun e w' => TellsB True e ∧ Ch (fun _ => False) w w' := by
  have hcx : Ch (fun _ => False) w (w.alloc (.cells #[.int .u64 i, .int .u64 j, .slice A n c] 196)) := Ch.grown (World.grownBy_alloc _ _ none) (by simp)
  have h' := (h.ch hcx).mono fun _ k => isRepeat.ch k hcx
  have HE := Lib.hid h'
  have HX := Lib.hid hcx
  have HN := Lib.hid hn
  clear h h' hcx hn
  go_enter Tryz.func111, Tryz.ntmps111
  go_wp2_with (go_at_call 139; refine (zzFits12_any HN.out HE.out).mono ?_; rintro e w1 ⟨⟨r, rfl, hr⟩, hc1⟩; have HD := Lib.hid (HX.out.trans hc1); clear hr hc1; cases r)
  all_goals
    refine bodyPost_ret (by simp [results, Tryz.results111]; rfl) rfl ?_
    first
      | exact ⟨⟨_, rfl, fun _ => trivial⟩, HD.out⟩
      | exact ⟨⟨_, rfl, fun _ => trivial⟩, HX.out⟩

set_option maxRecDepth 100000 in
set_option maxHeartbeats 1600000 in
theorem zzFits10_any {A : Option Addr} {n c : Nat} {w : World} (hn : n ≤ maxLen) (h : Els w 3 (isTime w) A n) :
    Calls Tryz.prog 68 #[.slice A n c] w fun e w' => TellsB (n ≤ 2147483647) e ∧ Ch (fun _ => False) w w' := by
  have HE := Lib.hid h
  clear h
  unfold maxLen at hn
  go_enter Tryz.func68, Tryz.ntmps68
  by_cases hn2 : 2147483647 < n
  · go_wp2
    refine bodyPost_ret (v := .bool false) (by simp [results, Tryz.results68]) rfl ?_
    exact ⟨⟨_, rfl, fun h => nomatch h⟩, Ch.refl _ _⟩
  go_wp2
  go_loopg [4, 10] n (fun g _ x wr => ∃ j : Nat, g = n - j ∧ j ≤ n ∧ x = .int .i64 j ∧ Ch (fun _ => False) w wr)
  case atStart => exact ⟨0, rfl, Nat.zero_le _, rfl, Ch.refl _ _⟩
  case round =>
    obtain ⟨j, hg, hj, rfl, hch⟩ := hrel
    have HG := Lib.hid hg
    have HC := Lib.hid hch
    clear hg hch
    by_cases hlt : j < n
    · obtain ⟨b, o, cs, rfl, -, ⟨s, t, A1, n1, c1, rfl, hl1, he1⟩, hc⟩ := ((HE.out.ch HC.out).mono fun _ h => isTime.ch h HC.out) j hlt
      have k0 := hc 0 _ rfl
      rw [Nat.add_zero] at k0
      have k1 := hc 1 _ rfl
      rw [← Nat.add_assoc] at k1
      have k2 := hc 2 _ rfl
      rw [← Nat.add_assoc] at k2
      clear hc
      have hcx : Ch (fun _ => False) wr (wr.alloc (.cells #[.int .u64 s, .int .u64 t, .slice A1 n1 c1] 196)) := Ch.grown (World.grownBy_alloc _ _ none) (by simp)
      have HX := Lib.hid hcx
      clear hcx
      go_wp2_with fail
      refine (zzFits_f111 hl1 ((he1.ch HX.out).mono fun _ k => isRepeat.ch k HX.out)).mono ?_
      rintro e w1 ⟨⟨r, rfl, hr⟩, hc1⟩
      clear hr
      have HD := Lib.hid (HC.out.trans (HX.out.trans hc1))
      clear hc1 k0 k1 k2
      cases r with
      | false =>
        go_wp2
        refine bodyPost_ret (v := .bool false) (by simp [results, Tryz.results68]) rfl ?_
        exact ⟨⟨_, rfl, fun h => nomatch h⟩, HD.out⟩
      | true =>
        go_wp2
        go_roundg (n - (j + 1))
        case measure => have := HG.out; omega
        case rel => exact ⟨j + 1, rfl, by omega, by simp, HD.out⟩
    · go_wp2
      refine bodyPost_ret (v := .bool true) (by simp [results, Tryz.results68]) rfl ?_
      exact ⟨⟨_, rfl, fun _ => by omega⟩, HC.out⟩

set_option maxRecDepth 100000 in
set_option maxHeartbeats 1600000 in
theorem zzFits_f67 {s1 s2 s3 s4 : ByteArray} {i j : Int} {w : World} :
    Calls Tryz.prog 67 #[.agg #[.string s1, .int .u64 i, .int .u64 j, .string s2, .string s3, .string s4]] w fun e w' => TellsB (True) e ∧ Ch (fun _ => False) w w' := by
  have hc : Ch (fun _ => False) w (w.alloc (.cells #[.string s1, .int .u64 i, .int .u64 j, .string s2, .string s3, .string s4] 27)) := Ch.grown (World.grownBy_alloc _ _ none) (by simp)
  have HC := Lib.hid hc
  clear hc
  go_enter Tryz.func67, Tryz.ntmps67
  go_wp2
  all_goals
    refine bodyPost_ret (by simp [results, Tryz.results67]; rfl) rfl ?_
    exact ⟨⟨_, rfl, fun _ => trivial⟩, HC.out⟩

set_option maxRecDepth 100000 in
set_option maxHeartbeats 1600000 in
theorem zzFits17_any {name : ByteArray} {port : Int} {A1 A2 A3 A4 A5 A6 A7 A8 : Option Addr} {n1 n2 n3 n4 n5 n6 n7 n8 c1 c2 c3 c4 c5 c6 c7 c8 : Nat} {w : World} (h : MedRd w A1 A2 A3 A4 A5 A6 A7 A8 n1 n2 n3 n4 n5 n6 n7 n8) :
    Calls Tryz.prog 27 #[.agg #[.string name, .int .i64 port, .slice A1 n1 c1, .slice A2 n2 c2, .slice A3 n3 c3, .slice A4 n4 c4, .slice A5 n5 c5, .slice A6 n6 c6, .slice A7 n7 c7, .slice A8 n8 c8]] w fun e w' => TellsB (name.size ≤ 2147483647 ∧ n2 ≤ 2147483647 ∧ n3 ≤ 2147483647 ∧ n6 ≤ 2147483647 ∧ n8 ≤ 2147483647) e ∧ Ch (fun _ => False) w w' := by
  have hcx : Ch (fun _ => False) w (w.alloc (.cells #[.string name, .int .i64 port, .slice A1 n1 c1, .slice A2 n2 c2, .slice A3 n3 c3, .slice A4 n4 c4, .slice A5 n5 c5, .slice A6 n6 c6, .slice A7 n7 c7, .slice A8 n8 c8] 66)) := Ch.grown (World.grownBy_alloc _ _ none) (by simp)
  have hb : (w.alloc (.cells #[.string name, .int .i64 port, .slice A1 n1 c1, .slice A2 n2 c2, .slice A3 n3 c3, .slice A4 n4 c4, .slice A5 n5 c5, .slice A6 n6 c6, .slice A7 n7 c7, .slice A8 n8 c8] 66)).heap[w.heap.size]? = some (.cells #[.string name, .int .i64 port, .slice A1 n1 c1, .slice A2 n2 c2, .slice A3 n3 c3, .slice A4 n4 c4, .slice A5 n5 c5, .slice A6 n6 c6, .slice A7 n7 c7, .slice A8 n8 c8] 66 (0, 0)) := heap_alloc_new w _
  have HM := Lib.hid h
  have HX0 := Lib.hid hcx
  have HB0 := Lib.hid hb
  clear h hcx hb
  go_enter Tryz.func27, Tryz.ntmps27
  by_cases g0 : 2147483647 < name.size
  · go_wp2
    refine bodyPost_ret (v := .bool false) (by simp [results, Tryz.results27]) rfl ?_
    exact ⟨⟨_, rfl, fun h => nomatch h⟩, HX0.out⟩
  by_cases g1 : 2147483647 < n1
  · go_wp2
    refine bodyPost_ret (v := .bool false) (by simp [results, Tryz.results27]) rfl ?_
    exact ⟨⟨_, rfl, fun h => nomatch h⟩, HX0.out⟩
  go_wp2_with fail
  generalize hB : w.heap.size = B at *
  generalize w.alloc (.cells #[.string name, .int .i64 port, .slice A1 n1 c1, .slice A2 n2 c2, .slice A3 n3 c3, .slice A4 n4 c4, .slice A5 n5 c5, .slice A6 n6 c6, .slice A7 n7 c7, .slice A8 n8 c8] 66) = W0 at *
  refine (zzFits3_any (A := A2) (n := n2) (c := c2) HM.out.l2 (HM.out.ch HX0.out).r2).mono ?_
  rintro e W1 ⟨⟨r, rfl, hr2⟩, hc⟩
  have HX1 := Lib.hid (HX0.out.trans hc)
  have HB1 := Lib.hid ((hc.block B (blk_lt HB0.out) id).trans HB0.out)
  have HR2 := Lib.hid hr2
  clear hc hr2
  cases r with
  | false =>
    go_wp2
    refine bodyPost_ret (v := .bool false) (by simp [results, Tryz.results27]) rfl ?_
    exact ⟨⟨_, rfl, fun h => nomatch h⟩, HX1.out⟩
  | true =>
  have q5 : W1.cell? ⟨B, 4, none⟩ = some (.slice A3 n3 c3) := blk_cell HB1.out rfl
  go_wp2_with fail
  clear q5
  refine (zzFits3_any (A := A3) (n := n3) (c := c3) HM.out.l3 (HM.out.ch HX1.out).r3).mono ?_
  rintro e W2 ⟨⟨r, rfl, hr3⟩, hc⟩
  have HX2 := Lib.hid (HX1.out.trans hc)
  have HB2 := Lib.hid ((hc.block B (blk_lt HB1.out) id).trans HB1.out)
  have HR3 := Lib.hid hr3
  clear hc hr3
  cases r with
  | false =>
    go_wp2
    refine bodyPost_ret (v := .bool false) (by simp [results, Tryz.results27]) rfl ?_
    exact ⟨⟨_, rfl, fun h => nomatch h⟩, HX2.out⟩
  | true =>
  have q6 : W2.cell? ⟨B, 5, none⟩ = some (.slice A4 n4 c4) := blk_cell HB2.out rfl
  go_wp2_with fail
  clear q6
  refine (zzFits3_any (A := A4) (n := n4) (c := c4) HM.out.l4 (HM.out.ch HX2.out).r4).mono ?_
  rintro e W3 ⟨⟨r, rfl, hr4⟩, hc⟩
  have HX3 := Lib.hid (HX2.out.trans hc)
  have HB3 := Lib.hid ((hc.block B (blk_lt HB2.out) id).trans HB2.out)
  have HR4 := Lib.hid hr4
  clear hc hr4
  cases r with
  | false =>
    go_wp2
    refine bodyPost_ret (v := .bool false) (by simp [results, Tryz.results27]) rfl ?_
    exact ⟨⟨_, rfl, fun h => nomatch h⟩, HX3.out⟩
  | true =>
  have q7 : W3.cell? ⟨B, 6, none⟩ = some (.slice A5 n5 c5) := blk_cell HB3.out rfl
  go_wp2_with fail
  clear q7
  refine (zzFits4_any (A := A5) (n := n5) (c := c5) HM.out.l5 (HM.out.ch HX3.out).r5).mono ?_
  rintro e W4 ⟨⟨r, rfl, hr5⟩, hc⟩
  have HX4 := Lib.hid (HX3.out.trans hc)
  have HB4 := Lib.hid ((hc.block B (blk_lt HB3.out) id).trans HB3.out)
  have HR5 := Lib.hid hr5
  clear hc hr5
  cases r with
  | false =>
    go_wp2
    refine bodyPost_ret (v := .bool false) (by simp [results, Tryz.results27]) rfl ?_
    exact ⟨⟨_, rfl, fun h => nomatch h⟩, HX4.out⟩
  | true =>
  have q8 : W4.cell? ⟨B, 7, none⟩ = some (.slice A6 n6 c6) := blk_cell HB4.out rfl
  go_wp2_with fail
  clear q8
  refine (zzFits8_any (A := A6) (n := n6) (c := c6) HM.out.l6 (HM.out.ch HX4.out).r6).mono ?_
  rintro e W5 ⟨⟨r, rfl, hr6⟩, hc⟩
  have HX5 := Lib.hid (HX4.out.trans hc)
  have HB5 := Lib.hid ((hc.block B (blk_lt HB4.out) id).trans HB4.out)
  have HR6 := Lib.hid hr6
  clear hc hr6
  cases r with
  | false =>
    go_wp2
    refine bodyPost_ret (v := .bool false) (by simp [results, Tryz.results27]) rfl ?_
    exact ⟨⟨_, rfl, fun h => nomatch h⟩, HX5.out⟩
  | true =>
  have q9 : W5.cell? ⟨B, 8, none⟩ = some (.slice A7 n7 c7) := blk_cell HB5.out rfl
  go_wp2_with fail
  clear q9
  refine (zzFits3_any (A := A7) (n := n7) (c := c7) HM.out.l7 (HM.out.ch HX5.out).r7).mono ?_
  rintro e W6 ⟨⟨r, rfl, hr7⟩, hc⟩
  have HX6 := Lib.hid (HX5.out.trans hc)
  have HB6 := Lib.hid ((hc.block B (blk_lt HB5.out) id).trans HB5.out)
  have HR7 := Lib.hid hr7
  clear hc hr7
  cases r with
  | false =>
    go_wp2
    refine bodyPost_ret (v := .bool false) (by simp [results, Tryz.results27]) rfl ?_
    exact ⟨⟨_, rfl, fun h => nomatch h⟩, HX6.out⟩
  | true =>
  have q10 : W6.cell? ⟨B, 9, none⟩ = some (.slice A8 n8 c8) := blk_cell HB6.out rfl
  go_wp2_with fail
  clear q10
  refine (zzFits14_any (A := A8) (n := n8) (c := c8) HM.out.l8 (HM.out.ch HX6.out).r8).mono ?_
  rintro e W7 ⟨⟨r, rfl, hr8⟩, hc⟩
  have HX7 := Lib.hid (HX6.out.trans hc)
  have HB7 := Lib.hid ((hc.block B (blk_lt HB6.out) id).trans HB6.out)
  have HR8 := Lib.hid hr8
  clear hc hr8
  cases r with
  | false =>
    go_wp2
    refine bodyPost_ret (v := .bool false) (by simp [results, Tryz.results27]) rfl ?_
    exact ⟨⟨_, rfl, fun h => nomatch h⟩, HX7.out⟩
  | true =>
  go_wp2
  refine bodyPost_ret (v := .bool true) (by simp [results, Tryz.results27]) rfl ?_
  exact ⟨⟨_, rfl, fun _ => ⟨by omega, HR2.out trivial, HR3.out trivial, HR6.out trivial, HR8.out trivial⟩⟩, HX7.out⟩

set_option maxRecDepth 100000 in
set_option maxHeartbeats 1600000 in
theorem zzFits16_any {A : Option Addr} {n c : Nat} {w : World} (hn : n ≤ maxLen) (h : Els w 10 (isMedia w) A n) :
    Calls Tryz.prog 69 #[.slice A n c] w fun e w' => TellsB (n ≤ 2147483647) e ∧ Ch (fun _ => False) w w' := by
  have HE := Lib.hid h
  clear h
  unfold maxLen at hn
  go_enter Tryz.func69, Tryz.ntmps69
  by_cases hn2 : 2147483647 < n
  · go_wp2
    refine bodyPost_ret (v := .bool false) (by simp [results, Tryz.results69]) rfl ?_
    exact ⟨⟨_, rfl, fun h => nomatch h⟩, Ch.refl _ _⟩
  go_wp2
  go_loopg [4, 10] n (fun g _ x wr => ∃ j : Nat, g = n - j ∧ j ≤ n ∧ x = .int .i64 j ∧ Ch (fun _ => False) w wr)
  case atStart => exact ⟨0, rfl, Nat.zero_le _, rfl, Ch.refl _ _⟩
  case round =>
    obtain ⟨j, hg, hj, rfl, hch⟩ := hrel
    have HG := Lib.hid hg
    have HC := Lib.hid hch
    clear hg hch
    by_cases hlt : j < n
    · obtain ⟨b, o, cs, rfl, -, ⟨name, port, A1, A2, A3, A4, A5, A6, A7, A8, n1, n2, n3, n4, n5, n6, n7, n8, d1, c2, c3, c4, c5, c6, c7, c8, rfl, hm⟩, hc⟩ := ((HE.out.ch HC.out).mono fun _ h => isMedia.ch h HC.out) j hlt
      have k0 := hc 0 _ rfl
      rw [Nat.add_zero] at k0
      have k1 := hc 1 _ rfl
      rw [← Nat.add_assoc] at k1
      have k2 := hc 2 _ rfl
      rw [← Nat.add_assoc] at k2
      have k3 := hc 3 _ rfl
      rw [← Nat.add_assoc] at k3
      have k4 := hc 4 _ rfl
      rw [← Nat.add_assoc] at k4
      have k5 := hc 5 _ rfl
      rw [← Nat.add_assoc] at k5
      have k6 := hc 6 _ rfl
      rw [← Nat.add_assoc] at k6
      have k7 := hc 7 _ rfl
      rw [← Nat.add_assoc] at k7
      have k8 := hc 8 _ rfl
      rw [← Nat.add_assoc] at k8
      have k9 := hc 9 _ rfl
      rw [← Nat.add_assoc] at k9
      clear hc
      have hcx : Ch (fun _ => False) wr (wr.alloc (.cells #[.string name, .int .i64 port, .slice A1 n1 d1, .slice A2 n2 c2, .slice A3 n3 c3, .slice A4 n4 c4, .slice A5 n5 c5, .slice A6 n6 c6, .slice A7 n7 c7, .slice A8 n8 c8] 66)) := Ch.grown (World.grownBy_alloc _ _ none) (by simp)
      have HX := Lib.hid hcx
      clear hcx
      go_wp2_with fail
      refine (zzFits17_any (hm.ch HX.out)).mono ?_
      rintro e w1 ⟨⟨r, rfl, hr⟩, hc1⟩
      clear hr
      have HD := Lib.hid (HC.out.trans (HX.out.trans hc1))
      clear hc1 k0 k1 k2 k3 k4 k5 k6 k7 k8 k9
      cases r with
      | false =>
        go_wp2
        refine bodyPost_ret (v := .bool false) (by simp [results, Tryz.results69]) rfl ?_
        exact ⟨⟨_, rfl, fun h => nomatch h⟩, HD.out⟩
      | true =>
        go_wp2
        go_roundg (n - (j + 1))
        case measure => have := HG.out; omega
        case rel => exact ⟨j + 1, rfl, by omega, by simp, HD.out⟩
    · go_wp2
      refine bodyPost_ret (v := .bool true) (by simp [results, Tryz.results69]) rfl ?_
      exact ⟨⟨_, rfl, fun _ => by omega⟩, HC.out⟩

end Go.Proofs.YtimonhimfioohaaGreatDoor
