/- zzFits1: all lengths of a session are small; what it tells of the repeats and of the media. -/
import Derived.Test.YtimonhimfioohaaGreatDoorMem
namespace Go.Proofs.YtimonhimfioohaaGreatDoor
open Go.RowKit

theorem Els.snoc {w : World} {size j : Nat} {R : List Value → Prop} {A : Option Addr} (h : Els w size R A j) (hj : ∃ b o cs, A = some ⟨b, o, none⟩ ∧ cs.length = size ∧ R cs ∧ ∀ i u, cs[i]? = some u → w.cell? ⟨b, o + (j * size + i), none⟩ = some u) : Els w size R A (j + 1) := fun k hk => by
  rcases Nat.lt_or_ge k j with hlt | hge
  · exact h k hlt
  · obtain rfl : k = j := by omega
    exact hj
def isRep0 (w : World) (cs : List Value) : Prop := ∃ (i j : Int) (A : Option Addr) (n c : Nat), cs = [.int .i64 i, .int .i64 j, .slice A n c] ∧ n ≤ maxLen ∧ Els w 1 isInt A n
def isRepB (w : World) (cs : List Value) : Prop := ∃ (i j : Int) (A : Option Addr) (n c : Nat), cs = [.int .i64 i, .int .i64 j, .slice A n c] ∧ n ≤ 2147483647 ∧ Els w 1 isInt A n
def isTim0 (w : World) (cs : List Value) : Prop := ∃ (i j : Int) (A : Option Addr) (n c : Nat), cs = [.int .u64 i, .int .u64 j, .slice A n c] ∧ n ≤ maxLen ∧ Els w 3 (isRep0 w) A n
def isTimB (w : World) (cs : List Value) : Prop := ∃ (i j : Int) (A : Option Addr) (n c : Nat), cs = [.int .u64 i, .int .u64 j, .slice A n c] ∧ n ≤ 2147483647 ∧ Els w 3 (isRepB w) A n
def isMedB (w : World) (cs : List Value) : Prop := ∃ name port A1 A2 A3 A4 A5 A6 A7 A8 n1 n2 n3 n4 n5 n6 n7 n8 c1 c2 c3 c4 c5 c6 c7 c8, cs = medCells name port A1 A2 A3 A4 A5 A6 A7 A8 n1 n2 n3 n4 n5 n6 n7 n8 c1 c2 c3 c4 c5 c6 c7 c8 ∧ MedRd w A1 A2 A3 A4 A5 A6 A7 A8 n1 n2 n3 n4 n5 n6 n7 n8 ∧ n2 ≤ 2147483647 ∧ n3 ≤ 2147483647 ∧ n6 ≤ 2147483647 ∧ n8 ≤ 2147483647
/-- What a session's slices read. -/
structure SessRd (w : World) (A1 A2 A3 A4 A5 A6 A7 A8 A9 A10 A11 : Option Addr) (n1 n2 n3 n4 n5 n6 n7 n8 n9 n10 n11 : Nat) : Prop where
  l1 : n1 ≤ maxLen
  l2 : n2 ≤ maxLen
  l3 : n3 ≤ maxLen
  l4 : n4 ≤ maxLen
  l5 : n5 ≤ maxLen
  l6 : n6 ≤ maxLen
  l7 : n7 ≤ maxLen
  l8 : n8 ≤ maxLen
  l9 : n9 ≤ maxLen
  l10 : n10 ≤ maxLen
  l11 : n11 ≤ maxLen
  r1 : Els w 1 isStr A1 n1
  r2 : Els w 1 isStr A2 n2
  r3 : Els w 1 isStr A3 n3
  r4 : Els w 1 isStr A4 n4
  r5 : Els w 3 (isConn w) A5 n5
  r6 : Els w 3 isBand A6 n6
  r7 : Els w 3 (isTim0 w) A7 n7
  r8 : Els w 2 isZone A8 n8
  r9 : Els w 1 isStr A9 n9
  r10 : Els w 2 isAttr A10 n10
  r11 : Els w 10 (isMedia w) A11 n11

/-- What zzFits1 tells. -/
def SessB (w : World) (A7 A11 : Option Addr) (n6 n7 n8 n10 n11 : Nat) : Prop := n6 ≤ 2147483647 ∧ n7 ≤ 2147483647 ∧ n8 ≤ 2147483647 ∧ n10 ≤ 2147483647 ∧ n11 ≤ 2147483647 ∧ Els w 3 (isTimB w) A7 n7 ∧ Els w 10 (isMedB w) A11 n11

set_option maxRecDepth 100000 in
set_option maxHeartbeats 1600000 in
theorem fits13b {i j : Int} {A : Option Addr} {n c : Nat} {w : World} : Calls Tryz.prog 163 #[.agg #[.int .i64 i, .int .i64 j, .slice A n c]] w fun e w' => TellsB (n ≤ 2147483647) e ∧ Ch (fun _ => False) w w' := by
  have hc : Ch (fun _ => False) w (w.alloc (.cells #[.int .i64 i, .int .i64 j, .slice A n c] 201)) := Ch.grown (World.grownBy_alloc _ _ none) (by simp)
  have HC := Lib.hid hc
  clear hc
  go_enter Tryz.func163, Tryz.ntmps163
  by_cases hn2 : 2147483647 < n
  · go_wp2
    refine bodyPost_ret (v := .bool false) (by simp [results, Tryz.results163]) rfl ?_
    exact ⟨⟨_, rfl, fun h => nomatch h⟩, HC.out⟩
  · go_wp2
    refine bodyPost_ret (v := .bool true) (by simp [results, Tryz.results163]) rfl ?_
    exact ⟨⟨_, rfl, fun _ => by omega⟩, HC.out⟩

set_option maxRecDepth 100000 in
set_option maxHeartbeats 1600000 in
theorem fits12b {A : Option Addr} {n c : Nat} {w0 w : World} (hn : n ≤ maxLen) (h : Els w0 3 (isRep0 w0) A n) (hc0 : Ch (fun _ => False) w0 w) :
    Calls Tryz.prog 139 #[.slice A n c] w fun e w' => TellsB (n ≤ 2147483647 ∧ Els w0 3 (isRepB w0) A n) e ∧ Ch (fun _ => False) w w' := by
  have HE := Lib.hid h
  have HC0 := Lib.hid hc0
  clear h hc0
  unfold maxLen at hn
  go_enter Tryz.func139, Tryz.ntmps139
  by_cases hn2 : 2147483647 < n
  · go_wp2
    refine bodyPost_ret (v := .bool false) (by simp [results, Tryz.results139]) rfl ?_
    exact ⟨⟨_, rfl, fun h => nomatch h⟩, Ch.refl _ _⟩
  go_wp2
  go_loopg [4, 10] n (fun g _ x wr => ∃ j : Nat, g = n - j ∧ j ≤ n ∧ x = .int .i64 j ∧ Ch (fun _ => False) w wr ∧ Els w0 3 (isRepB w0) A j)
  case atStart => exact ⟨0, rfl, Nat.zero_le _, rfl, Ch.refl _ _, fun k hk => absurd hk (by omega)⟩
  case round =>
    obtain ⟨j, hg, hj, rfl, hch, hel⟩ := hrel
    have HG := Lib.hid hg
    have HC := Lib.hid hch
    have HB := Lib.hid hel
    clear hg hch hel
    by_cases hlt : j < n
    · obtain ⟨b, o, cs, rfl, hlen, ⟨s, t, A1, n1, c1, rfl, hl1, he1⟩, hc⟩ := HE.out j hlt
      have k0 := (HC0.out.trans HC.out).cell0 (hc 0 _ rfl)
      rw [Nat.add_zero] at k0
      have k1 := (HC0.out.trans HC.out).cell0 (hc 1 _ rfl)
      rw [← Nat.add_assoc] at k1
      have k2 := (HC0.out.trans HC.out).cell0 (hc 2 _ rfl)
      rw [← Nat.add_assoc] at k2
      have HCL := Lib.hid hc
      clear hc
      have hcx : Ch (fun _ => False) wr (wr.alloc (.cells #[.int .i64 s, .int .i64 t, .slice A1 n1 c1] 201)) := Ch.grown (World.grownBy_alloc _ _ none) (by simp)
      have HX := Lib.hid hcx
      clear hcx
      have HW := Lib.hid (HC0.out.trans (HC.out.trans HX.out))
      go_wp2_with fail
      refine (fits13b).mono ?_
      rintro e w1 ⟨⟨r, rfl, hr⟩, hc1⟩
      have HD := Lib.hid (HC.out.trans (HX.out.trans hc1))
      have HR := Lib.hid hr
      clear hc1 hr k0 k1 k2
      cases r with
      | false =>
        go_wp2
        refine bodyPost_ret (v := .bool false) (by simp [results, Tryz.results139]) rfl ?_
        exact ⟨⟨_, rfl, fun h => nomatch h⟩, HD.out⟩
      | true =>
        go_wp2
        go_roundg (n - (j + 1))
        case measure => have := HG.out; omega
        case rel =>
          have hb := HR.out trivial
          exact ⟨j + 1, rfl, by omega, by simp, HD.out, HB.out.snoc ⟨b, o, _, rfl, hlen, ⟨s, t, A1, n1, c1, rfl, hb, he1⟩, HCL.out⟩⟩
    · go_wp2
      refine bodyPost_ret (v := .bool true) (by simp [results, Tryz.results139]) rfl ?_
      obtain rfl : j = n := by omega
      exact ⟨⟨_, rfl, fun _ => ⟨by omega, HB.out⟩⟩, HC.out⟩

set_option maxRecDepth 100000 in
set_option maxHeartbeats 1600000 in
theorem fits11b {i j : Int} {A : Option Addr} {n c : Nat} {w0 w : World} (hn : n ≤ maxLen) (h : Els w0 3 (isRep0 w0) A n) (hc0 : Ch (fun _ => False) w0 w) :
    Calls Tryz.prog 111 #[.agg #[.int .u64 i, .int .u64 j, .slice A n c]] w fun e w' => TellsB (n ≤ 2147483647 ∧ Els w0 3 (isRepB w0) A n) e ∧ Ch (fun _ => False) w w' := by
  have hcx : Ch (fun _ => False) w (w.alloc (.cells #[.int .u64 i, .int .u64 j, .slice A n c] 196)) := Ch.grown (World.grownBy_alloc _ _ none) (by simp)
  have HE := Lib.hid h
  have HX := Lib.hid hcx
  have HW := Lib.hid (hc0.trans hcx)
  have HN := Lib.hid hn
  clear h hc0 hcx hn
  go_enter Tryz.func111, Tryz.ntmps111
  go_wp2_with fail
  refine (fits12b HN.out HE.out HW.out).mono ?_
  rintro e w1 ⟨⟨r, rfl, hr⟩, hc1⟩
  have HD := Lib.hid (HX.out.trans hc1)
  have HR := Lib.hid hr
  clear hr hc1
  cases r with
  | false =>
    go_wp2
    refine bodyPost_ret (v := .bool false) (by simp [results, Tryz.results111]) rfl ?_
    exact ⟨⟨_, rfl, fun h => nomatch h⟩, HD.out⟩
  | true =>
    go_wp2
    refine bodyPost_ret (v := .bool true) (by simp [results, Tryz.results111]) rfl ?_
    exact ⟨⟨_, rfl, fun _ => HR.out trivial⟩, HD.out⟩

set_option maxRecDepth 100000 in
set_option maxHeartbeats 1600000 in
theorem fits10b {A : Option Addr} {n c : Nat} {w0 w : World} (hn : n ≤ maxLen) (h : Els w0 3 (isTim0 w0) A n) (hc0 : Ch (fun _ => False) w0 w) :
    Calls Tryz.prog 68 #[.slice A n c] w fun e w' => TellsB (n ≤ 2147483647 ∧ Els w0 3 (isTimB w0) A n) e ∧ Ch (fun _ => False) w w' := by
  have HE := Lib.hid h
  have HC0 := Lib.hid hc0
  clear h hc0
  unfold maxLen at hn
  go_enter Tryz.func68, Tryz.ntmps68
  by_cases hn2 : 2147483647 < n
  · go_wp2
    refine bodyPost_ret (v := .bool false) (by simp [results, Tryz.results68]) rfl ?_
    exact ⟨⟨_, rfl, fun h => nomatch h⟩, Ch.refl _ _⟩
  go_wp2
  go_loopg [4, 10] n (fun g _ x wr => ∃ j : Nat, g = n - j ∧ j ≤ n ∧ x = .int .i64 j ∧ Ch (fun _ => False) w wr ∧ Els w0 3 (isTimB w0) A j)
  case atStart => exact ⟨0, rfl, Nat.zero_le _, rfl, Ch.refl _ _, fun k hk => absurd hk (by omega)⟩
  case round =>
    obtain ⟨j, hg, hj, rfl, hch, hel⟩ := hrel
    have HG := Lib.hid hg
    have HC := Lib.hid hch
    have HB := Lib.hid hel
    clear hg hch hel
    by_cases hlt : j < n
    · obtain ⟨b, o, cs, rfl, hlen, ⟨s, t, A1, n1, c1, rfl, hl1, he1⟩, hc⟩ := HE.out j hlt
      have k0 := (HC0.out.trans HC.out).cell0 (hc 0 _ rfl)
      rw [Nat.add_zero] at k0
      have k1 := (HC0.out.trans HC.out).cell0 (hc 1 _ rfl)
      rw [← Nat.add_assoc] at k1
      have k2 := (HC0.out.trans HC.out).cell0 (hc 2 _ rfl)
      rw [← Nat.add_assoc] at k2
      have HCL := Lib.hid hc
      clear hc
      have hcx : Ch (fun _ => False) wr (wr.alloc (.cells #[.int .u64 s, .int .u64 t, .slice A1 n1 c1] 196)) := Ch.grown (World.grownBy_alloc _ _ none) (by simp)
      have HX := Lib.hid hcx
      clear hcx
      have HW := Lib.hid (HC0.out.trans (HC.out.trans HX.out))
      go_wp2_with fail
      refine (fits11b hl1 he1 HW.out).mono ?_
      rintro e w1 ⟨⟨r, rfl, hr⟩, hc1⟩
      have HD := Lib.hid (HC.out.trans (HX.out.trans hc1))
      have HR := Lib.hid hr
      clear hc1 hr k0 k1 k2
      cases r with
      | false =>
        go_wp2
        refine bodyPost_ret (v := .bool false) (by simp [results, Tryz.results68]) rfl ?_
        exact ⟨⟨_, rfl, fun h => nomatch h⟩, HD.out⟩
      | true =>
        go_wp2
        go_roundg (n - (j + 1))
        case measure => have := HG.out; omega
        case rel =>
          have hb := HR.out trivial
          exact ⟨j + 1, rfl, by omega, by simp, HD.out, HB.out.snoc ⟨b, o, _, rfl, hlen, ⟨s, t, A1, n1, c1, rfl, hb.1, hb.2⟩, HCL.out⟩⟩
    · go_wp2
      refine bodyPost_ret (v := .bool true) (by simp [results, Tryz.results68]) rfl ?_
      obtain rfl : j = n := by omega
      exact ⟨⟨_, rfl, fun _ => ⟨by omega, HB.out⟩⟩, HC.out⟩


set_option maxRecDepth 100000 in
set_option maxHeartbeats 1600000 in
theorem fits16b {A : Option Addr} {n c : Nat} {w0 w : World} (hn : n ≤ maxLen) (h : Els w0 10 (isMedia w0) A n) (hc0 : Ch (fun _ => False) w0 w) :
    Calls Tryz.prog 69 #[.slice A n c] w fun e w' => TellsB (n ≤ 2147483647 ∧ Els w0 10 (isMedB w0) A n) e ∧ Ch (fun _ => False) w w' := by
  have HE := Lib.hid h
  have HC0 := Lib.hid hc0
  clear h hc0
  unfold maxLen at hn
  go_enter Tryz.func69, Tryz.ntmps69
  by_cases hn2 : 2147483647 < n
  · go_wp2
    refine bodyPost_ret (v := .bool false) (by simp [results, Tryz.results69]) rfl ?_
    exact ⟨⟨_, rfl, fun h => nomatch h⟩, Ch.refl _ _⟩
  go_wp2
  go_loopg [4, 10] n (fun g _ x wr => ∃ j : Nat, g = n - j ∧ j ≤ n ∧ x = .int .i64 j ∧ Ch (fun _ => False) w wr ∧ Els w0 10 (isMedB w0) A j)
  case atStart => exact ⟨0, rfl, Nat.zero_le _, rfl, Ch.refl _ _, fun k hk => absurd hk (by omega)⟩
  case round =>
    obtain ⟨j, hg, hj, rfl, hch, hel⟩ := hrel
    have HG := Lib.hid hg
    have HC := Lib.hid hch
    have HB := Lib.hid hel
    clear hg hch hel
    by_cases hlt : j < n
    · obtain ⟨b, o, cs, rfl, hlen, ⟨name, port, A1, A2, A3, A4, A5, A6, A7, A8, n1, n2, n3, n4, n5, n6, n7, n8, d1, c2, c3, c4, c5, c6, c7, c8, rfl, hm⟩, hc⟩ := HE.out j hlt
      have k0 := (HC0.out.trans HC.out).cell0 (hc 0 _ rfl)
      rw [Nat.add_zero] at k0
      have k1 := (HC0.out.trans HC.out).cell0 (hc 1 _ rfl)
      rw [← Nat.add_assoc] at k1
      have k2 := (HC0.out.trans HC.out).cell0 (hc 2 _ rfl)
      rw [← Nat.add_assoc] at k2
      have k3 := (HC0.out.trans HC.out).cell0 (hc 3 _ rfl)
      rw [← Nat.add_assoc] at k3
      have k4 := (HC0.out.trans HC.out).cell0 (hc 4 _ rfl)
      rw [← Nat.add_assoc] at k4
      have k5 := (HC0.out.trans HC.out).cell0 (hc 5 _ rfl)
      rw [← Nat.add_assoc] at k5
      have k6 := (HC0.out.trans HC.out).cell0 (hc 6 _ rfl)
      rw [← Nat.add_assoc] at k6
      have k7 := (HC0.out.trans HC.out).cell0 (hc 7 _ rfl)
      rw [← Nat.add_assoc] at k7
      have k8 := (HC0.out.trans HC.out).cell0 (hc 8 _ rfl)
      rw [← Nat.add_assoc] at k8
      have k9 := (HC0.out.trans HC.out).cell0 (hc 9 _ rfl)
      rw [← Nat.add_assoc] at k9
      have HCL := Lib.hid hc
      clear hc
      have hcx : Ch (fun _ => False) wr (wr.alloc (.cells #[.string name, .int .i64 port, .slice A1 n1 d1, .slice A2 n2 c2, .slice A3 n3 c3, .slice A4 n4 c4, .slice A5 n5 c5, .slice A6 n6 c6, .slice A7 n7 c7, .slice A8 n8 c8] 66)) := Ch.grown (World.grownBy_alloc _ _ none) (by simp)
      have HX := Lib.hid hcx
      clear hcx
      have HW := Lib.hid (HC0.out.trans (HC.out.trans HX.out))
      go_wp2_with fail
      refine (zzFits17_any (hm.ch HW.out)).mono ?_
      rintro e w1 ⟨⟨r, rfl, hr⟩, hc1⟩
      have HD := Lib.hid (HC.out.trans (HX.out.trans hc1))
      have HR := Lib.hid hr
      clear hc1 hr k0 k1 k2 k3 k4 k5 k6 k7 k8 k9
      cases r with
      | false =>
        go_wp2
        refine bodyPost_ret (v := .bool false) (by simp [results, Tryz.results69]) rfl ?_
        exact ⟨⟨_, rfl, fun h => nomatch h⟩, HD.out⟩
      | true =>
        go_wp2
        go_roundg (n - (j + 1))
        case measure => have := HG.out; omega
        case rel =>
          have hb := HR.out trivial
          exact ⟨j + 1, rfl, by omega, by simp, HD.out, HB.out.snoc ⟨b, o, _, rfl, hlen, ⟨name, port, A1, A2, A3, A4, A5, A6, A7, A8, n1, n2, n3, n4, n5, n6, n7, n8, d1, c2, c3, c4, c5, c6, c7, c8, rfl, hm, hb.2⟩, HCL.out⟩⟩
    · go_wp2
      refine bodyPost_ret (v := .bool true) (by simp [results, Tryz.results69]) rfl ?_
      obtain rfl : j = n := by omega
      exact ⟨⟨_, rfl, fun _ => ⟨by omega, HB.out⟩⟩, HC.out⟩


set_option maxRecDepth 100000 in
set_option maxHeartbeats 4000000 in
theorem zzFits1_any {ver o1 o2 : Int} {s1 s2 s3 s4 name : ByteArray} {A1 A2 A3 A4 A5 A6 A7 A8 A9 A10 A11 : Option Addr} {n1 n2 n3 n4 n5 n6 n7 n8 n9 n10 n11 c1 c2 c3 c4 c5 c6 c7 c8 c9 c10 c11 : Nat} {w0 w : World} (h : SessRd w0 A1 A2 A3 A4 A5 A6 A7 A8 A9 A10 A11 n1 n2 n3 n4 n5 n6 n7 n8 n9 n10 n11) (hc0 : Ch (fun _ => False) w0 w) :
    Calls Tryz.prog 32 #[.agg #[.int .i64 ver, .string s1, .int .u64 o1, .int .u64 o2, .string s2, .string s3, .string s4, .string name, .slice A1 n1 c1, .slice A2 n2 c2, .slice A3 n3 c3, .slice A4 n4 c4, .slice A5 n5 c5, .slice A6 n6 c6, .slice A7 n7 c7, .slice A8 n8 c8, .slice A9 n9 c9, .slice A10 n10 c10, .slice A11 n11 c11]] w fun e w' => TellsB (SessB w0 A7 A11 n6 n7 n8 n10 n11) e ∧ Ch (fun _ => False) w w' := by
  have hcx : Ch (fun _ => False) w (w.alloc (.cells #[.int .i64 ver, .string s1, .int .u64 o1, .int .u64 o2, .string s2, .string s3, .string s4, .string name, .slice A1 n1 c1, .slice A2 n2 c2, .slice A3 n3 c3, .slice A4 n4 c4, .slice A5 n5 c5, .slice A6 n6 c6, .slice A7 n7 c7, .slice A8 n8 c8, .slice A9 n9 c9, .slice A10 n10 c10, .slice A11 n11 c11] 36)) := Ch.grown (World.grownBy_alloc _ _ none) (by simp)
  have hb : (w.alloc (.cells #[.int .i64 ver, .string s1, .int .u64 o1, .int .u64 o2, .string s2, .string s3, .string s4, .string name, .slice A1 n1 c1, .slice A2 n2 c2, .slice A3 n3 c3, .slice A4 n4 c4, .slice A5 n5 c5, .slice A6 n6 c6, .slice A7 n7 c7, .slice A8 n8 c8, .slice A9 n9 c9, .slice A10 n10 c10, .slice A11 n11 c11] 36)).heap[w.heap.size]? = some (.cells #[.int .i64 ver, .string s1, .int .u64 o1, .int .u64 o2, .string s2, .string s3, .string s4, .string name, .slice A1 n1 c1, .slice A2 n2 c2, .slice A3 n3 c3, .slice A4 n4 c4, .slice A5 n5 c5, .slice A6 n6 c6, .slice A7 n7 c7, .slice A8 n8 c8, .slice A9 n9 c9, .slice A10 n10 c10, .slice A11 n11 c11] 36 (0, 0)) := heap_alloc_new w _
  have HM := Lib.hid h
  have HC0 := Lib.hid hc0
  have HX0 := Lib.hid hcx
  have HB0 := Lib.hid hb
  clear h hc0 hcx hb
  go_enter Tryz.func32, Tryz.ntmps32
  obtain ⟨B, hB⟩ : ∃ B, w.heap.size = B := ⟨_, rfl⟩
  rw [hB] at HB0
  have q1 : (w.alloc (.cells #[.int .i64 ver, .string s1, .int .u64 o1, .int .u64 o2, .string s2, .string s3, .string s4, .string name, .slice A1 n1 c1, .slice A2 n2 c2, .slice A3 n3 c3, .slice A4 n4 c4, .slice A5 n5 c5, .slice A6 n6 c6, .slice A7 n7 c7, .slice A8 n8 c8, .slice A9 n9 c9, .slice A10 n10 c10, .slice A11 n11 c11] 36)).cell? ⟨B, 1, none⟩ = some (.string s1) := blk_cell HB0.out rfl
  have q2 : (w.alloc (.cells #[.int .i64 ver, .string s1, .int .u64 o1, .int .u64 o2, .string s2, .string s3, .string s4, .string name, .slice A1 n1 c1, .slice A2 n2 c2, .slice A3 n3 c3, .slice A4 n4 c4, .slice A5 n5 c5, .slice A6 n6 c6, .slice A7 n7 c7, .slice A8 n8 c8, .slice A9 n9 c9, .slice A10 n10 c10, .slice A11 n11 c11] 36)).cell? ⟨B, 2, none⟩ = some (.int .u64 o1) := blk_cell HB0.out rfl
  have q3 : (w.alloc (.cells #[.int .i64 ver, .string s1, .int .u64 o1, .int .u64 o2, .string s2, .string s3, .string s4, .string name, .slice A1 n1 c1, .slice A2 n2 c2, .slice A3 n3 c3, .slice A4 n4 c4, .slice A5 n5 c5, .slice A6 n6 c6, .slice A7 n7 c7, .slice A8 n8 c8, .slice A9 n9 c9, .slice A10 n10 c10, .slice A11 n11 c11] 36)).cell? ⟨B, 3, none⟩ = some (.int .u64 o2) := blk_cell HB0.out rfl
  have q4 : (w.alloc (.cells #[.int .i64 ver, .string s1, .int .u64 o1, .int .u64 o2, .string s2, .string s3, .string s4, .string name, .slice A1 n1 c1, .slice A2 n2 c2, .slice A3 n3 c3, .slice A4 n4 c4, .slice A5 n5 c5, .slice A6 n6 c6, .slice A7 n7 c7, .slice A8 n8 c8, .slice A9 n9 c9, .slice A10 n10 c10, .slice A11 n11 c11] 36)).cell? ⟨B, 4, none⟩ = some (.string s2) := blk_cell HB0.out rfl
  have q5 : (w.alloc (.cells #[.int .i64 ver, .string s1, .int .u64 o1, .int .u64 o2, .string s2, .string s3, .string s4, .string name, .slice A1 n1 c1, .slice A2 n2 c2, .slice A3 n3 c3, .slice A4 n4 c4, .slice A5 n5 c5, .slice A6 n6 c6, .slice A7 n7 c7, .slice A8 n8 c8, .slice A9 n9 c9, .slice A10 n10 c10, .slice A11 n11 c11] 36)).cell? ⟨B, 5, none⟩ = some (.string s3) := blk_cell HB0.out rfl
  have q6 : (w.alloc (.cells #[.int .i64 ver, .string s1, .int .u64 o1, .int .u64 o2, .string s2, .string s3, .string s4, .string name, .slice A1 n1 c1, .slice A2 n2 c2, .slice A3 n3 c3, .slice A4 n4 c4, .slice A5 n5 c5, .slice A6 n6 c6, .slice A7 n7 c7, .slice A8 n8 c8, .slice A9 n9 c9, .slice A10 n10 c10, .slice A11 n11 c11] 36)).cell? ⟨B, 6, none⟩ = some (.string s4) := blk_cell HB0.out rfl
  go_wp2_with fail
  clear q1 q2 q3 q4 q5 q6
  generalize (w.alloc (.cells #[.int .i64 ver, .string s1, .int .u64 o1, .int .u64 o2, .string s2, .string s3, .string s4, .string name, .slice A1 n1 c1, .slice A2 n2 c2, .slice A3 n3 c3, .slice A4 n4 c4, .slice A5 n5 c5, .slice A6 n6 c6, .slice A7 n7 c7, .slice A8 n8 c8, .slice A9 n9 c9, .slice A10 n10 c10, .slice A11 n11 c11] 36)) = W0 at *
  refine zzFits_f67.mono ?_
  rintro e W1 ⟨⟨r, rfl, -⟩, hc⟩
  have HX1 := Lib.hid (HX0.out.trans hc)
  have HB1 := Lib.hid ((hc.block B (blk_lt HB0.out) id).trans HB0.out)
  clear hc
  cases r with
  | false =>
    go_wp2
    refine bodyPost_ret (v := .bool false) (by simp [results, Tryz.results32]) rfl ?_
    exact ⟨⟨_, rfl, fun h => nomatch h⟩, HX1.out⟩
  | true =>
  have q7 : W1.cell? ⟨B, 7, none⟩ = some (.string name) := blk_cell HB1.out rfl
  by_cases g0 : 2147483647 < name.size
  · go_wp2
    refine bodyPost_ret (v := .bool false) (by simp [results, Tryz.results32]) rfl ?_
    exact ⟨⟨_, rfl, fun h => nomatch h⟩, HX1.out⟩
  have q8 : W1.cell? ⟨B, 8, none⟩ = some (.slice A1 n1 c1) := blk_cell HB1.out rfl
  go_wp2_with fail
  clear q7
  clear q8
  refine (zzFits3_any (A := A1) (n := n1) (c := c1) HM.out.l1 (HM.out.r1.ch (HC0.out.trans HX1.out))).mono ?_
  rintro e W2 ⟨⟨r, rfl, hr1⟩, hc⟩
  have HX2 := Lib.hid (HX1.out.trans hc)
  have HB2 := Lib.hid ((hc.block B (blk_lt HB1.out) id).trans HB1.out)
  have HR1 := Lib.hid hr1
  clear hc hr1
  cases r with
  | false =>
    go_wp2
    refine bodyPost_ret (v := .bool false) (by simp [results, Tryz.results32]) rfl ?_
    exact ⟨⟨_, rfl, fun h => nomatch h⟩, HX2.out⟩
  | true =>
  have q9 : W2.cell? ⟨B, 9, none⟩ = some (.slice A2 n2 c2) := blk_cell HB2.out rfl
  go_wp2_with fail
  clear q9
  refine (zzFits3_any (A := A2) (n := n2) (c := c2) HM.out.l2 (HM.out.r2.ch (HC0.out.trans HX2.out))).mono ?_
  rintro e W3 ⟨⟨r, rfl, hr2⟩, hc⟩
  have HX3 := Lib.hid (HX2.out.trans hc)
  have HB3 := Lib.hid ((hc.block B (blk_lt HB2.out) id).trans HB2.out)
  have HR2 := Lib.hid hr2
  clear hc hr2
  cases r with
  | false =>
    go_wp2
    refine bodyPost_ret (v := .bool false) (by simp [results, Tryz.results32]) rfl ?_
    exact ⟨⟨_, rfl, fun h => nomatch h⟩, HX3.out⟩
  | true =>
  have q10 : W3.cell? ⟨B, 10, none⟩ = some (.slice A3 n3 c3) := blk_cell HB3.out rfl
  go_wp2_with fail
  clear q10
  refine (zzFits3_any (A := A3) (n := n3) (c := c3) HM.out.l3 (HM.out.r3.ch (HC0.out.trans HX3.out))).mono ?_
  rintro e W4 ⟨⟨r, rfl, hr3⟩, hc⟩
  have HX4 := Lib.hid (HX3.out.trans hc)
  have HB4 := Lib.hid ((hc.block B (blk_lt HB3.out) id).trans HB3.out)
  have HR3 := Lib.hid hr3
  clear hc hr3
  cases r with
  | false =>
    go_wp2
    refine bodyPost_ret (v := .bool false) (by simp [results, Tryz.results32]) rfl ?_
    exact ⟨⟨_, rfl, fun h => nomatch h⟩, HX4.out⟩
  | true =>
  have q11 : W4.cell? ⟨B, 11, none⟩ = some (.slice A4 n4 c4) := blk_cell HB4.out rfl
  go_wp2_with fail
  clear q11
  refine (zzFits3_any (A := A4) (n := n4) (c := c4) HM.out.l4 (HM.out.r4.ch (HC0.out.trans HX4.out))).mono ?_
  rintro e W5 ⟨⟨r, rfl, hr4⟩, hc⟩
  have HX5 := Lib.hid (HX4.out.trans hc)
  have HB5 := Lib.hid ((hc.block B (blk_lt HB4.out) id).trans HB4.out)
  have HR4 := Lib.hid hr4
  clear hc hr4
  cases r with
  | false =>
    go_wp2
    refine bodyPost_ret (v := .bool false) (by simp [results, Tryz.results32]) rfl ?_
    exact ⟨⟨_, rfl, fun h => nomatch h⟩, HX5.out⟩
  | true =>
  have q12 : W5.cell? ⟨B, 12, none⟩ = some (.slice A5 n5 c5) := blk_cell HB5.out rfl
  go_wp2_with fail
  clear q12
  refine (zzFits4_any (A := A5) (n := n5) (c := c5) HM.out.l5 ((HM.out.r5.ch (HC0.out.trans HX5.out)).mono fun _ k => isConn.ch k (HC0.out.trans HX5.out))).mono ?_
  rintro e W6 ⟨⟨r, rfl, hr5⟩, hc⟩
  have HX6 := Lib.hid (HX5.out.trans hc)
  have HB6 := Lib.hid ((hc.block B (blk_lt HB5.out) id).trans HB5.out)
  have HR5 := Lib.hid hr5
  clear hc hr5
  cases r with
  | false =>
    go_wp2
    refine bodyPost_ret (v := .bool false) (by simp [results, Tryz.results32]) rfl ?_
    exact ⟨⟨_, rfl, fun h => nomatch h⟩, HX6.out⟩
  | true =>
  have q13 : W6.cell? ⟨B, 13, none⟩ = some (.slice A6 n6 c6) := blk_cell HB6.out rfl
  go_wp2_with fail
  clear q13
  refine (zzFits8_any (A := A6) (n := n6) (c := c6) HM.out.l6 (HM.out.r6.ch (HC0.out.trans HX6.out))).mono ?_
  rintro e W7 ⟨⟨r, rfl, hr6⟩, hc⟩
  have HX7 := Lib.hid (HX6.out.trans hc)
  have HB7 := Lib.hid ((hc.block B (blk_lt HB6.out) id).trans HB6.out)
  have HR6 := Lib.hid hr6
  clear hc hr6
  cases r with
  | false =>
    go_wp2
    refine bodyPost_ret (v := .bool false) (by simp [results, Tryz.results32]) rfl ?_
    exact ⟨⟨_, rfl, fun h => nomatch h⟩, HX7.out⟩
  | true =>
  have q14 : W7.cell? ⟨B, 14, none⟩ = some (.slice A7 n7 c7) := blk_cell HB7.out rfl
  go_wp2_with fail
  clear q14
  refine (fits10b (A := A7) (n := n7) (c := c7) HM.out.l7 HM.out.r7 (HC0.out.trans HX7.out)).mono ?_
  rintro e W8 ⟨⟨r, rfl, hr7⟩, hc⟩
  have HX8 := Lib.hid (HX7.out.trans hc)
  have HB8 := Lib.hid ((hc.block B (blk_lt HB7.out) id).trans HB7.out)
  have HR7 := Lib.hid hr7
  clear hc hr7
  cases r with
  | false =>
    go_wp2
    refine bodyPost_ret (v := .bool false) (by simp [results, Tryz.results32]) rfl ?_
    exact ⟨⟨_, rfl, fun h => nomatch h⟩, HX8.out⟩
  | true =>
  have q15 : W8.cell? ⟨B, 15, none⟩ = some (.slice A8 n8 c8) := blk_cell HB8.out rfl
  by_cases g8 : 2147483647 < n8
  · go_wp2
    refine bodyPost_ret (v := .bool false) (by simp [results, Tryz.results32]) rfl ?_
    exact ⟨⟨_, rfl, fun h => nomatch h⟩, HX8.out⟩
  have q16 : W8.cell? ⟨B, 16, none⟩ = some (.slice A9 n9 c9) := blk_cell HB8.out rfl
  go_wp2_with fail
  clear q16 q15
  refine (zzFits3_any (A := A9) (n := n9) (c := c9) HM.out.l9 (HM.out.r9.ch (HC0.out.trans HX8.out))).mono ?_
  rintro e W9 ⟨⟨r, rfl, hr9⟩, hc⟩
  have HX9 := Lib.hid (HX8.out.trans hc)
  have HB9 := Lib.hid ((hc.block B (blk_lt HB8.out) id).trans HB8.out)
  have HR9 := Lib.hid hr9
  clear hc hr9
  cases r with
  | false =>
    go_wp2
    refine bodyPost_ret (v := .bool false) (by simp [results, Tryz.results32]) rfl ?_
    exact ⟨⟨_, rfl, fun h => nomatch h⟩, HX9.out⟩
  | true =>
  have q17 : W9.cell? ⟨B, 17, none⟩ = some (.slice A10 n10 c10) := blk_cell HB9.out rfl
  go_wp2_with fail
  clear q17
  refine (zzFits14_any (A := A10) (n := n10) (c := c10) HM.out.l10 (HM.out.r10.ch (HC0.out.trans HX9.out))).mono ?_
  rintro e W10 ⟨⟨r, rfl, hr10⟩, hc⟩
  have HX10 := Lib.hid (HX9.out.trans hc)
  have HB10 := Lib.hid ((hc.block B (blk_lt HB9.out) id).trans HB9.out)
  have HR10 := Lib.hid hr10
  clear hc hr10
  cases r with
  | false =>
    go_wp2
    refine bodyPost_ret (v := .bool false) (by simp [results, Tryz.results32]) rfl ?_
    exact ⟨⟨_, rfl, fun h => nomatch h⟩, HX10.out⟩
  | true =>
  have q18 : W10.cell? ⟨B, 18, none⟩ = some (.slice A11 n11 c11) := blk_cell HB10.out rfl
  go_wp2_with fail
  clear q18
  refine (fits16b (A := A11) (n := n11) (c := c11) HM.out.l11 HM.out.r11 (HC0.out.trans HX10.out)).mono ?_
  rintro e W11 ⟨⟨r, rfl, hr11⟩, hc⟩
  have HX11 := Lib.hid (HX10.out.trans hc)
  have HB11 := Lib.hid ((hc.block B (blk_lt HB10.out) id).trans HB10.out)
  have HR11 := Lib.hid hr11
  clear hc hr11
  cases r with
  | false =>
    go_wp2
    refine bodyPost_ret (v := .bool false) (by simp [results, Tryz.results32]) rfl ?_
    exact ⟨⟨_, rfl, fun h => nomatch h⟩, HX11.out⟩
  | true =>
  go_wp2
  refine bodyPost_ret (v := .bool true) (by simp [results, Tryz.results32]) rfl ?_
  exact ⟨⟨_, rfl, fun _ => ⟨HR6.out trivial, (HR7.out trivial).1, by omega, HR10.out trivial, (HR11.out trivial).1, (HR7.out trivial).2, (HR11.out trivial).2⟩⟩, HX11.out⟩

end Go.Proofs.YtimonhimfioohaaGreatDoor
