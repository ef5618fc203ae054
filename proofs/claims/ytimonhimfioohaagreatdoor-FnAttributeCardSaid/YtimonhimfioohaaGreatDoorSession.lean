/- A session becomes a description of the package. -/
import Derived.Test.YtimonhimfioohaaGreatDoorMem2
import Derived.Test.YtimonhimfioohaaGreatDoorMedia
import Derived.Test.YtimonhimfioohaaGreatDoorSource
import Derived.Test.YtimonhimfioohaaGreatDoorAppReg
namespace Go.Proofs.YtimonhimfioohaaGreatDoor
open Go.RowKit

theorem isRep0.ch {w w' : World} {cs : List Value} (h : isRep0 w cs) (hc : Ch (fun _ => False) w w') : isRep0 w' cs := by
  obtain ⟨s, t, A, n, c, h1, h2, h3⟩ := h
  exact ⟨s, t, A, n, c, h1, h2, h3.ch hc⟩
theorem isTim0.ch {w w' : World} {cs : List Value} (h : isTim0 w cs) (hc : Ch (fun _ => False) w w') : isTim0 w' cs := by
  obtain ⟨s, t, A, n, c, h1, h2, h3⟩ := h
  exact ⟨s, t, A, n, c, h1, h2, (h3.ch hc).mono fun _ k => k.ch hc⟩
theorem SessRd.ch {w w' : World} {A1 A2 A3 A4 A5 A6 A7 A8 A9 A10 A11 : Option Addr} {n1 n2 n3 n4 n5 n6 n7 n8 n9 n10 n11 : Nat} (h : SessRd w A1 A2 A3 A4 A5 A6 A7 A8 A9 A10 A11 n1 n2 n3 n4 n5 n6 n7 n8 n9 n10 n11) (hc : Ch (fun _ => False) w w') : SessRd w' A1 A2 A3 A4 A5 A6 A7 A8 A9 A10 A11 n1 n2 n3 n4 n5 n6 n7 n8 n9 n10 n11 :=
  ⟨h.l1, h.l2, h.l3, h.l4, h.l5, h.l6, h.l7, h.l8, h.l9, h.l10, h.l11, h.r1.ch hc, h.r2.ch hc, h.r3.ch hc, h.r4.ch hc, (h.r5.ch hc).mono fun _ k => k.ch hc, h.r6.ch hc, (h.r7.ch hc).mono fun _ k => k.ch hc, h.r8.ch hc, h.r9.ch hc, h.r10.ch hc, (h.r11.ch hc).mono fun _ k => k.ch hc⟩
/-- What the media read. -/
def MedsRd (w : World) (A : Option Addr) (lm : List (List (ByteArray × ByteArray))) : Prop :=
  ∀ k la, lm[k]? = some la → ∃ b o name port A1 A2 A3 A4 A5 A6 A7 A8 n1 n2 n3 n4 n5 n6 n7 c1 c2 c3 c4 c5 c6 c7 c8, A = some ⟨b, o, none⟩ ∧ MedRd w A1 A2 A3 A4 A5 A6 A7 A8 n1 n2 n3 n4 n5 n6 n7 la.length ∧ n2 ≤ 2147483647 ∧ n3 ≤ 2147483647 ∧ n6 ≤ 2147483647 ∧ la.length ≤ 2147483647 ∧ Lst w 2 attrC A8 la ∧
    ∀ j u, (medCells name port A1 A2 A3 A4 A5 A6 A7 A8 n1 n2 n3 n4 n5 n6 n7 la.length c1 c2 c3 c4 c5 c6 c7 c8)[j]? = some u → w.cell? ⟨b, o + (k * 10 + j), none⟩ = some u
/-- A medium of the package with these attributes. -/
def MedAt (w : World) (b : Nat) (la : List (ByteArray × ByteArray)) : Prop :=
  ∃ (cs : Array Value) (S : Option Addr) (c : Nat), w.heap[b]? = some (.cells cs 226 (0, 0)) ∧ cs[9]? = some (.slice S la.length c) ∧ w.ownsRow 0 240 2 (.slice S la.length c) la.length (la.flatMap attrC)
/-- What session answers. -/
def SessDesc (la : List (ByteArray × ByteArray)) (lm : List (List (ByteArray × ByteArray))) (w : World) (e : Ending) (w' : World) : Prop :=
  ∃ (D : Nat) (cs : Array Value) (SA : Option Addr) (ca : Nat) (SM : Value) (ms : List Nat), e = .returned (.pointer (some ⟨D, 0, none⟩)) ∧ w'.heap[D]? = some (.cells cs 108 (0, 0)) ∧ cs[17]? = some (.slice SA la.length ca) ∧ cs[18]? = some SM ∧
    w'.ownsRow 0 240 2 (.slice SA la.length ca) la.length (la.flatMap attrC) ∧ w'.ownsRow 0 145 1 SM lm.length (ms.map fun M => Value.pointer (some ⟨M, 0, none⟩)) ∧ ms.length = lm.length ∧ (∀ (k M : Nat) (l : List (ByteArray × ByteArray)), ms[k]? = some M → lm[k]? = some l → MedAt w' M l) ∧ Ch (fun _ => False) w w'
def sesT (B : Nat) (ver o1 o2 : Int) (s1 s2 s3 s4 name : ByteArray) (A1 A2 A3 A4 A5 A6 A9 A10 : Option Addr) (n1 n2 n3 n4 n5 n9 c1 c2 c3 c4 c5 c6 c9 c10 : Nat) (lb : List (Bool × ByteArray × Int)) (la : List (ByteArray × ByteArray)) (d : Nat) (v : Value) (W : World) : Prop :=
  match d with
  | 13 => v = .pointer (some ⟨B, 0, none⟩)
  | 14 => v = .int .i64 ver
  | 15 => v = .pointer (some ⟨B, 1, none⟩)
  | 16 => v = .pointer (some ⟨B, 1, none⟩)
  | 17 => v = .string s1
  | 18 => v = .pointer (some ⟨B, 1, none⟩)
  | 19 => v = .pointer (some ⟨B, 2, none⟩)
  | 20 => v = .int .u64 o1
  | 21 => v = .pointer (some ⟨B, 1, none⟩)
  | 22 => v = .pointer (some ⟨B, 3, none⟩)
  | 23 => v = .int .u64 o2
  | 24 => v = .pointer (some ⟨B, 1, none⟩)
  | 25 => v = .pointer (some ⟨B, 4, none⟩)
  | 26 => v = .string s2
  | 27 => v = .pointer (some ⟨B, 1, none⟩)
  | 28 => v = .pointer (some ⟨B, 5, none⟩)
  | 29 => v = .string s3
  | 30 => v = .pointer (some ⟨B, 1, none⟩)
  | 31 => v = .pointer (some ⟨B, 6, none⟩)
  | 32 => v = .string s4
  | 33 => v = .agg #[.string s1, .int .u64 o1, .int .u64 o2, .string s2, .string s3, .string s4]
  | 34 => v = .pointer (some ⟨B, 7, none⟩)
  | 35 => v = .string name
  | 36 => v = .pointer (some ⟨B, 8, none⟩)
  | 37 => v = .slice A1 n1 c1
  | 38 => ∃ (p : Option Addr), v = .pointer p
  | 39 => v = .pointer (some ⟨B, 9, none⟩)
  | 40 => v = .slice A2 n2 c2
  | 41 => ∃ (p : Option Addr), v = .pointer p
  | 42 => v = .pointer (some ⟨B, 10, none⟩)
  | 43 => v = .slice A3 n3 c3
  | 44 => ∃ (p : Option Addr), v = .pointer p
  | 45 => v = .pointer (some ⟨B, 11, none⟩)
  | 46 => v = .slice A4 n4 c4
  | 47 => ∃ (p : Option Addr), v = .pointer p
  | 48 => v = .pointer (some ⟨B, 12, none⟩)
  | 49 => v = .slice A5 n5 c5
  | 50 => ∃ (p : Option Addr), v = .pointer p
  | 51 => v = .pointer (some ⟨B, 13, none⟩)
  | 52 => v = .slice A6 lb.length c6
  | 53 => ∃ (S : Option Addr) (n : Nat) (c : Nat), v = .slice S n c
  | 54 => v = .pointer (some ⟨B, 16, none⟩)
  | 55 => v = .slice A9 n9 c9
  | 56 => ∃ (p : Option Addr), v = .pointer p
  | 57 => v = .pointer (some ⟨B, 17, none⟩)
  | 58 => v = .slice A10 la.length c10
  | 59 => ∃ (SA : Option Addr) (ca : Nat), v = .slice SA la.length ca ∧ W.ownsRow 0 240 2 (.slice SA la.length ca) la.length (la.flatMap attrC)
  | 60 => ∃ (q1 : Option Addr) (q2 : Option Addr) (q3 : Option Addr) (q4 : Option Addr) (q5 : Option Addr) (S : Option Addr) (n : Nat) (c : Nat) (q6 : Option Addr) (SA : Option Addr) (ca : Nat), v = .agg #[.int .i64 ver, .string s1, .int .u64 o1, .int .u64 o2, .string s2, .string s3, .string s4, .string name, .pointer q1, .pointer q2, .pointer q3, .pointer q4, .pointer q5, .slice S n c, .slice none 0 0, .slice none 0 0, .pointer q6, .slice SA la.length ca, .slice none 0 0] ∧ W.ownsRow 0 240 2 (.slice SA la.length ca) la.length (la.flatMap attrC)
  | 61 => ∃ (k : Nat) (q1 : Option Addr) (q2 : Option Addr) (q3 : Option Addr) (q4 : Option Addr) (q5 : Option Addr) (S : Option Addr) (n : Nat) (c : Nat) (q6 : Option Addr) (SA : Option Addr) (ca : Nat), v = .pointer (some ⟨k, 0, none⟩) ∧ B ≤ k ∧ W.heap[k]? = some (.cells #[.int .i64 ver, .string s1, .int .u64 o1, .int .u64 o2, .string s2, .string s3, .string s4, .string name, .pointer q1, .pointer q2, .pointer q3, .pointer q4, .pointer q5, .slice S n c, .slice none 0 0, .slice none 0 0, .pointer q6, .slice SA la.length ca, .slice none 0 0] 108 (0, 0)) ∧ W.ownsRow 0 240 2 (.slice SA la.length ca) la.length (la.flatMap attrC)
  | _ => True

theorem sesT_stays {B : Nat} {ver o1 o2 : Int} {s1 s2 s3 s4 name : ByteArray} {A1 A2 A3 A4 A5 A6 A9 A10 : Option Addr} {n1 n2 n3 n4 n5 n9 c1 c2 c3 c4 c5 c6 c9 c10 : Nat} {lb : List (Bool × ByteArray × Int)} {la : List (ByteArray × ByteArray)} {d : Nat} {v : Value} {W W' : World} (h : sesT B ver o1 o2 s1 s2 s3 s4 name A1 A2 A3 A4 A5 A6 A9 A10 n1 n2 n3 n4 n5 n9 c1 c2 c3 c4 c5 c6 c9 c10 lb la d v W) (hc : Ch (fun _ => False) W W') : sesT B ver o1 o2 s1 s2 s3 s4 name A1 A2 A3 A4 A5 A6 A9 A10 n1 n2 n3 n4 n5 n9 c1 c2 c3 c4 c5 c6 c9 c10 lb la d v W' := by
  unfold sesT at h ⊢
  split at h
  · exact h
  · exact h
  · exact h
  · exact h
  · exact h
  · exact h
  · exact h
  · exact h
  · exact h
  · exact h
  · exact h
  · exact h
  · exact h
  · exact h
  · exact h
  · exact h
  · exact h
  · exact h
  · exact h
  · exact h
  · exact h
  · exact h
  · exact h
  · exact h
  · exact h
  · obtain ⟨p, eq_⟩ := h
    exact ⟨p, eq_⟩
  · exact h
  · exact h
  · obtain ⟨p, eq_⟩ := h
    exact ⟨p, eq_⟩
  · exact h
  · exact h
  · obtain ⟨p, eq_⟩ := h
    exact ⟨p, eq_⟩
  · exact h
  · exact h
  · obtain ⟨p, eq_⟩ := h
    exact ⟨p, eq_⟩
  · exact h
  · exact h
  · obtain ⟨p, eq_⟩ := h
    exact ⟨p, eq_⟩
  · exact h
  · exact h
  · obtain ⟨S, n, c, eq_⟩ := h
    exact ⟨S, n, c, eq_⟩
  · exact h
  · exact h
  · obtain ⟨p, eq_⟩ := h
    exact ⟨p, eq_⟩
  · exact h
  · exact h
  · obtain ⟨SA, ca, eq_, p0⟩ := h
    exact ⟨SA, ca, eq_, own_ch p0 hc⟩
  · obtain ⟨q1, q2, q3, q4, q5, S, n, c, q6, SA, ca, eq_, p0⟩ := h
    exact ⟨q1, q2, q3, q4, q5, S, n, c, q6, SA, ca, eq_, own_ch p0 hc⟩
  · obtain ⟨k, q1, q2, q3, q4, q5, S, n, c, q6, SA, ca, eq_, p0, p1, p2⟩ := h
    exact ⟨k, q1, q2, q3, q4, q5, S, n, c, q6, SA, ca, eq_, p0, (hc.block _ (blk_lt p1) id).trans p1, own_ch p2 hc⟩
  · trivial

set_option maxRecDepth 100000 in
theorem ses_frame (x0 x1 x2 x3 x4 x5 x6 x7 x8 x9 x10 x11 x12 x13 x14 x15 x16 x17 x18 x19 x20 x21 x22 x23 x24 x25 x26 x27 x28 x29 x30 x31 x32 x33 x34 x35 x36 x37 x38 x39 x40 x41 x42 x43 x44 x45 x46 x47 x48 x49 x50 x51 x52 x53 x54 x55 x56 x57 x58 x59 x60 x61 x62 x63 x64 x65 x66 x67 x68 x69 x70 x71 x72 x73 x74 x75 x76 x77 x78 x79 x80 x81 x82 x83 x84 x85 x86 x87 x88 x89 x90 x91 x92 x93 x94 x95 x96 x97 x98 x99 x100 x101 x102 x103 x104 x105 x106 x107 x108 x109 x110 x111 x112 x113 x114 x115 x116 x117 x118 x119 x120 x121 x122 x123 x124 x125 x126 x127 x128 x129 x130 x131 x132 x133 x134 x135 x136 x137 x138 x139 x140 x141 x142 x143 x144 x145 x146 x147 x148 : Value) (d : List Deferred) (u : Nat → Value) : frameOf ⟨#[x0, x1, x2, x3, x4, x5, x6, x7, x8, x9, x10, x11, x12, x13, x14, x15, x16, x17, x18, x19, x20, x21, x22, x23, x24, x25, x26, x27, x28, x29, x30, x31, x32, x33, x34, x35, x36, x37, x38, x39, x40, x41, x42, x43, x44, x45, x46, x47, x48, x49, x50, x51, x52, x53, x54, x55, x56, x57, x58, x59, x60, x61, x62, x63, x64, x65, x66, x67, x68, x69, x70, x71, x72, x73, x74, x75, x76, x77, x78, x79, x80, x81, x82, x83, x84, x85, x86, x87, x88, x89, x90, x91, x92, x93, x94, x95, x96, x97, x98, x99, x100, x101, x102, x103, x104, x105, x106, x107, x108, x109, x110, x111, x112, x113, x114, x115, x116, x117, x118, x119, x120, x121, x122, x123, x124, x125, x126, x127, x128, x129, x130, x131, x132, x133, x134, x135, x136, x137, x138, x139, x140, x141, x142, x143, x144, x145, x146, x147, x148], d⟩ [13, 14, 15, 16, 17, 18, 19, 20, 21, 22, 23, 24, 25, 26, 27, 28, 29, 30, 31, 32, 33, 34, 35, 36, 37, 38, 39, 40, 41, 42, 43, 44, 45, 46, 47, 48, 49, 50, 51, 52, 53, 54, 55, 56, 57, 58, 59, 60, 61] u = ⟨#[x0, x1, x2, x3, x4, x5, x6, x7, x8, x9, x10, x11, x12, u 13, u 14, u 15, u 16, u 17, u 18, u 19, u 20, u 21, u 22, u 23, u 24, u 25, u 26, u 27, u 28, u 29, u 30, u 31, u 32, u 33, u 34, u 35, u 36, u 37, u 38, u 39, u 40, u 41, u 42, u 43, u 44, u 45, u 46, u 47, u 48, u 49, u 50, u 51, u 52, u 53, u 54, u 55, u 56, u 57, u 58, u 59, u 60, u 61, x62, x63, x64, x65, x66, x67, x68, x69, x70, x71, x72, x73, x74, x75, x76, x77, x78, x79, x80, x81, x82, x83, x84, x85, x86, x87, x88, x89, x90, x91, x92, x93, x94, x95, x96, x97, x98, x99, x100, x101, x102, x103, x104, x105, x106, x107, x108, x109, x110, x111, x112, x113, x114, x115, x116, x117, x118, x119, x120, x121, x122, x123, x124, x125, x126, x127, x128, x129, x130, x131, x132, x133, x134, x135, x136, x137, x138, x139, x140, x141, x142, x143, x144, x145, x146, x147, x148], d⟩ := by kernel_rfl


theorem ne_of_type {w : World} {a b t1 t2 : Nat} {c1 c2 : Array Value} {f1 f2 : Nat × Nat} (h1 : w.heap[a]? = some (.cells c1 t1 f1)) (h2 : w.heap[b]? = some (.cells c2 t2 f2)) (h : t1 ≠ t2) : a ≠ b := fun e => by
  subst e
  rw [h1] at h2
  injection h2 with h2
  injection h2 with _ ht
  exact h ht
theorem set_ne {cs : Array Value} {i j : Nat} {v : Value} (h : i ≠ j) : (cs.setIfInBounds i v)[j]? = cs[j]? := by
  rw [Array.getElem?_setIfInBounds]
  simp [h]
theorem set_eq {cs : Array Value} {i : Nat} {v : Value} (h : i < cs.size) : (cs.setIfInBounds i v)[i]? = some v := Array.getElem?_setIfInBounds_self_of_lt h
theorem info199_c : (Tryz.prog.info? 199).map (fun i => (i.zero, i.size, i.bytes)) = some (some (.agg #[.int .i64 0, .int .i64 0, .slice none 0 0]), 3, 40) := by kernel_rfl
theorem info193_c : (Tryz.prog.info? 193).map (fun i => (i.zero, i.size, i.bytes)) = some (some (.agg #[.int .u64 0, .int .u64 0, .slice none 0 0]), 3, 40) := by kernel_rfl
theorem info203_c : (Tryz.prog.info? 203).map (fun i => (i.zero, i.size, i.bytes)) = some (some (.agg #[.int .u64 0, .int .i64 0]), 2, 16) := by kernel_rfl
theorem info145_c : (Tryz.prog.info? 145).map (fun i => (i.zero, i.size, i.bytes)) = some (some (.pointer none), 1, 8) := by kernel_rfl
theorem MedAt.ch {w w' : World} {b : Nat} {la : List (ByteArray × ByteArray)} (h : MedAt w b la) (hc : Ch (fun _ => False) w w') : MedAt w' b la := by
  obtain ⟨cs, S, c, h1, h2, h3⟩ := h
  exact ⟨cs, S, c, (hc.block b (blk_lt h1) id).trans h1, h2, own_ch h3 hc⟩
theorem MedAt.app {w w' : World} {b L e size n : Nat} {v : Value} {xs : List Value} {la : List (ByteArray × ByteArray)} (h : MedAt w b la) (ho : w.ownsRow L e size v n xs) (hc : Ch (fun j => v.ownBlock = some j) w w') (h1 : 226 ≠ e) (h2 : 240 ≠ e) : MedAt w' b la := by
  obtain ⟨cs, S, c, g1, g2, g3⟩ := h
  refine ⟨cs, S, c, (hc.block b (blk_lt g1) (own_not ho g1 h1)).trans g1, g2, owns_same g3 fun j hj => ?_⟩
  have hjl := (g3.lt j hj).2
  refine hc.block j hjl (fun hv => ?_)
  rcases ho.2 with ⟨rfl, _⟩ | ⟨g, cap, cur, rfl, _, hg, _⟩
  · cases hv
  · obtain rfl : g = j := by simpa [Value.ownBlock] using hv
    exact h2 (own_type g3 hj hg).symm
theorem MedAt.set {w : World} {b D t : Nat} {cs : Array Value} {fr : Nat × Nat} {la : List (ByteArray × ByteArray)} (h : MedAt w b la) (hD : w.heap[D]? = some (.cells cs t fr)) (h1 : 226 ≠ t) (h2 : 240 ≠ t) (k : Nat) (v : Value) : MedAt (w.setCell ⟨D, k, none⟩ v) b la := by
  obtain ⟨cs', S, c, g1, g2, g3⟩ := h
  exact ⟨cs', S, c, (blk_set_other v (ne_of_type hD g1 (Ne.symm h1))).trans g1, g2, owns_same g3 fun j hj => blk_set_other v (fun e => by
    subst e
    exact h2 (own_type g3 hj hD).symm)⟩
theorem MedOwn.at {L b : Nat} {name : ByteArray} {port : Int} {lp lf : List ByteArray} {lb : List (Bool × ByteArray × Int)} {la : List (ByteArray × ByteArray)} {w : World} (h : MedOwn L b name port lp lf lb la w) : MedAt w b la := by
  obtain ⟨p, SA, c, SB, d, q, r, SC, m, t, SD, f, _, hblk, _, _, _, _, _, _, _, h8, _⟩ := h
  exact ⟨_, SD, f, hblk, rfl, owns_low h8 (Nat.zero_le _)⟩
def repT (T6 T8 : Nat) (r1 r2 : Int) (A2 : Option Addr) (m2 c2 : Nat) (L n : Nat) (v : Value) (xs : List Value) (f : Nat → Bool) (d : Nat) (v' : Value) (W : World) : Prop :=
  match d with
  | 82 => v' = .pointer (some ⟨T6, 2, none⟩)
  | 83 => f 11 = true ∨ (v' = v ∧ W.ownsRow L 199 3 v n xs)
  | 84 => v' = .pointer (some ⟨T8, 0, none⟩)
  | 85 => v' = .int .i64 r1
  | 86 => v' = .pointer (some ⟨T8, 1, none⟩)
  | 87 => v' = .int .i64 r2
  | 88 => v' = .pointer (some ⟨T8, 2, none⟩)
  | 89 => v' = .slice A2 m2 c2
  | 90 => ∃ (S : Option Addr) (m : Nat) (c : Nat), v' = .slice S m c
  | 91 => ∃ (S : Option Addr) (m : Nat) (c : Nat), v' = .agg #[.int .i64 r1, .int .i64 r2, .slice S m c]
  | 92 => f 11 = true ∨ ∃ (k : Nat) (S : Option Addr) (m : Nat) (c : Nat), v' = .slice (some ⟨k, 0, none⟩) 1 1 ∧ W.heap[k]? = some (.cells #[.int .i64 r1, .int .i64 r2, .slice S m c] 199 (0, 0))
  | 93 => f 11 = true ∧ (∃ (S : Option Addr) (m : Nat) (c : Nat), W.ownsRow L 199 3 v' (n + 1) (xs ++ [.int .i64 r1, .int .i64 r2, .slice S m c]))
  | 94 => v' = .pointer (some ⟨T6, 2, none⟩)
  | _ => True
theorem rep_stay {T6 T8 : Nat} {r1 r2 : Int} {A2 : Option Addr} {m2 c2 : Nat} {L n : Nat} {v : Value} {xs : List Value} {f : Nat → Bool} {i d : Nat} {x : Value} {W W' : World} (hc : Ch (fun _ => False) W W') (h : repT T6 T8 r1 r2 A2 m2 c2 L n v xs f d x W) : repT T6 T8 r1 r2 A2 m2 c2 L n v xs (upd f i) d x W' := by
  unfold repT at h ⊢
  split at h
  · exact h
  · exact h.elim (fun h => .inl (by unfold upd; split <;> first | rfl | exact h)) (fun h => .inr ⟨h.1, own_ch h.2 hc⟩)
  · exact h
  · exact h
  · exact h
  · exact h
  · exact h
  · exact h
  · exact h
  · exact h
  · rcases h with h | ⟨k, S, m, c, e, hk⟩
    · exact .inl (by unfold upd; split <;> first | rfl | exact h)
    · exact .inr ⟨k, S, m, c, e, (hc.block _ (blk_lt hk) id).trans hk⟩
  · obtain ⟨h, S, m, c, ho⟩ := h
    exact ⟨(by unfold upd; split <;> first | rfl | exact h), S, m, c, own_ch ho hc⟩
  · exact h
  · trivial
theorem rep_stayA {T6 T8 : Nat} {r1 r2 : Int} {A2 : Option Addr} {m2 c2 : Nat} {L n : Nat} {v : Value} {xs : List Value} {f : Nat → Bool} {d : Nat} {x : Value} {W W' : World} (hd : d ≠ 93) (_hQ : W.ownsRow L 199 3 v n xs) (_hc : Ch (fun j => v.ownBlock = some j) W W') (h : repT T6 T8 r1 r2 A2 m2 c2 L n v xs f d x W) : repT T6 T8 r1 r2 A2 m2 c2 L n v xs (upd f 11) d x W' := by
  unfold repT at h ⊢
  split at h
  · exact h
  · exact .inl (by simp [upd])
  · exact h
  · exact h
  · exact h
  · exact h
  · exact h
  · exact h
  · exact h
  · exact h
  · exact .inl (by simp [upd])
  · exact absurd rfl hd
  · exact h
  · trivial
set_option maxRecDepth 100000 in
theorem rep_frame (x0 x1 x2 x3 x4 x5 x6 x7 x8 x9 x10 x11 x12 x13 x14 x15 x16 x17 x18 x19 x20 x21 x22 x23 x24 x25 x26 x27 x28 x29 x30 x31 x32 x33 x34 x35 x36 x37 x38 x39 x40 x41 x42 x43 x44 x45 x46 x47 x48 x49 x50 x51 x52 x53 x54 x55 x56 x57 x58 x59 x60 x61 x62 x63 x64 x65 x66 x67 x68 x69 x70 x71 x72 x73 x74 x75 x76 x77 x78 x79 x80 x81 x82 x83 x84 x85 x86 x87 x88 x89 x90 x91 x92 x93 x94 x95 x96 x97 x98 x99 x100 x101 x102 x103 x104 x105 x106 x107 x108 x109 x110 x111 x112 x113 x114 x115 x116 x117 x118 x119 x120 x121 x122 x123 x124 x125 x126 x127 x128 x129 x130 x131 x132 x133 x134 x135 x136 x137 x138 x139 x140 x141 x142 x143 x144 x145 x146 x147 x148 : Value) (d : List Deferred) (u : Nat → Value) : frameOf ⟨#[x0, x1, x2, x3, x4, x5, x6, x7, x8, x9, x10, x11, x12, x13, x14, x15, x16, x17, x18, x19, x20, x21, x22, x23, x24, x25, x26, x27, x28, x29, x30, x31, x32, x33, x34, x35, x36, x37, x38, x39, x40, x41, x42, x43, x44, x45, x46, x47, x48, x49, x50, x51, x52, x53, x54, x55, x56, x57, x58, x59, x60, x61, x62, x63, x64, x65, x66, x67, x68, x69, x70, x71, x72, x73, x74, x75, x76, x77, x78, x79, x80, x81, x82, x83, x84, x85, x86, x87, x88, x89, x90, x91, x92, x93, x94, x95, x96, x97, x98, x99, x100, x101, x102, x103, x104, x105, x106, x107, x108, x109, x110, x111, x112, x113, x114, x115, x116, x117, x118, x119, x120, x121, x122, x123, x124, x125, x126, x127, x128, x129, x130, x131, x132, x133, x134, x135, x136, x137, x138, x139, x140, x141, x142, x143, x144, x145, x146, x147, x148], d⟩ [82, 83, 84, 85, 86, 87, 88, 89, 90, 91, 92, 93, 94] u = ⟨#[x0, x1, x2, x3, x4, x5, x6, x7, x8, x9, x10, x11, x12, x13, x14, x15, x16, x17, x18, x19, x20, x21, x22, x23, x24, x25, x26, x27, x28, x29, x30, x31, x32, x33, x34, x35, x36, x37, x38, x39, x40, x41, x42, x43, x44, x45, x46, x47, x48, x49, x50, x51, x52, x53, x54, x55, x56, x57, x58, x59, x60, x61, x62, x63, x64, x65, x66, x67, x68, x69, x70, x71, x72, x73, x74, x75, x76, x77, x78, x79, x80, x81, u 82, u 83, u 84, u 85, u 86, u 87, u 88, u 89, u 90, u 91, u 92, u 93, u 94, x95, x96, x97, x98, x99, x100, x101, x102, x103, x104, x105, x106, x107, x108, x109, x110, x111, x112, x113, x114, x115, x116, x117, x118, x119, x120, x121, x122, x123, x124, x125, x126, x127, x128, x129, x130, x131, x132, x133, x134, x135, x136, x137, x138, x139, x140, x141, x142, x143, x144, x145, x146, x147, x148], d⟩ := by kernel_rfl
def timT (D : Nat) (i1 i2 : Int) (v2 : Value) (L n : Nat) (v : Value) (xs : List Value) (f : Nat → Bool) (d : Nat) (v' : Value) (W : World) : Prop :=
  match d with
  | 96 => v' = .pointer (some ⟨D, 0, none⟩)
  | 97 => v' = .pointer (some ⟨D, 0, none⟩)
  | 98 => v' = .pointer (some ⟨D, 0, none⟩)
  | 99 => v' = .pointer (some ⟨D, 14, none⟩)
  | 100 => f 7 = true ∨ (v' = v ∧ W.ownsRow L 193 3 v n xs)
  | 101 => v' = .agg #[.int .u64 i1, .int .u64 i2, v2]
  | 102 => f 7 = true ∨ ∃ (k : Nat) , v' = .slice (some ⟨k, 0, none⟩) 1 1 ∧ W.heap[k]? = some (.cells #[.int .u64 i1, .int .u64 i2, v2] 193 (0, 0))
  | 103 => f 7 = true ∧ (W.ownsRow L 193 3 v' (n + 1) (xs ++ [.int .u64 i1, .int .u64 i2, v2]))
  | 104 => v' = .pointer (some ⟨D, 0, none⟩)
  | 105 => v' = .pointer (some ⟨D, 14, none⟩)
  | _ => True
theorem tim_stay {D : Nat} {i1 i2 : Int} {v2 : Value} {L n : Nat} {v : Value} {xs : List Value} {f : Nat → Bool} {i d : Nat} {x : Value} {W W' : World} (hc : Ch (fun _ => False) W W') (h : timT D i1 i2 v2 L n v xs f d x W) : timT D i1 i2 v2 L n v xs (upd f i) d x W' := by
  unfold timT at h ⊢
  split at h
  · exact h
  · exact h
  · exact h
  · exact h
  · exact h.elim (fun h => .inl (by unfold upd; split <;> first | rfl | exact h)) (fun h => .inr ⟨h.1, own_ch h.2 hc⟩)
  · exact h
  · rcases h with h | ⟨k, e, hk⟩
    · exact .inl (by unfold upd; split <;> first | rfl | exact h)
    · exact .inr ⟨k, e, (hc.block _ (blk_lt hk) id).trans hk⟩
  · obtain ⟨h, ho⟩ := h
    exact ⟨(by unfold upd; split <;> first | rfl | exact h), own_ch ho hc⟩
  · exact h
  · exact h
  · trivial
theorem tim_stayA {D : Nat} {i1 i2 : Int} {v2 : Value} {L n : Nat} {v : Value} {xs : List Value} {f : Nat → Bool} {d : Nat} {x : Value} {W W' : World} (hd : d ≠ 103) (_hQ : W.ownsRow L 193 3 v n xs) (_hc : Ch (fun j => v.ownBlock = some j) W W') (h : timT D i1 i2 v2 L n v xs f d x W) : timT D i1 i2 v2 L n v xs (upd f 7) d x W' := by
  unfold timT at h ⊢
  split at h
  · exact h
  · exact h
  · exact h
  · exact h
  · exact .inl (by simp [upd])
  · exact h
  · exact .inl (by simp [upd])
  · exact absurd rfl hd
  · exact h
  · exact h
  · trivial
set_option maxRecDepth 100000 in
theorem tim_frame (x0 x1 x2 x3 x4 x5 x6 x7 x8 x9 x10 x11 x12 x13 x14 x15 x16 x17 x18 x19 x20 x21 x22 x23 x24 x25 x26 x27 x28 x29 x30 x31 x32 x33 x34 x35 x36 x37 x38 x39 x40 x41 x42 x43 x44 x45 x46 x47 x48 x49 x50 x51 x52 x53 x54 x55 x56 x57 x58 x59 x60 x61 x62 x63 x64 x65 x66 x67 x68 x69 x70 x71 x72 x73 x74 x75 x76 x77 x78 x79 x80 x81 x82 x83 x84 x85 x86 x87 x88 x89 x90 x91 x92 x93 x94 x95 x96 x97 x98 x99 x100 x101 x102 x103 x104 x105 x106 x107 x108 x109 x110 x111 x112 x113 x114 x115 x116 x117 x118 x119 x120 x121 x122 x123 x124 x125 x126 x127 x128 x129 x130 x131 x132 x133 x134 x135 x136 x137 x138 x139 x140 x141 x142 x143 x144 x145 x146 x147 x148 : Value) (d : List Deferred) (u : Nat → Value) : frameOf ⟨#[x0, x1, x2, x3, x4, x5, x6, x7, x8, x9, x10, x11, x12, x13, x14, x15, x16, x17, x18, x19, x20, x21, x22, x23, x24, x25, x26, x27, x28, x29, x30, x31, x32, x33, x34, x35, x36, x37, x38, x39, x40, x41, x42, x43, x44, x45, x46, x47, x48, x49, x50, x51, x52, x53, x54, x55, x56, x57, x58, x59, x60, x61, x62, x63, x64, x65, x66, x67, x68, x69, x70, x71, x72, x73, x74, x75, x76, x77, x78, x79, x80, x81, x82, x83, x84, x85, x86, x87, x88, x89, x90, x91, x92, x93, x94, x95, x96, x97, x98, x99, x100, x101, x102, x103, x104, x105, x106, x107, x108, x109, x110, x111, x112, x113, x114, x115, x116, x117, x118, x119, x120, x121, x122, x123, x124, x125, x126, x127, x128, x129, x130, x131, x132, x133, x134, x135, x136, x137, x138, x139, x140, x141, x142, x143, x144, x145, x146, x147, x148], d⟩ [96, 97, 98, 99, 100, 101, 102, 103, 104, 105] u = ⟨#[x0, x1, x2, x3, x4, x5, x6, x7, x8, x9, x10, x11, x12, x13, x14, x15, x16, x17, x18, x19, x20, x21, x22, x23, x24, x25, x26, x27, x28, x29, x30, x31, x32, x33, x34, x35, x36, x37, x38, x39, x40, x41, x42, x43, x44, x45, x46, x47, x48, x49, x50, x51, x52, x53, x54, x55, x56, x57, x58, x59, x60, x61, x62, x63, x64, x65, x66, x67, x68, x69, x70, x71, x72, x73, x74, x75, x76, x77, x78, x79, x80, x81, x82, x83, x84, x85, x86, x87, x88, x89, x90, x91, x92, x93, x94, x95, u 96, u 97, u 98, u 99, u 100, u 101, u 102, u 103, u 104, u 105, x106, x107, x108, x109, x110, x111, x112, x113, x114, x115, x116, x117, x118, x119, x120, x121, x122, x123, x124, x125, x126, x127, x128, x129, x130, x131, x132, x133, x134, x135, x136, x137, x138, x139, x140, x141, x142, x143, x144, x145, x146, x147, x148], d⟩ := by kernel_rfl
def zonT (D T10 : Nat) (i1 i2 : Int) (L n : Nat) (v : Value) (xs : List Value) (f : Nat → Bool) (d : Nat) (v' : Value) (W : World) : Prop :=
  match d with
  | 114 => v' = .pointer (some ⟨D, 0, none⟩)
  | 115 => v' = .pointer (some ⟨D, 0, none⟩)
  | 116 => v' = .pointer (some ⟨D, 0, none⟩)
  | 117 => v' = .pointer (some ⟨D, 15, none⟩)
  | 118 => f 11 = true ∨ (v' = v ∧ W.ownsRow L 203 2 v n xs)
  | 119 => v' = .pointer (some ⟨T10, 0, none⟩)
  | 120 => v' = .int .u64 i1
  | 121 => v' = .pointer (some ⟨T10, 1, none⟩)
  | 122 => v' = .int .i64 i2
  | 123 => v' = .agg #[.int .u64 i1, .int .i64 i2]
  | 124 => f 11 = true ∨ ∃ (k : Nat) , v' = .slice (some ⟨k, 0, none⟩) 1 1 ∧ W.heap[k]? = some (.cells #[.int .u64 i1, .int .i64 i2] 203 (0, 0))
  | 125 => f 11 = true ∧ (W.ownsRow L 203 2 v' (n + 1) (xs ++ [.int .u64 i1, .int .i64 i2]))
  | 126 => v' = .pointer (some ⟨D, 0, none⟩)
  | 127 => v' = .pointer (some ⟨D, 15, none⟩)
  | _ => True
theorem zon_stay {D T10 : Nat} {i1 i2 : Int} {L n : Nat} {v : Value} {xs : List Value} {f : Nat → Bool} {i d : Nat} {x : Value} {W W' : World} (hc : Ch (fun _ => False) W W') (h : zonT D T10 i1 i2 L n v xs f d x W) : zonT D T10 i1 i2 L n v xs (upd f i) d x W' := by
  unfold zonT at h ⊢
  split at h
  · exact h
  · exact h
  · exact h
  · exact h
  · exact h.elim (fun h => .inl (by unfold upd; split <;> first | rfl | exact h)) (fun h => .inr ⟨h.1, own_ch h.2 hc⟩)
  · exact h
  · exact h
  · exact h
  · exact h
  · exact h
  · rcases h with h | ⟨k, e, hk⟩
    · exact .inl (by unfold upd; split <;> first | rfl | exact h)
    · exact .inr ⟨k, e, (hc.block _ (blk_lt hk) id).trans hk⟩
  · obtain ⟨h, ho⟩ := h
    exact ⟨(by unfold upd; split <;> first | rfl | exact h), own_ch ho hc⟩
  · exact h
  · exact h
  · trivial
theorem zon_stayA {D T10 : Nat} {i1 i2 : Int} {L n : Nat} {v : Value} {xs : List Value} {f : Nat → Bool} {d : Nat} {x : Value} {W W' : World} (hd : d ≠ 125) (_hQ : W.ownsRow L 203 2 v n xs) (_hc : Ch (fun j => v.ownBlock = some j) W W') (h : zonT D T10 i1 i2 L n v xs f d x W) : zonT D T10 i1 i2 L n v xs (upd f 11) d x W' := by
  unfold zonT at h ⊢
  split at h
  · exact h
  · exact h
  · exact h
  · exact h
  · exact .inl (by simp [upd])
  · exact h
  · exact h
  · exact h
  · exact h
  · exact h
  · exact .inl (by simp [upd])
  · exact absurd rfl hd
  · exact h
  · exact h
  · trivial
set_option maxRecDepth 100000 in
theorem zon_frame (x0 x1 x2 x3 x4 x5 x6 x7 x8 x9 x10 x11 x12 x13 x14 x15 x16 x17 x18 x19 x20 x21 x22 x23 x24 x25 x26 x27 x28 x29 x30 x31 x32 x33 x34 x35 x36 x37 x38 x39 x40 x41 x42 x43 x44 x45 x46 x47 x48 x49 x50 x51 x52 x53 x54 x55 x56 x57 x58 x59 x60 x61 x62 x63 x64 x65 x66 x67 x68 x69 x70 x71 x72 x73 x74 x75 x76 x77 x78 x79 x80 x81 x82 x83 x84 x85 x86 x87 x88 x89 x90 x91 x92 x93 x94 x95 x96 x97 x98 x99 x100 x101 x102 x103 x104 x105 x106 x107 x108 x109 x110 x111 x112 x113 x114 x115 x116 x117 x118 x119 x120 x121 x122 x123 x124 x125 x126 x127 x128 x129 x130 x131 x132 x133 x134 x135 x136 x137 x138 x139 x140 x141 x142 x143 x144 x145 x146 x147 x148 : Value) (d : List Deferred) (u : Nat → Value) : frameOf ⟨#[x0, x1, x2, x3, x4, x5, x6, x7, x8, x9, x10, x11, x12, x13, x14, x15, x16, x17, x18, x19, x20, x21, x22, x23, x24, x25, x26, x27, x28, x29, x30, x31, x32, x33, x34, x35, x36, x37, x38, x39, x40, x41, x42, x43, x44, x45, x46, x47, x48, x49, x50, x51, x52, x53, x54, x55, x56, x57, x58, x59, x60, x61, x62, x63, x64, x65, x66, x67, x68, x69, x70, x71, x72, x73, x74, x75, x76, x77, x78, x79, x80, x81, x82, x83, x84, x85, x86, x87, x88, x89, x90, x91, x92, x93, x94, x95, x96, x97, x98, x99, x100, x101, x102, x103, x104, x105, x106, x107, x108, x109, x110, x111, x112, x113, x114, x115, x116, x117, x118, x119, x120, x121, x122, x123, x124, x125, x126, x127, x128, x129, x130, x131, x132, x133, x134, x135, x136, x137, x138, x139, x140, x141, x142, x143, x144, x145, x146, x147, x148], d⟩ [114, 115, 116, 117, 118, 119, 120, 121, 122, 123, 124, 125, 126, 127] u = ⟨#[x0, x1, x2, x3, x4, x5, x6, x7, x8, x9, x10, x11, x12, x13, x14, x15, x16, x17, x18, x19, x20, x21, x22, x23, x24, x25, x26, x27, x28, x29, x30, x31, x32, x33, x34, x35, x36, x37, x38, x39, x40, x41, x42, x43, x44, x45, x46, x47, x48, x49, x50, x51, x52, x53, x54, x55, x56, x57, x58, x59, x60, x61, x62, x63, x64, x65, x66, x67, x68, x69, x70, x71, x72, x73, x74, x75, x76, x77, x78, x79, x80, x81, x82, x83, x84, x85, x86, x87, x88, x89, x90, x91, x92, x93, x94, x95, x96, x97, x98, x99, x100, x101, x102, x103, x104, x105, x106, x107, x108, x109, x110, x111, x112, x113, u 114, u 115, u 116, u 117, u 118, u 119, u 120, u 121, u 122, u 123, u 124, u 125, u 126, u 127, x128, x129, x130, x131, x132, x133, x134, x135, x136, x137, x138, x139, x140, x141, x142, x143, x144, x145, x146, x147, x148], d⟩ := by kernel_rfl
def mdpT (D : Nat) (mname : ByteArray) (port : Int) (M1 M2 M3 M4 M5 M6 M7 M8 : Option Addr) (n1' n4' n5' n7' d1 d2 d3 d4 d5 d6 d7 d8 : Nat) (lp lf : List ByteArray) (lbm : List (Bool × ByteArray × Int)) (lam : List (ByteArray × ByteArray)) (L n : Nat) (v : Value) (xs : List Value) (f : Nat → Bool) (d : Nat) (v' : Value) (W : World) : Prop :=
  match d with
  | 136 => v' = .pointer (some ⟨D, 0, none⟩)
  | 137 => v' = .pointer (some ⟨D, 0, none⟩)
  | 138 => v' = .pointer (some ⟨D, 0, none⟩)
  | 139 => v' = .pointer (some ⟨D, 18, none⟩)
  | 140 => f 8 = true ∨ (v' = v ∧ W.ownsRow L 145 1 v n xs)
  | 141 => v' = .agg #[.string mname, .int .i64 port, .slice M1 n1' d1, .slice M2 lp.length d2, .slice M3 lf.length d3, .slice M4 n4' d4, .slice M5 n5' d5, .slice M6 lbm.length d6, .slice M7 n7' d7, .slice M8 lam.length d8]
  | 142 => ∃ (b : Nat), v' = .pointer (some ⟨b, 0, none⟩) ∧ MedAt W b lam
  | 143 => f 8 = true ∨ ∃ (k : Nat) (b : Nat), v' = .slice (some ⟨k, 0, none⟩) 1 1 ∧ MedAt W b lam ∧ W.heap[k]? = some (.cells #[.pointer (some ⟨b, 0, none⟩)] 145 (0, 0))
  | 144 => f 8 = true ∧ (∃ (b : Nat), MedAt W b lam ∧ W.ownsRow L 145 1 v' (n + 1) (xs ++ [.pointer (some ⟨b, 0, none⟩)]))
  | 145 => v' = .pointer (some ⟨D, 0, none⟩)
  | 146 => v' = .pointer (some ⟨D, 18, none⟩)
  | _ => True
theorem mdp_stay {D : Nat} {mname : ByteArray} {port : Int} {M1 M2 M3 M4 M5 M6 M7 M8 : Option Addr} {n1' n4' n5' n7' d1 d2 d3 d4 d5 d6 d7 d8 : Nat} {lp lf : List ByteArray} {lbm : List (Bool × ByteArray × Int)} {lam : List (ByteArray × ByteArray)} {L n : Nat} {v : Value} {xs : List Value} {f : Nat → Bool} {i d : Nat} {x : Value} {W W' : World} (hc : Ch (fun _ => False) W W') (h : mdpT D mname port M1 M2 M3 M4 M5 M6 M7 M8 n1' n4' n5' n7' d1 d2 d3 d4 d5 d6 d7 d8 lp lf lbm lam L n v xs f d x W) : mdpT D mname port M1 M2 M3 M4 M5 M6 M7 M8 n1' n4' n5' n7' d1 d2 d3 d4 d5 d6 d7 d8 lp lf lbm lam L n v xs (upd f i) d x W' := by
  unfold mdpT at h ⊢
  split at h
  · exact h
  · exact h
  · exact h
  · exact h
  · exact h.elim (fun h => .inl (by unfold upd; split <;> first | rfl | exact h)) (fun h => .inr ⟨h.1, own_ch h.2 hc⟩)
  · exact h
  · obtain ⟨b, eq_, g0⟩ := h
    exact ⟨b, eq_, g0.ch hc⟩
  · rcases h with h | ⟨k, b, e, h0, hk⟩
    · exact .inl (by unfold upd; split <;> first | rfl | exact h)
    · exact .inr ⟨k, b, e, h0.ch hc, (hc.block _ (blk_lt hk) id).trans hk⟩
  · obtain ⟨h, b, h0, ho⟩ := h
    exact ⟨(by unfold upd; split <;> first | rfl | exact h), b, h0.ch hc, own_ch ho hc⟩
  · exact h
  · exact h
  · trivial
theorem mdp_stayA {D : Nat} {mname : ByteArray} {port : Int} {M1 M2 M3 M4 M5 M6 M7 M8 : Option Addr} {n1' n4' n5' n7' d1 d2 d3 d4 d5 d6 d7 d8 : Nat} {lp lf : List ByteArray} {lbm : List (Bool × ByteArray × Int)} {lam : List (ByteArray × ByteArray)} {L n : Nat} {v : Value} {xs : List Value} {f : Nat → Bool} {d : Nat} {x : Value} {W W' : World} (hd : d ≠ 144) (hQ : W.ownsRow L 145 1 v n xs) (hc : Ch (fun j => v.ownBlock = some j) W W') (h : mdpT D mname port M1 M2 M3 M4 M5 M6 M7 M8 n1' n4' n5' n7' d1 d2 d3 d4 d5 d6 d7 d8 lp lf lbm lam L n v xs f d x W) : mdpT D mname port M1 M2 M3 M4 M5 M6 M7 M8 n1' n4' n5' n7' d1 d2 d3 d4 d5 d6 d7 d8 lp lf lbm lam L n v xs (upd f 8) d x W' := by
  unfold mdpT at h ⊢
  split at h
  · exact h
  · exact h
  · exact h
  · exact h
  · exact .inl (by simp [upd])
  · exact h
  · obtain ⟨b, eq_, g0⟩ := h
    exact ⟨b, eq_, g0.app hQ hc (by decide) (by decide)⟩
  · exact .inl (by simp [upd])
  · exact absurd rfl hd
  · exact h
  · exact h
  · trivial
set_option maxRecDepth 100000 in
theorem mdp_frame (x0 x1 x2 x3 x4 x5 x6 x7 x8 x9 x10 x11 x12 x13 x14 x15 x16 x17 x18 x19 x20 x21 x22 x23 x24 x25 x26 x27 x28 x29 x30 x31 x32 x33 x34 x35 x36 x37 x38 x39 x40 x41 x42 x43 x44 x45 x46 x47 x48 x49 x50 x51 x52 x53 x54 x55 x56 x57 x58 x59 x60 x61 x62 x63 x64 x65 x66 x67 x68 x69 x70 x71 x72 x73 x74 x75 x76 x77 x78 x79 x80 x81 x82 x83 x84 x85 x86 x87 x88 x89 x90 x91 x92 x93 x94 x95 x96 x97 x98 x99 x100 x101 x102 x103 x104 x105 x106 x107 x108 x109 x110 x111 x112 x113 x114 x115 x116 x117 x118 x119 x120 x121 x122 x123 x124 x125 x126 x127 x128 x129 x130 x131 x132 x133 x134 x135 x136 x137 x138 x139 x140 x141 x142 x143 x144 x145 x146 x147 x148 : Value) (d : List Deferred) (u : Nat → Value) : frameOf ⟨#[x0, x1, x2, x3, x4, x5, x6, x7, x8, x9, x10, x11, x12, x13, x14, x15, x16, x17, x18, x19, x20, x21, x22, x23, x24, x25, x26, x27, x28, x29, x30, x31, x32, x33, x34, x35, x36, x37, x38, x39, x40, x41, x42, x43, x44, x45, x46, x47, x48, x49, x50, x51, x52, x53, x54, x55, x56, x57, x58, x59, x60, x61, x62, x63, x64, x65, x66, x67, x68, x69, x70, x71, x72, x73, x74, x75, x76, x77, x78, x79, x80, x81, x82, x83, x84, x85, x86, x87, x88, x89, x90, x91, x92, x93, x94, x95, x96, x97, x98, x99, x100, x101, x102, x103, x104, x105, x106, x107, x108, x109, x110, x111, x112, x113, x114, x115, x116, x117, x118, x119, x120, x121, x122, x123, x124, x125, x126, x127, x128, x129, x130, x131, x132, x133, x134, x135, x136, x137, x138, x139, x140, x141, x142, x143, x144, x145, x146, x147, x148], d⟩ [136, 137, 138, 139, 140, 141, 142, 143, 144, 145, 146] u = ⟨#[x0, x1, x2, x3, x4, x5, x6, x7, x8, x9, x10, x11, x12, x13, x14, x15, x16, x17, x18, x19, x20, x21, x22, x23, x24, x25, x26, x27, x28, x29, x30, x31, x32, x33, x34, x35, x36, x37, x38, x39, x40, x41, x42, x43, x44, x45, x46, x47, x48, x49, x50, x51, x52, x53, x54, x55, x56, x57, x58, x59, x60, x61, x62, x63, x64, x65, x66, x67, x68, x69, x70, x71, x72, x73, x74, x75, x76, x77, x78, x79, x80, x81, x82, x83, x84, x85, x86, x87, x88, x89, x90, x91, x92, x93, x94, x95, x96, x97, x98, x99, x100, x101, x102, x103, x104, x105, x106, x107, x108, x109, x110, x111, x112, x113, x114, x115, x116, x117, x118, x119, x120, x121, x122, x123, x124, x125, x126, x127, x128, x129, x130, x131, x132, x133, x134, x135, u 136, u 137, u 138, u 139, u 140, u 141, u 142, u 143, u 144, u 145, u 146, x147, x148], d⟩ := by kernel_rfl

set_option maxRecDepth 100000 in
set_option maxHeartbeats 8000000 in
theorem session_any {ver o1 o2 : Int} {s1 s2 s3 s4 name : ByteArray} {A1 A2 A3 A4 A5 A6 A7 A8 A9 A10 A11 : Option Addr} {n1 n2 n3 n4 n5 n7 n8 n9 c1 c2 c3 c4 c5 c6 c7 c8 c9 c10 c11 : Nat} {lb : List (Bool × ByteArray × Int)} {la : List (ByteArray × ByteArray)} {lm : List (List (ByteArray × ByteArray))} {w : World} (h : SessRd w A1 A2 A3 A4 A5 A6 A7 A8 A9 A10 A11 n1 n2 n3 n4 n5 lb.length n7 n8 n9 la.length lm.length) (hb : SessB w A7 A11 lb.length n7 n8 la.length lm.length) (hl6 : Lst w 3 bandC A6 lb) (hl10 : Lst w 2 attrC A10 la) (hmd : MedsRd w A11 lm) :
    Calls Tryz.prog 70 #[.agg #[.int .i64 ver, .string s1, .int .u64 o1, .int .u64 o2, .string s2, .string s3, .string s4, .string name, .slice A1 n1 c1, .slice A2 n2 c2, .slice A3 n3 c3, .slice A4 n4 c4, .slice A5 n5 c5, .slice A6 lb.length c6, .slice A7 n7 c7, .slice A8 n8 c8, .slice A9 n9 c9, .slice A10 la.length c10, .slice A11 lm.length c11]] w (SessDesc la lm w) := by
  have hcx : Ch (fun _ => False) w (w.alloc (.cells #[.int .i64 ver, .string s1, .int .u64 o1, .int .u64 o2, .string s2, .string s3, .string s4, .string name, .slice A1 n1 c1, .slice A2 n2 c2, .slice A3 n3 c3, .slice A4 n4 c4, .slice A5 n5 c5, .slice A6 lb.length c6, .slice A7 n7 c7, .slice A8 n8 c8, .slice A9 n9 c9, .slice A10 la.length c10, .slice A11 lm.length c11] 36)) := Ch.grown (World.grownBy_alloc _ _ none) (by simp)
  have hb0 : (w.alloc (.cells #[.int .i64 ver, .string s1, .int .u64 o1, .int .u64 o2, .string s2, .string s3, .string s4, .string name, .slice A1 n1 c1, .slice A2 n2 c2, .slice A3 n3 c3, .slice A4 n4 c4, .slice A5 n5 c5, .slice A6 lb.length c6, .slice A7 n7 c7, .slice A8 n8 c8, .slice A9 n9 c9, .slice A10 la.length c10, .slice A11 lm.length c11] 36)).heap[w.heap.size]? = some (.cells #[.int .i64 ver, .string s1, .int .u64 o1, .int .u64 o2, .string s2, .string s3, .string s4, .string name, .slice A1 n1 c1, .slice A2 n2 c2, .slice A3 n3 c3, .slice A4 n4 c4, .slice A5 n5 c5, .slice A6 lb.length c6, .slice A7 n7 c7, .slice A8 n8 c8, .slice A9 n9 c9, .slice A10 la.length c10, .slice A11 lm.length c11] 36 (0, 0)) := heap_alloc_new w _
  obtain ⟨hlb, hn7, hn8, hla, hlm, hti, _⟩ := hb
  have HM := Lib.hid h
  have HL6 := Lib.hid hl6
  have HL10 := Lib.hid hl10
  have HMD := Lib.hid hmd
  have HTI := Lib.hid hti
  have HX0 := Lib.hid hcx
  have HB0 := Lib.hid hb0
  clear h hl6 hl10 hmd hti hcx hb0
  go_enter Tryz.func70, Tryz.ntmps70
  obtain ⟨B, hB⟩ : ∃ B, w.heap.size = B := ⟨_, rfl⟩
  rw [hB] at HB0
  have HBS := Lib.hid hB
  go_upto_region 1 with fail
  clear hB
  generalize (w.alloc (.cells #[.int .i64 ver, .string s1, .int .u64 o1, .int .u64 o2, .string s2, .string s3, .string s4, .string name, .slice A1 n1 c1, .slice A2 n2 c2, .slice A3 n3 c3, .slice A4 n4 c4, .slice A5 n5 c5, .slice A6 lb.length c6, .slice A7 n7 c7, .slice A8 n8 c8, .slice A9 n9 c9, .slice A10 la.length c10, .slice A11 lm.length c11] 36)) = W0 at *
  refine wp_region_ops (by kernel_rfl) [13, 14, 15, 16, 17, 18, 19, 20, 21, 22, 23, 24, 25, 26, 27, 28, 29, 30, 31, 32, 33, 34, 35, 36, 37, 38, 39, 40, 41, 42, 43, 44, 45, 46, 47, 48, 49, 50, 51, 52, 53, 54, 55, 56, 57, 58, 59, 60, 61] 49 (by kernel_rfl) (by kernel_rfl) (by kernel_rfl) (sesT B ver o1 o2 s1 s2 s3 s4 name A1 A2 A3 A4 A5 A6 A9 A10 n1 n2 n3 n4 n5 n9 c1 c2 c3 c4 c5 c6 c9 c10 lb la) (Ch (fun _ => False)) (Ch.refl _) (fun _ _ _ => Ch.trans) (fun _ _ _ _ => sesT_stays) ?_ ?_
  · intro i oo hi ho A W' hR hr hx K hK
    have hR0 := (Ch.of_heap (Ch.refl _ W0) (w' := W0.drew) rfl rfl rfl rfl).trans hR
    have hB : W'.heap[B]? = some (.cells #[.int .i64 ver, .string s1, .int .u64 o1, .int .u64 o2, .string s2, .string s3, .string s4, .string name, .slice A1 n1 c1, .slice A2 n2 c2, .slice A3 n3 c3, .slice A4 n4 c4, .slice A5 n5 c5, .slice A6 lb.length c6, .slice A7 n7 c7, .slice A8 n8 c8, .slice A9 n9 c9, .slice A10 la.length c10, .slice A11 lm.length c11] 36 (0, 0)) := (hR0.block B (blk_lt HB0.out) id).trans HB0.out
    have hRw := HX0.out.trans hR0
    have hm := SessRd.ch HM.out hRw
    have hl6 := HL6.out.ch hRw
    have hl10 := HL10.out.ch hRw
    have hLW : B ≤ W'.heap.size := by rw [← HBS.out]; exact hRw.size
    clear hR hR0 hRw
    exact match i, hi, ho with
      | 0, _, ho => by
        obtain rfl := Option.some.inj ho
        have e1 : A.tmps[1]?.getD undef = .pointer (some ⟨B, 0, none⟩) := (eval_getD A 1).symm.trans (hx 1 (by decide))
        unfold Oper.wp execOp
        go_simp
        exact hK _ _ (fun d hd => by cases hd; exact rfl) (Ch.refl _ _)
      | 1, _, ho => by
        obtain rfl := Option.some.inj ho
        have e13 : A.tmps[13]?.getD undef = .pointer (some ⟨B, 0, none⟩) := (eval_getD A 13).symm.trans (hr 13 (by decide) (by decide))
        have l0 : W'.cell? ⟨B, 0, none⟩ = some (.int .i64 ver) := blk_cell hB rfl
        unfold Oper.wp execOp
        go_simp
        exact hK _ _ (fun d hd => by cases hd; exact rfl) (Ch.refl _ _)
      | 2, _, ho => by
        obtain rfl := Option.some.inj ho
        have e1 : A.tmps[1]?.getD undef = .pointer (some ⟨B, 0, none⟩) := (eval_getD A 1).symm.trans (hx 1 (by decide))
        unfold Oper.wp execOp
        go_simp
        exact hK _ _ (fun d hd => by cases hd; exact rfl) (Ch.refl _ _)
      | 3, _, ho => by
        obtain rfl := Option.some.inj ho
        have e15 : A.tmps[15]?.getD undef = .pointer (some ⟨B, 1, none⟩) := (eval_getD A 15).symm.trans (hr 15 (by decide) (by decide))
        unfold Oper.wp execOp
        go_simp
        exact hK _ _ (fun d hd => by cases hd; exact rfl) (Ch.refl _ _)
      | 4, _, ho => by
        obtain rfl := Option.some.inj ho
        have e16 : A.tmps[16]?.getD undef = .pointer (some ⟨B, 1, none⟩) := (eval_getD A 16).symm.trans (hr 16 (by decide) (by decide))
        have l0 : W'.cell? ⟨B, 1, none⟩ = some (.string s1) := blk_cell hB rfl
        unfold Oper.wp execOp
        go_simp
        exact hK _ _ (fun d hd => by cases hd; exact rfl) (Ch.refl _ _)
      | 5, _, ho => by
        obtain rfl := Option.some.inj ho
        have e1 : A.tmps[1]?.getD undef = .pointer (some ⟨B, 0, none⟩) := (eval_getD A 1).symm.trans (hx 1 (by decide))
        unfold Oper.wp execOp
        go_simp
        exact hK _ _ (fun d hd => by cases hd; exact rfl) (Ch.refl _ _)
      | 6, _, ho => by
        obtain rfl := Option.some.inj ho
        have e18 : A.tmps[18]?.getD undef = .pointer (some ⟨B, 1, none⟩) := (eval_getD A 18).symm.trans (hr 18 (by decide) (by decide))
        unfold Oper.wp execOp
        go_simp
        exact hK _ _ (fun d hd => by cases hd; exact rfl) (Ch.refl _ _)
      | 7, _, ho => by
        obtain rfl := Option.some.inj ho
        have e19 : A.tmps[19]?.getD undef = .pointer (some ⟨B, 2, none⟩) := (eval_getD A 19).symm.trans (hr 19 (by decide) (by decide))
        have l0 : W'.cell? ⟨B, 2, none⟩ = some (.int .u64 o1) := blk_cell hB rfl
        unfold Oper.wp execOp
        go_simp
        exact hK _ _ (fun d hd => by cases hd; exact rfl) (Ch.refl _ _)
      | 8, _, ho => by
        obtain rfl := Option.some.inj ho
        have e1 : A.tmps[1]?.getD undef = .pointer (some ⟨B, 0, none⟩) := (eval_getD A 1).symm.trans (hx 1 (by decide))
        unfold Oper.wp execOp
        go_simp
        exact hK _ _ (fun d hd => by cases hd; exact rfl) (Ch.refl _ _)
      | 9, _, ho => by
        obtain rfl := Option.some.inj ho
        have e21 : A.tmps[21]?.getD undef = .pointer (some ⟨B, 1, none⟩) := (eval_getD A 21).symm.trans (hr 21 (by decide) (by decide))
        unfold Oper.wp execOp
        go_simp
        exact hK _ _ (fun d hd => by cases hd; exact rfl) (Ch.refl _ _)
      | 10, _, ho => by
        obtain rfl := Option.some.inj ho
        have e22 : A.tmps[22]?.getD undef = .pointer (some ⟨B, 3, none⟩) := (eval_getD A 22).symm.trans (hr 22 (by decide) (by decide))
        have l0 : W'.cell? ⟨B, 3, none⟩ = some (.int .u64 o2) := blk_cell hB rfl
        unfold Oper.wp execOp
        go_simp
        exact hK _ _ (fun d hd => by cases hd; exact rfl) (Ch.refl _ _)
      | 11, _, ho => by
        obtain rfl := Option.some.inj ho
        have e1 : A.tmps[1]?.getD undef = .pointer (some ⟨B, 0, none⟩) := (eval_getD A 1).symm.trans (hx 1 (by decide))
        unfold Oper.wp execOp
        go_simp
        exact hK _ _ (fun d hd => by cases hd; exact rfl) (Ch.refl _ _)
      | 12, _, ho => by
        obtain rfl := Option.some.inj ho
        have e24 : A.tmps[24]?.getD undef = .pointer (some ⟨B, 1, none⟩) := (eval_getD A 24).symm.trans (hr 24 (by decide) (by decide))
        unfold Oper.wp execOp
        go_simp
        exact hK _ _ (fun d hd => by cases hd; exact rfl) (Ch.refl _ _)
      | 13, _, ho => by
        obtain rfl := Option.some.inj ho
        have e25 : A.tmps[25]?.getD undef = .pointer (some ⟨B, 4, none⟩) := (eval_getD A 25).symm.trans (hr 25 (by decide) (by decide))
        have l0 : W'.cell? ⟨B, 4, none⟩ = some (.string s2) := blk_cell hB rfl
        unfold Oper.wp execOp
        go_simp
        exact hK _ _ (fun d hd => by cases hd; exact rfl) (Ch.refl _ _)
      | 14, _, ho => by
        obtain rfl := Option.some.inj ho
        have e1 : A.tmps[1]?.getD undef = .pointer (some ⟨B, 0, none⟩) := (eval_getD A 1).symm.trans (hx 1 (by decide))
        unfold Oper.wp execOp
        go_simp
        exact hK _ _ (fun d hd => by cases hd; exact rfl) (Ch.refl _ _)
      | 15, _, ho => by
        obtain rfl := Option.some.inj ho
        have e27 : A.tmps[27]?.getD undef = .pointer (some ⟨B, 1, none⟩) := (eval_getD A 27).symm.trans (hr 27 (by decide) (by decide))
        unfold Oper.wp execOp
        go_simp
        exact hK _ _ (fun d hd => by cases hd; exact rfl) (Ch.refl _ _)
      | 16, _, ho => by
        obtain rfl := Option.some.inj ho
        have e28 : A.tmps[28]?.getD undef = .pointer (some ⟨B, 5, none⟩) := (eval_getD A 28).symm.trans (hr 28 (by decide) (by decide))
        have l0 : W'.cell? ⟨B, 5, none⟩ = some (.string s3) := blk_cell hB rfl
        unfold Oper.wp execOp
        go_simp
        exact hK _ _ (fun d hd => by cases hd; exact rfl) (Ch.refl _ _)
      | 17, _, ho => by
        obtain rfl := Option.some.inj ho
        have e1 : A.tmps[1]?.getD undef = .pointer (some ⟨B, 0, none⟩) := (eval_getD A 1).symm.trans (hx 1 (by decide))
        unfold Oper.wp execOp
        go_simp
        exact hK _ _ (fun d hd => by cases hd; exact rfl) (Ch.refl _ _)
      | 18, _, ho => by
        obtain rfl := Option.some.inj ho
        have e30 : A.tmps[30]?.getD undef = .pointer (some ⟨B, 1, none⟩) := (eval_getD A 30).symm.trans (hr 30 (by decide) (by decide))
        unfold Oper.wp execOp
        go_simp
        exact hK _ _ (fun d hd => by cases hd; exact rfl) (Ch.refl _ _)
      | 19, _, ho => by
        obtain rfl := Option.some.inj ho
        have e31 : A.tmps[31]?.getD undef = .pointer (some ⟨B, 6, none⟩) := (eval_getD A 31).symm.trans (hr 31 (by decide) (by decide))
        have l0 : W'.cell? ⟨B, 6, none⟩ = some (.string s4) := blk_cell hB rfl
        unfold Oper.wp execOp
        go_simp
        exact hK _ _ (fun d hd => by cases hd; exact rfl) (Ch.refl _ _)
      | 20, _, ho => by
        obtain rfl := Option.some.inj ho
        have e17 : A.tmps[17]?.getD undef = .string s1 := (eval_getD A 17).symm.trans (hr 17 (by decide) (by decide))
        have e20 : A.tmps[20]?.getD undef = .int .u64 o1 := (eval_getD A 20).symm.trans (hr 20 (by decide) (by decide))
        have e23 : A.tmps[23]?.getD undef = .int .u64 o2 := (eval_getD A 23).symm.trans (hr 23 (by decide) (by decide))
        have e26 : A.tmps[26]?.getD undef = .string s2 := (eval_getD A 26).symm.trans (hr 26 (by decide) (by decide))
        have e29 : A.tmps[29]?.getD undef = .string s3 := (eval_getD A 29).symm.trans (hr 29 (by decide) (by decide))
        have e32 : A.tmps[32]?.getD undef = .string s4 := (eval_getD A 32).symm.trans (hr 32 (by decide) (by decide))
        unfold Oper.wp execOp
        go_simp
        exact hK _ _ (fun d hd => by cases hd; exact rfl) (Ch.refl _ _)
      | 21, _, ho => by
        obtain rfl := Option.some.inj ho
        have e1 : A.tmps[1]?.getD undef = .pointer (some ⟨B, 0, none⟩) := (eval_getD A 1).symm.trans (hx 1 (by decide))
        unfold Oper.wp execOp
        go_simp
        exact hK _ _ (fun d hd => by cases hd; exact rfl) (Ch.refl _ _)
      | 22, _, ho => by
        obtain rfl := Option.some.inj ho
        have e34 : A.tmps[34]?.getD undef = .pointer (some ⟨B, 7, none⟩) := (eval_getD A 34).symm.trans (hr 34 (by decide) (by decide))
        have l0 : W'.cell? ⟨B, 7, none⟩ = some (.string name) := blk_cell hB rfl
        unfold Oper.wp execOp
        go_simp
        exact hK _ _ (fun d hd => by cases hd; exact rfl) (Ch.refl _ _)
      | 23, _, ho => by
        obtain rfl := Option.some.inj ho
        have e1 : A.tmps[1]?.getD undef = .pointer (some ⟨B, 0, none⟩) := (eval_getD A 1).symm.trans (hx 1 (by decide))
        unfold Oper.wp execOp
        go_simp
        exact hK _ _ (fun d hd => by cases hd; exact rfl) (Ch.refl _ _)
      | 24, _, ho => by
        obtain rfl := Option.some.inj ho
        have e36 : A.tmps[36]?.getD undef = .pointer (some ⟨B, 8, none⟩) := (eval_getD A 36).symm.trans (hr 36 (by decide) (by decide))
        have l0 : W'.cell? ⟨B, 8, none⟩ = some (.slice A1 n1 c1) := blk_cell hB rfl
        unfold Oper.wp execOp
        go_simp
        exact hK _ _ (fun d hd => by cases hd; exact rfl) (Ch.refl _ _)
      | 25, _, ho => by
        obtain rfl := Option.some.inj ho
        have e37 : A.tmps[37]?.getD undef = .slice A1 n1 c1 := (eval_getD A 37).symm.trans (hr 37 (by decide) (by decide))
        unfold Oper.wp execOp
        go_simp
        (go_at_call 105; refine (first_f105 hm.l1 hm.r1).mono ?_; rintro e W2 ⟨p, rfl, _, hcp⟩)
        exact hK _ _ (fun d hd => by cases hd; exact ⟨p, rfl⟩) (hcp)
      | 26, _, ho => by
        obtain rfl := Option.some.inj ho
        have e1 : A.tmps[1]?.getD undef = .pointer (some ⟨B, 0, none⟩) := (eval_getD A 1).symm.trans (hx 1 (by decide))
        unfold Oper.wp execOp
        go_simp
        exact hK _ _ (fun d hd => by cases hd; exact rfl) (Ch.refl _ _)
      | 27, _, ho => by
        obtain rfl := Option.some.inj ho
        have e39 : A.tmps[39]?.getD undef = .pointer (some ⟨B, 9, none⟩) := (eval_getD A 39).symm.trans (hr 39 (by decide) (by decide))
        have l0 : W'.cell? ⟨B, 9, none⟩ = some (.slice A2 n2 c2) := blk_cell hB rfl
        unfold Oper.wp execOp
        go_simp
        exact hK _ _ (fun d hd => by cases hd; exact rfl) (Ch.refl _ _)
      | 28, _, ho => by
        obtain rfl := Option.some.inj ho
        have e40 : A.tmps[40]?.getD undef = .slice A2 n2 c2 := (eval_getD A 40).symm.trans (hr 40 (by decide) (by decide))
        unfold Oper.wp execOp
        go_simp
        (go_at_call 112; refine (first_f112 hm.l2 hm.r2).mono ?_; rintro e W2 ⟨p, rfl, _, hcp⟩)
        exact hK _ _ (fun d hd => by cases hd; exact ⟨p, rfl⟩) (hcp)
      | 29, _, ho => by
        obtain rfl := Option.some.inj ho
        have e1 : A.tmps[1]?.getD undef = .pointer (some ⟨B, 0, none⟩) := (eval_getD A 1).symm.trans (hx 1 (by decide))
        unfold Oper.wp execOp
        go_simp
        exact hK _ _ (fun d hd => by cases hd; exact rfl) (Ch.refl _ _)
      | 30, _, ho => by
        obtain rfl := Option.some.inj ho
        have e42 : A.tmps[42]?.getD undef = .pointer (some ⟨B, 10, none⟩) := (eval_getD A 42).symm.trans (hr 42 (by decide) (by decide))
        have l0 : W'.cell? ⟨B, 10, none⟩ = some (.slice A3 n3 c3) := blk_cell hB rfl
        unfold Oper.wp execOp
        go_simp
        exact hK _ _ (fun d hd => by cases hd; exact rfl) (Ch.refl _ _)
      | 31, _, ho => by
        obtain rfl := Option.some.inj ho
        have e43 : A.tmps[43]?.getD undef = .slice A3 n3 c3 := (eval_getD A 43).symm.trans (hr 43 (by decide) (by decide))
        unfold Oper.wp execOp
        go_simp
        (go_at_call 113; refine (first_f113 hm.l3 hm.r3).mono ?_; rintro e W2 ⟨p, rfl, _, hcp⟩)
        exact hK _ _ (fun d hd => by cases hd; exact ⟨p, rfl⟩) (hcp)
      | 32, _, ho => by
        obtain rfl := Option.some.inj ho
        have e1 : A.tmps[1]?.getD undef = .pointer (some ⟨B, 0, none⟩) := (eval_getD A 1).symm.trans (hx 1 (by decide))
        unfold Oper.wp execOp
        go_simp
        exact hK _ _ (fun d hd => by cases hd; exact rfl) (Ch.refl _ _)
      | 33, _, ho => by
        obtain rfl := Option.some.inj ho
        have e45 : A.tmps[45]?.getD undef = .pointer (some ⟨B, 11, none⟩) := (eval_getD A 45).symm.trans (hr 45 (by decide) (by decide))
        have l0 : W'.cell? ⟨B, 11, none⟩ = some (.slice A4 n4 c4) := blk_cell hB rfl
        unfold Oper.wp execOp
        go_simp
        exact hK _ _ (fun d hd => by cases hd; exact rfl) (Ch.refl _ _)
      | 34, _, ho => by
        obtain rfl := Option.some.inj ho
        have e46 : A.tmps[46]?.getD undef = .slice A4 n4 c4 := (eval_getD A 46).symm.trans (hr 46 (by decide) (by decide))
        unfold Oper.wp execOp
        go_simp
        (go_at_call 114; refine (first_f114 hm.l4 hm.r4).mono ?_; rintro e W2 ⟨p, rfl, _, hcp⟩)
        exact hK _ _ (fun d hd => by cases hd; exact ⟨p, rfl⟩) (hcp)
      | 35, _, ho => by
        obtain rfl := Option.some.inj ho
        have e1 : A.tmps[1]?.getD undef = .pointer (some ⟨B, 0, none⟩) := (eval_getD A 1).symm.trans (hx 1 (by decide))
        unfold Oper.wp execOp
        go_simp
        exact hK _ _ (fun d hd => by cases hd; exact rfl) (Ch.refl _ _)
      | 36, _, ho => by
        obtain rfl := Option.some.inj ho
        have e48 : A.tmps[48]?.getD undef = .pointer (some ⟨B, 12, none⟩) := (eval_getD A 48).symm.trans (hr 48 (by decide) (by decide))
        have l0 : W'.cell? ⟨B, 12, none⟩ = some (.slice A5 n5 c5) := blk_cell hB rfl
        unfold Oper.wp execOp
        go_simp
        exact hK _ _ (fun d hd => by cases hd; exact rfl) (Ch.refl _ _)
      | 37, _, ho => by
        obtain rfl := Option.some.inj ho
        have e49 : A.tmps[49]?.getD undef = .slice A5 n5 c5 := (eval_getD A 49).symm.trans (hr 49 (by decide) (by decide))
        unfold Oper.wp execOp
        go_simp
        (go_at_call 106; refine (connection_any hm.l5 hm.r5).mono ?_; rintro e W2 ⟨p, rfl, _, hcp⟩)
        exact hK _ _ (fun d hd => by cases hd; exact ⟨p, rfl⟩) (hcp)
      | 38, _, ho => by
        obtain rfl := Option.some.inj ho
        have e1 : A.tmps[1]?.getD undef = .pointer (some ⟨B, 0, none⟩) := (eval_getD A 1).symm.trans (hx 1 (by decide))
        unfold Oper.wp execOp
        go_simp
        exact hK _ _ (fun d hd => by cases hd; exact rfl) (Ch.refl _ _)
      | 39, _, ho => by
        obtain rfl := Option.some.inj ho
        have e51 : A.tmps[51]?.getD undef = .pointer (some ⟨B, 13, none⟩) := (eval_getD A 51).symm.trans (hr 51 (by decide) (by decide))
        have l0 : W'.cell? ⟨B, 13, none⟩ = some (.slice A6 lb.length c6) := blk_cell hB rfl
        unfold Oper.wp execOp
        go_simp
        exact hK _ _ (fun d hd => by cases hd; exact rfl) (Ch.refl _ _)
      | 40, _, ho => by
        obtain rfl := Option.some.inj ho
        have e52 : A.tmps[52]?.getD undef = .slice A6 lb.length c6 := (eval_getD A 52).symm.trans (hr 52 (by decide) (by decide))
        unfold Oper.wp execOp
        go_simp
        (go_at_call 107; refine (bandwidths_any hlb hl6).mono ?_; rintro e W2 ⟨v, rfl, ho, hcp⟩; obtain ⟨S, c, rfl, _, _⟩ := Lst.of_own (f := bandC) (fun _ => rfl) ho rfl)
        exact hK _ _ (fun d hd => by cases hd; exact ⟨_, _, _, rfl⟩) (hcp)
      | 41, _, ho => by
        obtain rfl := Option.some.inj ho
        have e1 : A.tmps[1]?.getD undef = .pointer (some ⟨B, 0, none⟩) := (eval_getD A 1).symm.trans (hx 1 (by decide))
        unfold Oper.wp execOp
        go_simp
        exact hK _ _ (fun d hd => by cases hd; exact rfl) (Ch.refl _ _)
      | 42, _, ho => by
        obtain rfl := Option.some.inj ho
        have e54 : A.tmps[54]?.getD undef = .pointer (some ⟨B, 16, none⟩) := (eval_getD A 54).symm.trans (hr 54 (by decide) (by decide))
        have l0 : W'.cell? ⟨B, 16, none⟩ = some (.slice A9 n9 c9) := blk_cell hB rfl
        unfold Oper.wp execOp
        go_simp
        exact hK _ _ (fun d hd => by cases hd; exact rfl) (Ch.refl _ _)
      | 43, _, ho => by
        obtain rfl := Option.some.inj ho
        have e55 : A.tmps[55]?.getD undef = .slice A9 n9 c9 := (eval_getD A 55).symm.trans (hr 55 (by decide) (by decide))
        unfold Oper.wp execOp
        go_simp
        (go_at_call 108; refine (first_f108 hm.l9 hm.r9).mono ?_; rintro e W2 ⟨p, rfl, _, hcp⟩)
        exact hK _ _ (fun d hd => by cases hd; exact ⟨p, rfl⟩) (hcp)
      | 44, _, ho => by
        obtain rfl := Option.some.inj ho
        have e1 : A.tmps[1]?.getD undef = .pointer (some ⟨B, 0, none⟩) := (eval_getD A 1).symm.trans (hx 1 (by decide))
        unfold Oper.wp execOp
        go_simp
        exact hK _ _ (fun d hd => by cases hd; exact rfl) (Ch.refl _ _)
      | 45, _, ho => by
        obtain rfl := Option.some.inj ho
        have e57 : A.tmps[57]?.getD undef = .pointer (some ⟨B, 17, none⟩) := (eval_getD A 57).symm.trans (hr 57 (by decide) (by decide))
        have l0 : W'.cell? ⟨B, 17, none⟩ = some (.slice A10 la.length c10) := blk_cell hB rfl
        unfold Oper.wp execOp
        go_simp
        exact hK _ _ (fun d hd => by cases hd; exact rfl) (Ch.refl _ _)
      | 46, _, ho => by
        obtain rfl := Option.some.inj ho
        have e58 : A.tmps[58]?.getD undef = .slice A10 la.length c10 := (eval_getD A 58).symm.trans (hr 58 (by decide) (by decide))
        unfold Oper.wp execOp
        go_simp
        (go_at_call 109; refine (attributes_any hla hl10).mono ?_; rintro e W2 ⟨v, rfl, ho, hcp⟩; obtain ⟨SA, c, rfl, _, _⟩ := Lst.of_own (f := attrC) (fun _ => rfl) ho rfl)
        exact hK _ _ (fun d hd => by cases hd; exact ⟨_, _, rfl, owns_low ho (Nat.zero_le _)⟩) (hcp)
      | 47, _, ho => by
        obtain rfl := Option.some.inj ho
        have e14 : A.tmps[14]?.getD undef = .int .i64 ver := (eval_getD A 14).symm.trans (hr 14 (by decide) (by decide))
        have e33 : A.tmps[33]?.getD undef = .agg #[.string s1, .int .u64 o1, .int .u64 o2, .string s2, .string s3, .string s4] := (eval_getD A 33).symm.trans (hr 33 (by decide) (by decide))
        have e35 : A.tmps[35]?.getD undef = .string name := (eval_getD A 35).symm.trans (hr 35 (by decide) (by decide))
        obtain ⟨p38, eq38_⟩ : ∃ (p : Option Addr), A.eval (.tmp 38) = .pointer p := hr 38 (by decide) (by decide)
        have e38 : A.tmps[38]?.getD undef = .pointer p38 := (eval_getD A 38).symm.trans eq38_
        obtain ⟨p41, eq41_⟩ : ∃ (p : Option Addr), A.eval (.tmp 41) = .pointer p := hr 41 (by decide) (by decide)
        have e41 : A.tmps[41]?.getD undef = .pointer p41 := (eval_getD A 41).symm.trans eq41_
        obtain ⟨p44, eq44_⟩ : ∃ (p : Option Addr), A.eval (.tmp 44) = .pointer p := hr 44 (by decide) (by decide)
        have e44 : A.tmps[44]?.getD undef = .pointer p44 := (eval_getD A 44).symm.trans eq44_
        obtain ⟨p47, eq47_⟩ : ∃ (p : Option Addr), A.eval (.tmp 47) = .pointer p := hr 47 (by decide) (by decide)
        have e47 : A.tmps[47]?.getD undef = .pointer p47 := (eval_getD A 47).symm.trans eq47_
        obtain ⟨p50, eq50_⟩ : ∃ (p : Option Addr), A.eval (.tmp 50) = .pointer p := hr 50 (by decide) (by decide)
        have e50 : A.tmps[50]?.getD undef = .pointer p50 := (eval_getD A 50).symm.trans eq50_
        obtain ⟨S53, n53, c53, eq53_⟩ : ∃ (S : Option Addr) (n : Nat) (c : Nat), A.eval (.tmp 53) = .slice S n c := hr 53 (by decide) (by decide)
        have e53 : A.tmps[53]?.getD undef = .slice S53 n53 c53 := (eval_getD A 53).symm.trans eq53_
        obtain ⟨p56, eq56_⟩ : ∃ (p : Option Addr), A.eval (.tmp 56) = .pointer p := hr 56 (by decide) (by decide)
        have e56 : A.tmps[56]?.getD undef = .pointer p56 := (eval_getD A 56).symm.trans eq56_
        obtain ⟨SA59, ca59, eq59_, p59_0⟩ : ∃ (SA : Option Addr) (ca : Nat), A.eval (.tmp 59) = .slice SA la.length ca ∧ W'.ownsRow 0 240 2 (.slice SA la.length ca) la.length (la.flatMap attrC) := hr 59 (by decide) (by decide)
        have e59 : A.tmps[59]?.getD undef = .slice SA59 la.length ca59 := (eval_getD A 59).symm.trans eq59_
        unfold Oper.wp execOp
        go_simp
        exact hK _ _ (fun d hd => by cases hd; exact ⟨p38, p41, p44, p47, p50, S53, n53, c53, p56, SA59, ca59, rfl, p59_0⟩) (Ch.refl _ _)
      | 48, _, ho => by
        obtain rfl := Option.some.inj ho
        obtain ⟨q160, q260, q360, q460, q560, S60, n60, c60, q660, SA60, ca60, eq60_, p60_0⟩ : ∃ (q1 : Option Addr) (q2 : Option Addr) (q3 : Option Addr) (q4 : Option Addr) (q5 : Option Addr) (S : Option Addr) (n : Nat) (c : Nat) (q6 : Option Addr) (SA : Option Addr) (ca : Nat), A.eval (.tmp 60) = .agg #[.int .i64 ver, .string s1, .int .u64 o1, .int .u64 o2, .string s2, .string s3, .string s4, .string name, .pointer q1, .pointer q2, .pointer q3, .pointer q4, .pointer q5, .slice S n c, .slice none 0 0, .slice none 0 0, .pointer q6, .slice SA la.length ca, .slice none 0 0] ∧ W'.ownsRow 0 240 2 (.slice SA la.length ca) la.length (la.flatMap attrC) := hr 60 (by decide) (by decide)
        have e60 : A.tmps[60]?.getD undef = .agg #[.int .i64 ver, .string s1, .int .u64 o1, .int .u64 o2, .string s2, .string s3, .string s4, .string name, .pointer q160, .pointer q260, .pointer q360, .pointer q460, .pointer q560, .slice S60 n60 c60, .slice none 0 0, .slice none 0 0, .pointer q660, .slice SA60 la.length ca60, .slice none 0 0] := (eval_getD A 60).symm.trans eq60_
        have hcn := (Ch.grown (S := fun _ => False) (World.grownBy_alloc W' (.cells #[.int .i64 ver, .string s1, .int .u64 o1, .int .u64 o2, .string s2, .string s3, .string s4, .string name, .pointer q160, .pointer q260, .pointer q360, .pointer q460, .pointer q560, .slice S60 n60 c60, .slice none 0 0, .slice none 0 0, .pointer q660, .slice SA60 la.length ca60, .slice none 0 0] 108) none) (by simp))
        unfold Oper.wp execOp
        go_simp
        exact hK _ _ (fun d hd => by cases hd; exact ⟨_, q160, q260, q360, q460, q560, S60, n60, c60, q660, SA60, ca60, rfl, hLW, heap_alloc_new _ _, own_ch p60_0 hcn⟩) (hcn)
      | n + 49, hi, _ => absurd hi (by omega)

  · intro oo ho u W1 hR hu
    obtain rfl := Option.some.inj ho
    obtain ⟨D, q1, q2, q3, q4, q5, S, n, c, q6, SA, ca, hv, hDB, hD, hOA⟩ : ∃ (k : Nat) (q1 : Option Addr) (q2 : Option Addr) (q3 : Option Addr) (q4 : Option Addr) (q5 : Option Addr) (S : Option Addr) (n : Nat) (c : Nat) (q6 : Option Addr) (SA : Option Addr) (ca : Nat), u 61 = .pointer (some ⟨k, 0, none⟩) ∧ B ≤ k ∧ W1.heap[k]? = some (.cells #[.int .i64 ver, .string s1, .int .u64 o1, .int .u64 o2, .string s2, .string s3, .string s4, .string name, .pointer q1, .pointer q2, .pointer q3, .pointer q4, .pointer q5, .slice S n c, .slice none 0 0, .slice none 0 0, .pointer q6, .slice SA la.length ca, .slice none 0 0] 108 (0, 0)) ∧ W1.ownsRow 0 240 2 (.slice SA la.length ca) la.length (la.flatMap attrC) := hu 61 (by decide)
    have hR0 := (Ch.of_heap (Ch.refl _ W0) (w' := W0.drew) rfl rfl rfl rfl).trans hR
    have HC1 := Lib.hid (HX0.out.trans hR0)
    have HB1 := Lib.hid ((hR0.block _ (blk_lt HB0.out) id).trans HB0.out)
    have HD := Lib.hid hD
    have HOA := Lib.hid hOA
    have HDB := Lib.hid hDB
    clear hR hu hR0 hD hOA hDB HB0 HX0
    rw [ses_frame, hv]
    unfold Oper.wp execOp
    go_simp
    clear hv
    have HBD := Lib.hid (show B ≠ D from ne_of_type HB1.out HD.out (by decide))
    obtain ⟨L, hL⟩ : ∃ L, W1.heap.size = L := ⟨_, rfl⟩
    have HLS := Lib.hid hL
    have q14 : W1.cell? ⟨B, 14, none⟩ = some (.slice A7 n7 c7) := blk_cell HB1.out rfl
    clear hL
    go_wp2_with fail
    clear q14
    go_loopg [5, 6, 8, 65] n7 (fun g _ _ _ x wr => ∃ j : Nat, g = n7 - j ∧ j ≤ n7 ∧ x = .int .i64 j ∧ ∃ (cs : Array Value) (v : Value) (xs : List Value), wr.heap[D]? = some (.cells cs 108 (0, 0)) ∧ (cs.size = 19 ∧ cs[14]? = some v ∧ cs[15]? = some (.slice none 0 0) ∧ cs[17]? = some (.slice SA la.length ca) ∧ cs[18]? = some (.slice none 0 0)) ∧ wr.ownsRow L 193 3 v j xs ∧ Ch (fun k => k = D) W1 wr)
    case atStart => exact ⟨0, rfl, Nat.zero_le _, rfl, _, _, [], HD.out, ⟨rfl, rfl, rfl, rfl, rfl⟩, World.ownsRow_nil _ _ _ _, Ch.refl _ _⟩
    case round =>
      obtain ⟨j, hg, hj, rfl, cs, v, xs, hD, hcs, hown, hch⟩ := hrel
      have HG := Lib.hid hg
      have HD2 := Lib.hid hD
      have HV := Lib.hid hcs
      have HOWN1 := Lib.hid hown
      have HCH := Lib.hid hch
      clear hg hD hcs hown hch
      have HCW := Lib.hid (show Ch (fun _ => False) w wr from HC1.out.fresh HCH.out (fun i hi => .inl (by rw [hi, HBS.out]; exact HDB.out)))
      by_cases hlt : j < n7
      · obtain ⟨b, o, cs0, rfl, -, ⟨i1, i2, A1', m1, c1', rfl, hm1, hrep⟩, hc⟩ := HTI.out j hlt
        have k0 := HCW.out.cell0 (hc 0 _ rfl)
        have k1 := HCW.out.cell0 (hc 1 _ rfl)
        have k2 := HCW.out.cell0 (hc 2 _ rfl)
        rw [Nat.add_zero] at k0
        rw [← Nat.add_assoc] at k1 k2
        have hcA : Ch (fun _ => False) wr (wr.alloc (.cells #[.int .u64 i1, .int .u64 i2, .slice A1' m1 c1'] 196)) := Ch.grown (World.grownBy_alloc _ _ none) (by simp)
        have hcB : Ch (fun _ => False) (wr.alloc (.cells #[.int .u64 i1, .int .u64 i2, .slice A1' m1 c1'] 196)) ((wr.alloc (.cells #[.int .u64 i1, .int .u64 i2, .slice A1' m1 c1'] 196)).alloc (.cells #[.int .u64 i1, .int .u64 i2, .slice none 0 0] 193)) := Ch.grown (World.grownBy_alloc _ _ none) (by simp)
        have hn5 : (wr.alloc (.cells #[.int .u64 i1, .int .u64 i2, .slice A1' m1 c1'] 196)).heap[wr.heap.size]? = some (.cells #[.int .u64 i1, .int .u64 i2, .slice A1' m1 c1'] 196 (0, 0)) := heap_alloc_new _ _
        have hn6 : ((wr.alloc (.cells #[.int .u64 i1, .int .u64 i2, .slice A1' m1 c1'] 196)).alloc (.cells #[.int .u64 i1, .int .u64 i2, .slice none 0 0] 193)).heap[wr.heap.size + 1]? = some (.cells #[.int .u64 i1, .int .u64 i2, .slice none 0 0] 193 (0, 0)) := by
          have h1 := heap_alloc_new (wr.alloc (.cells #[.int .u64 i1, .int .u64 i2, .slice A1' m1 c1'] 196)) (.cells #[.int .u64 i1, .int .u64 i2, .slice none 0 0] 193)
          rw [World.size_alloc] at h1
          exact h1
        have f0 : (wr.alloc (.cells #[.int .u64 i1, .int .u64 i2, .slice A1' m1 c1'] 196)).cell? ⟨wr.heap.size, 0, none⟩ = some (.int .u64 i1) := blk_cell hn5 rfl
        have f1 : (wr.alloc (.cells #[.int .u64 i1, .int .u64 i2, .slice A1' m1 c1'] 196)).cell? ⟨wr.heap.size, 1, none⟩ = some (.int .u64 i2) := blk_cell hn5 rfl
        have f2 : ((wr.alloc (.cells #[.int .u64 i1, .int .u64 i2, .slice A1' m1 c1'] 196)).alloc (.cells #[.int .u64 i1, .int .u64 i2, .slice none 0 0] 193)).cell? ⟨wr.heap.size, 2, none⟩ = some (.slice A1' m1 c1') := hcB.cell0 (blk_cell hn5 rfl)
        have HCB := Lib.hid (hcA.trans hcB)
        have HN6 := Lib.hid hn6
        have HREP := Lib.hid hrep
        clear hc hcA hcB hn5 hn6 hrep
        go_wp2_with fail
        clear k0 k1 k2 f0 f1 f2
        generalize ((wr.alloc (.cells #[.int .u64 i1, .int .u64 i2, .slice A1' m1 c1'] 196)).alloc (.cells #[.int .u64 i1, .int .u64 i2, .slice none 0 0] 193)) = W2 at *
        obtain ⟨T6, hT6⟩ : ∃ T6, wr.heap.size + 1 = T6 := ⟨_, rfl⟩
        have HTS := Lib.hid hT6
        rw [hT6] at HN6 ⊢
        clear hT6
        obtain ⟨L2, hL2⟩ : ∃ L2, W2.heap.size = L2 := ⟨_, rfl⟩
        have HLS2 := Lib.hid hL2
        clear hL2
        have HDW2 := Lib.hid ((HCB.out.block _ (blk_lt HD2.out) id).trans HD2.out)
        have HOW2 := Lib.hid (own_ch HOWN1.out HCB.out)
        have HDT6 := Lib.hid (show D ≠ T6 by have := blk_lt HD2.out; have := HTS.out; omega)
        have HOT6 := Lib.hid (show ∀ k, v.ownBlock = some k → k ≠ T6 from fun k hk => by have := (HOWN1.out.lt k hk).2; have := HTS.out; omega)
        have HC2 := Lib.hid (HCW.out.trans HCB.out)
        have HT6L := Lib.hid (show w.heap.size ≤ T6 ∧ W1.heap.size ≤ T6 by have := HCW.out.size; have := HCH.out.size; have := HTS.out; omega)
        have HCH2' := Lib.hid (HCH.out.trans (HCB.out.mono (fun _ h => h.elim)))
        generalize wr = Wo at *
        go_loopg [8, 78] m1 (fun g _ x wr => ∃ j2 : Nat, g = m1 - j2 ∧ j2 ≤ m1 ∧ x = .int .i64 j2 ∧ ∃ (v2 : Value) (xs2 : List Value), wr.heap[T6]? = some (.cells #[.int .u64 i1, .int .u64 i2, v2] 193 (0, 0)) ∧ wr.ownsRow L2 199 3 v2 j2 xs2 ∧ Ch (fun k => k = T6) W2 wr)
        case atStart => exact ⟨0, rfl, Nat.zero_le _, rfl, _, [], HN6.out, World.ownsRow_nil _ _ _ _, Ch.refl _ _⟩
        case round =>
          obtain ⟨j2, hg2, hj2, rfl, v2, xs2, hB6, hown2, hch2⟩ := hrel
          have HG2 := Lib.hid hg2
          have HB6 := Lib.hid hB6
          have HOWN2 := Lib.hid hown2
          have HCH2 := Lib.hid hch2
          clear hg2 hB6 hown2 hch2
          have HCI := Lib.hid (show Ch (fun _ => False) w wr from HC2.out.fresh HCH2.out (fun i hi => .inl (by rw [hi]; exact HT6L.out.1)))
          by_cases hlt2 : j2 < m1
          · obtain ⟨b2, o2, cs2, rfl, -, ⟨r1, r2, A2, m2, c2, rfl, hm2, hints⟩, hc⟩ := HREP.out j2 hlt2
            have k0 := HCI.out.cell0 (hc 0 _ rfl)
            have k1 := HCI.out.cell0 (hc 1 _ rfl)
            have k2 := HCI.out.cell0 (hc 2 _ rfl)
            rw [Nat.add_zero] at k0
            rw [← Nat.add_assoc] at k1 k2
            have hcA : Ch (fun _ => False) wr (wr.alloc (.cells #[.int .i64 r1, .int .i64 r2, .slice A2 m2 c2] 201)) := Ch.grown (World.grownBy_alloc _ _ none) (by simp)
            have HN8 := Lib.hid (show (wr.alloc (.cells #[.int .i64 r1, .int .i64 r2, .slice A2 m2 c2] 201)).heap[wr.heap.size]? = some (.cells #[.int .i64 r1, .int .i64 r2, .slice A2 m2 c2] 201 (0, 0)) from heap_alloc_new _ _)
            have HCA := Lib.hid hcA
            have HIN := Lib.hid hints
            clear hc hcA hints
            go_upto_region 9 with fail
            clear k0 k1 k2
            have HOWN := Lib.hid (own_ch HOWN2.out HCA.out)
            have HB63 := Lib.hid ((HCA.out.block _ (blk_lt HB6.out) id).trans HB6.out)
            have HLW := Lib.hid (show L2 ≤ (wr.alloc (.cells #[.int .i64 r1, .int .i64 r2, .slice A2 m2 c2] 201)).heap.size by rw [← HLS2.out]; exact Nat.le_trans HCH2.out.size HCA.out.size)
            generalize (wr.alloc (.cells #[.int .i64 r1, .int .i64 r2, .slice A2 m2 c2] 201)) = W3' at *
            obtain ⟨T8, hT8⟩ : ∃ T8, wr.heap.size = T8 := ⟨_, rfl⟩
            rw [hT8] at HN8 ⊢
            clear hT8
            have HDBK := Lib.hid (show v2.ownBlock ≠ some T6 from own_not HOWN.out HB63.out (by decide))
            have HVC := Lib.hid (show (#[.int .u64 i1, .int .u64 i2, v2] : Array Value)[2]? = some v2 from rfl)
            have HTBK := Lib.hid (show v2.ownBlock ≠ some T8 from own_not HOWN.out HN8.out (by decide))
            have HOL := Lib.hid (show ∀ i, v2.ownBlock = some i → w.heap.size ≤ i ∧ W2.heap.size ≤ i from fun i hi => by have h1 := (HOWN.out.lt i hi).1; have := HLS2.out; have := HC2.out.size; omega)
            refine wp_region_ops8 (by kernel_rfl) [82, 83, 84, 85, 86, 87, 88, 89, 90, 91, 92, 93, 94] 13 [] (by kernel_rfl) (by kernel_rfl) (by kernel_rfl) (repT T6 T8 r1 r2 A2 m2 c2 L2 j2 v2 xs2) (appR L2 199 3 j2 v2 xs2 11 W3') ⟨Ch.of_heap (Ch.refl _ W3') rfl rfl rfl rfl, .inr HOWN.out⟩ (fun q hq => by cases hq) ?_ ?_
            · intro i oo hi ho A f W' hf hdep hcl hR hr hx K hK
              have hRc := hR.1
              have hLW : L2 ≤ W'.heap.size := Nat.le_trans HLW.out hRc.size
              have hT6 : W'.heap[T6]? = some (.cells #[.int .u64 i1, .int .u64 i2, v2] 193 (0, 0)) := (hRc.block T6 (blk_lt HB63.out) HDBK.out).trans HB63.out
              have hT8 : W'.heap[T8]? = some (.cells #[.int .i64 r1, .int .i64 r2, .slice A2 m2 c2] 201 (0, 0)) := (hRc.block T8 (blk_lt HN8.out) HTBK.out).trans HN8.out
              have hints : Els W' 1 isInt A2 m2 := HIN.out.ch ((HCI.out.trans HCA.out).fresh hRc (fun i hi => .inl (HOL.out i hi).1))
              exact match i, hi, ho with
                  | 0, _, ho => by
                    obtain rfl := Option.some.inj ho
                    have e6 : A.tmps[6]?.getD undef = .pointer (some ⟨T6, 0, none⟩) := (eval_getD A 6).symm.trans (hx 6 (by decide))
                    unfold Oper.wp execOp
                    go_simp
                    have hcc : Ch (fun _ => False) W' _ := Ch.refl _ _
                    exact hK _ _ (fun d hd => by cases hd; exact rfl) (appR_step (by decide) hcc hR) (fun d _ _ h => rep_stay hcc h)
                  | 1, _, ho => by
                    obtain rfl := Option.some.inj ho
                    have e82 : A.tmps[82]?.getD undef = .pointer (some ⟨T6, 2, none⟩) := (eval_getD A 82).symm.trans (hr 82 (by decide) (by decide))
                    have hl0 := blk_cell (j := 2) hT6 rfl
                    unfold Oper.wp execOp
                    go_simp
                    have hfa : f 11 = false := Bool.eq_false_iff.2 (fun h => by have h1 := hcl 11 h 1 (by decide); rw [hf] at h1; cases h1)
                    have hcc : Ch (fun _ => False) W' _ := Ch.refl _ _
                    exact hK _ _ (fun d hd => by cases hd; exact .inr ⟨rfl, hR.2.resolve_left (by rw [hfa]; decide)⟩) (appR_step (by decide) hcc hR) (fun d _ _ h => rep_stay hcc h)
                  | 2, _, ho => by
                    obtain rfl := Option.some.inj ho
                    have e8 : A.tmps[8]?.getD undef = .pointer (some ⟨T8, 0, none⟩) := (eval_getD A 8).symm.trans (hx 8 (by decide))
                    unfold Oper.wp execOp
                    go_simp
                    have hcc : Ch (fun _ => False) W' _ := Ch.refl _ _
                    exact hK _ _ (fun d hd => by cases hd; exact rfl) (appR_step (by decide) hcc hR) (fun d _ _ h => rep_stay hcc h)
                  | 3, _, ho => by
                    obtain rfl := Option.some.inj ho
                    have e84 : A.tmps[84]?.getD undef = .pointer (some ⟨T8, 0, none⟩) := (eval_getD A 84).symm.trans (hr 84 (by decide) (by decide))
                    have l0 : W'.cell? ⟨T8, 0, none⟩ = some (.int .i64 r1) := blk_cell hT8 rfl
                    unfold Oper.wp execOp
                    go_simp
                    have hcc : Ch (fun _ => False) W' _ := Ch.refl _ _
                    exact hK _ _ (fun d hd => by cases hd; exact rfl) (appR_step (by decide) hcc hR) (fun d _ _ h => rep_stay hcc h)
                  | 4, _, ho => by
                    obtain rfl := Option.some.inj ho
                    have e8 : A.tmps[8]?.getD undef = .pointer (some ⟨T8, 0, none⟩) := (eval_getD A 8).symm.trans (hx 8 (by decide))
                    unfold Oper.wp execOp
                    go_simp
                    have hcc : Ch (fun _ => False) W' _ := Ch.refl _ _
                    exact hK _ _ (fun d hd => by cases hd; exact rfl) (appR_step (by decide) hcc hR) (fun d _ _ h => rep_stay hcc h)
                  | 5, _, ho => by
                    obtain rfl := Option.some.inj ho
                    have e86 : A.tmps[86]?.getD undef = .pointer (some ⟨T8, 1, none⟩) := (eval_getD A 86).symm.trans (hr 86 (by decide) (by decide))
                    have l0 : W'.cell? ⟨T8, 1, none⟩ = some (.int .i64 r2) := blk_cell hT8 rfl
                    unfold Oper.wp execOp
                    go_simp
                    have hcc : Ch (fun _ => False) W' _ := Ch.refl _ _
                    exact hK _ _ (fun d hd => by cases hd; exact rfl) (appR_step (by decide) hcc hR) (fun d _ _ h => rep_stay hcc h)
                  | 6, _, ho => by
                    obtain rfl := Option.some.inj ho
                    have e8 : A.tmps[8]?.getD undef = .pointer (some ⟨T8, 0, none⟩) := (eval_getD A 8).symm.trans (hx 8 (by decide))
                    unfold Oper.wp execOp
                    go_simp
                    have hcc : Ch (fun _ => False) W' _ := Ch.refl _ _
                    exact hK _ _ (fun d hd => by cases hd; exact rfl) (appR_step (by decide) hcc hR) (fun d _ _ h => rep_stay hcc h)
                  | 7, _, ho => by
                    obtain rfl := Option.some.inj ho
                    have e88 : A.tmps[88]?.getD undef = .pointer (some ⟨T8, 2, none⟩) := (eval_getD A 88).symm.trans (hr 88 (by decide) (by decide))
                    have l0 : W'.cell? ⟨T8, 2, none⟩ = some (.slice A2 m2 c2) := blk_cell hT8 rfl
                    unfold Oper.wp execOp
                    go_simp
                    have hcc : Ch (fun _ => False) W' _ := Ch.refl _ _
                    exact hK _ _ (fun d hd => by cases hd; exact rfl) (appR_step (by decide) hcc hR) (fun d _ _ h => rep_stay hcc h)
                  | 8, _, ho => by
                    obtain rfl := Option.some.inj ho
                    have e89 : A.tmps[89]?.getD undef = .slice A2 m2 c2 := (eval_getD A 89).symm.trans (hr 89 (by decide) (by decide))
                    unfold Oper.wp execOp
                    go_simp
                    (go_at_call 96; refine (cloneInts_any hm2 hints).mono ?_; rintro e W2 ⟨S, m, c, rfl, hcp⟩)
                    have hcc : Ch (fun _ => False) W' _ := hcp
                    exact hK _ _ (fun d hd => by cases hd; exact ⟨_, _, _, rfl⟩) (appR_step (by decide) hcc hR) (fun d _ _ h => rep_stay hcc h)
                  | 9, _, ho => by
                    obtain rfl := Option.some.inj ho
                    have e85 : A.tmps[85]?.getD undef = .int .i64 r1 := (eval_getD A 85).symm.trans (hr 85 (by decide) (by decide))
                    have e87 : A.tmps[87]?.getD undef = .int .i64 r2 := (eval_getD A 87).symm.trans (hr 87 (by decide) (by decide))
                    obtain ⟨S90, m90, c90, eq90_⟩ : ∃ (S : Option Addr) (m : Nat) (c : Nat), A.eval (.tmp 90) = .slice S m c := hr 90 (by decide) (by decide)
                    have e90 : A.tmps[90]?.getD undef = .slice S90 m90 c90 := (eval_getD A 90).symm.trans eq90_
                    unfold Oper.wp execOp
                    go_simp
                    have hcc : Ch (fun _ => False) W' _ := Ch.refl _ _
                    exact hK _ _ (fun d hd => by cases hd; exact ⟨_, _, _, rfl⟩) (appR_step (by decide) hcc hR) (fun d _ _ h => rep_stay hcc h)
                  | 10, _, ho => by
                    obtain rfl := Option.some.inj ho
                    obtain ⟨S91, m91, c91, eq91_⟩ : ∃ (S : Option Addr) (m : Nat) (c : Nat), A.eval (.tmp 91) = .agg #[.int .i64 r1, .int .i64 r2, .slice S m c] := hr 91 (by decide) (by decide)
                    have e91 : A.tmps[91]?.getD undef = .agg #[.int .i64 r1, .int .i64 r2, .slice S91 m91 c91] := (eval_getD A 91).symm.trans eq91_
                    unfold Oper.wp execOp
                    go_simp
                    have hcc : Ch (fun _ => False) W' (W'.alloc (.cells #[.int .i64 r1, .int .i64 r2, .slice S91 m91 c91] 199)) := Ch.grown (World.grownBy_alloc _ _ none) (by simp)
                    exact hK _ _ (fun d hd => by cases hd; exact .inr ⟨_, S91, m91, c91, rfl, heap_alloc_new _ _⟩) (appR_step (by decide) hcc hR) (fun d _ _ h => rep_stay hcc h)
                  | 11, _, ho => by
                    obtain rfl := Option.some.inj ho
                    have hls : f 11 = true ∨ (A.eval (.tmp 83) = v2 ∧ W'.ownsRow L2 199 3 v2 j2 xs2) := hr 83 (by decide) (by decide)
                    obtain ⟨els, hown⟩ := hls.resolve_left (by rw [hf]; decide)
                    have hbs : f 11 = true ∨ ∃ (k : Nat) (S : Option Addr) (m : Nat) (c : Nat), A.eval (.tmp 92) = .slice (some ⟨k, 0, none⟩) 1 1 ∧ W'.heap[k]? = some (.cells #[.int .i64 r1, .int .i64 r2, .slice S m c] 199 (0, 0)) := hr 92 (by decide) (by decide)
                    obtain ⟨k, S, m, c, ebs, hk⟩ := hbs.resolve_left (by rw [hf]; decide)
                    obtain ⟨i0, hi0, hz0, hz1, hz2⟩ := info_parts info199_c
                    refine wp_append_lies _ (.tmp 83) (.tmp 92) 191 rfl L2 199 i0 _ 3 40 Tryz.underlying191 hi0 hz0 hz1 hz2 rfl (by decide) v2 j2 xs2 els hown ⟨k, 0, none⟩ 1 1 [.int .i64 r1, .int .i64 r2, .slice S m c] ebs rfl (World.news_of_block hk) (by simp [Value.oneCell']) (by decide) (by unfold maxLen; omega) (by omega) hLW _ rfl ?_
                    intro g cap W2 hown2 hgrow2 hat hlt
                    have hco : Ch (fun j => v2.ownBlock = some j) W' W2 := Ch.grown hgrow2 (fun j hj => hj)
                    exact hK _ _ (fun d hd => by cases hd; exact ⟨by simp [upd], S, m, c, hown2⟩) (appR_app hco hR) (fun d _ hne h => rep_stayA (fun e => hne (by subst e; rfl)) hown hco h)
                  | 12, _, ho => by
                    obtain rfl := Option.some.inj ho
                    have e6 : A.tmps[6]?.getD undef = .pointer (some ⟨T6, 0, none⟩) := (eval_getD A 6).symm.trans (hx 6 (by decide))
                    unfold Oper.wp execOp
                    go_simp
                    have hcc : Ch (fun _ => False) W' _ := Ch.refl _ _
                    exact hK _ _ (fun d hd => by cases hd; exact rfl) (appR_step (by decide) hcc hR) (fun d _ _ h => rep_stay hcc h)
                  | j2 + 13, hi, _ => absurd hi (by omega)
            · intro oo ho u f W3 hfa hR hu
              obtain rfl := Option.some.inj ho
              have hap : f 11 = true ∧ (∃ (S : Option Addr) (m : Nat) (c : Nat), W3.ownsRow L2 199 3 (u 93) (j2 + 1) (xs2 ++ [.int .i64 r1, .int .i64 r2, .slice S m c])) := hu 93 (by decide)
              have hRc := hR.1
              have hv1 : u 94 = .pointer (some ⟨T6, 2, none⟩) := hu 94 (by decide)
              have hb3 : W3.heap[T6]? = some (.cells #[.int .u64 i1, .int .u64 i2, v2] 193 (0, 0)) := (hRc.block T6 (blk_lt HB63.out) HDBK.out).trans HB63.out
              have hf3 : W3.frozen? ⟨T6, 2, none⟩ = false := blk_frozen hb3
              have hc3 : W3.cell? ⟨T6, 2, none⟩ = some v2 := blk_cell hb3 HVC.out
              have HB3 := Lib.hid hb3
              have HRC := Lib.hid hRc
              obtain ⟨S, m, c, ho9⟩ := hap.2
              obtain ⟨g9, cap9, hvn⟩ := own_form ho9
              rw [hvn] at ho9
              have HO9a := Lib.hid ho9
              clear hR hu hfa hb3 hRc hap ho9
              rw [rep_frame, hv1, hvn]
              unfold Oper.wp execOp
              go_simp
              clear hv1 hf3 hc3 hvn
              obtain ⟨vn, hvn⟩ : ∃ vn, Value.slice (some ⟨g9, 0, none⟩) (j2 + 1) cap9 = vn := ⟨_, rfl⟩
              rw [hvn] at HO9a ⊢
              have ho9 := HO9a.out
              have hset := blk_set (j := 2) vn HB3.out
              clear hvn
              have hne9 := own_not ho9 HB3.out (by decide)
              have ho9' := owns_same (w' := W3.setCell ⟨T6, 2, none⟩ vn) ho9 (fun k hk => blk_set_other vn (fun e => hne9 (by rw [hk, e])))
              have hch9 : Ch (fun k => k = T6) W2 (W3.setCell ⟨T6, 2, none⟩ vn) := (((HCH2.out.trans (HCA.out.mono (fun _ h => h.elim))).fresh HRC.out (fun i hi => .inl (HOL.out i hi).2)).trans (Ch.set (S := fun k => k = T6) (k := T6) _ rfl _))
              have HSET := Lib.hid hset
              have HO9 := Lib.hid ho9'
              have HCH9 := Lib.hid hch9
              clear hset ho9 ho9' hch9 hne9
              go_wp2_with fail
              go_roundg (m1 - (j2 + 1))
              case measure => have := HG2.out; omega
              case rel => exact ⟨j2 + 1, rfl, by omega, by simp, vn, _, HSET.out, HO9.out, HCH9.out⟩
          · obtain ⟨S2, d2, rfl⟩ := own_slice HOWN2.out
            go_upto_region 11 with fail
            have HDX := Lib.hid ((HCH2.out.block _ (blk_lt HDW2.out) HDT6.out).trans HDW2.out)
            have HOWN := Lib.hid (owns_same HOW2.out (fun k hk => HCH2.out.block k (HOW2.out.lt k hk).2 (HOT6.out k hk)))
            have HLW := Lib.hid (show L ≤ wr.heap.size by rw [← HLS.out]; exact Nat.le_trans HCH2'.out.size HCH2.out.size)
            have HDBK := Lib.hid (show v.ownBlock ≠ some D from own_not HOWN.out HDX.out (by decide))
            have HTBK := Lib.hid (show v.ownBlock ≠ some T6 from fun h => HOT6.out T6 h rfl)
            have HVC := Lib.hid HV.out.2.1
            have HOL := Lib.hid (show ∀ i, v.ownBlock = some i → W1.heap.size ≤ i from fun i hi => by have h1 := (HOWN.out.lt i hi).1; have := HLS.out; omega)
            have hj31 : j ≤ 2147483647 := by omega
            refine wp_region_ops8 (by kernel_rfl) [96, 97, 98, 99, 100, 101, 102, 103, 104, 105] 10 [] (by kernel_rfl) (by kernel_rfl) (by kernel_rfl) (timT D i1 i2 (Value.slice S2 j2 d2) L j v xs) (appR L 193 3 j v xs 7 wr) ⟨Ch.of_heap (Ch.refl _ wr) rfl rfl rfl rfl, .inr HOWN.out⟩ (fun q hq => by cases hq) ?_ ?_
            · intro i oo hi ho A f W' hf hdep hcl hR hr hx K hK
              have hRc := hR.1
              have hLW : L ≤ W'.heap.size := Nat.le_trans HLW.out hRc.size
              have hD : W'.heap[D]? = some (.cells cs 108 (0, 0)) := (hRc.block D (blk_lt HDX.out) HDBK.out).trans HDX.out
              have hDv := HVC.out
              have hT6 : W'.heap[T6]? = some (.cells #[.int .u64 i1, .int .u64 i2, .slice S2 j2 d2] 193 (0, 0)) := (hRc.block T6 (blk_lt HB6.out) HTBK.out).trans HB6.out
              exact match i, hi, ho with
                  | 0, _, ho => by
                    obtain rfl := Option.some.inj ho
                    have e3 : A.tmps[3]?.getD undef = .pointer (some ⟨D, 0, none⟩) := (eval_getD A 3).symm.trans (hx 3 (by decide))
                    unfold Oper.wp execOp
                    go_simp
                    have hcc : Ch (fun _ => False) W' _ := Ch.refl _ _
                    exact hK _ _ (fun d hd => by cases hd; exact rfl) (appR_step (by decide) hcc hR) (fun d _ _ h => tim_stay hcc h)
                  | 1, _, ho => by
                    obtain rfl := Option.some.inj ho
                    have e3 : A.tmps[3]?.getD undef = .pointer (some ⟨D, 0, none⟩) := (eval_getD A 3).symm.trans (hx 3 (by decide))
                    unfold Oper.wp execOp
                    go_simp
                    have hcc : Ch (fun _ => False) W' _ := Ch.refl _ _
                    exact hK _ _ (fun d hd => by cases hd; exact rfl) (appR_step (by decide) hcc hR) (fun d _ _ h => tim_stay hcc h)
                  | 2, _, ho => by
                    obtain rfl := Option.some.inj ho
                    have e97 : A.tmps[97]?.getD undef = .pointer (some ⟨D, 0, none⟩) := (eval_getD A 97).symm.trans (hr 97 (by decide) (by decide))
                    unfold Oper.wp execOp
                    go_simp
                    have hcc : Ch (fun _ => False) W' _ := Ch.refl _ _
                    exact hK _ _ (fun d hd => by cases hd; exact rfl) (appR_step (by decide) hcc hR) (fun d _ _ h => tim_stay hcc h)
                  | 3, _, ho => by
                    obtain rfl := Option.some.inj ho
                    have e98 : A.tmps[98]?.getD undef = .pointer (some ⟨D, 0, none⟩) := (eval_getD A 98).symm.trans (hr 98 (by decide) (by decide))
                    unfold Oper.wp execOp
                    go_simp
                    have hcc : Ch (fun _ => False) W' _ := Ch.refl _ _
                    exact hK _ _ (fun d hd => by cases hd; exact rfl) (appR_step (by decide) hcc hR) (fun d _ _ h => tim_stay hcc h)
                  | 4, _, ho => by
                    obtain rfl := Option.some.inj ho
                    have e99 : A.tmps[99]?.getD undef = .pointer (some ⟨D, 14, none⟩) := (eval_getD A 99).symm.trans (hr 99 (by decide) (by decide))
                    have hl0 := blk_cell hD hDv
                    unfold Oper.wp execOp
                    go_simp
                    have hfa : f 7 = false := Bool.eq_false_iff.2 (fun h => by have h1 := hcl 7 h 4 (by decide); rw [hf] at h1; cases h1)
                    have hcc : Ch (fun _ => False) W' _ := Ch.refl _ _
                    exact hK _ _ (fun d hd => by cases hd; exact .inr ⟨rfl, hR.2.resolve_left (by rw [hfa]; decide)⟩) (appR_step (by decide) hcc hR) (fun d _ _ h => tim_stay hcc h)
                  | 5, _, ho => by
                    obtain rfl := Option.some.inj ho
                    have l0 : W'.cell? ⟨T6, 0, none⟩ = some (.int .u64 i1) := blk_cell hT6 rfl
                    have l1 : W'.cell? ⟨T6, 1, none⟩ = some (.int .u64 i2) := blk_cell hT6 rfl
                    have l2 : W'.cell? ⟨T6, 2, none⟩ = some ((Value.slice S2 j2 d2)) := blk_cell hT6 rfl
                    have e6 : A.tmps[6]?.getD undef = .pointer (some ⟨T6, 0, none⟩) := (eval_getD A 6).symm.trans (hx 6 (by decide))
                    unfold Oper.wp execOp
                    go_simp
                    have hcc : Ch (fun _ => False) W' _ := Ch.refl _ _
                    exact hK _ _ (fun d hd => by cases hd; exact rfl) (appR_step (by decide) hcc hR) (fun d _ _ h => tim_stay hcc h)
                  | 6, _, ho => by
                    obtain rfl := Option.some.inj ho
                    have e101 : A.tmps[101]?.getD undef = .agg #[.int .u64 i1, .int .u64 i2, (Value.slice S2 j2 d2)] := (eval_getD A 101).symm.trans (hr 101 (by decide) (by decide))
                    unfold Oper.wp execOp
                    go_simp
                    have hcc : Ch (fun _ => False) W' (W'.alloc (.cells #[.int .u64 i1, .int .u64 i2, (Value.slice S2 j2 d2)] 193)) := Ch.grown (World.grownBy_alloc _ _ none) (by simp)
                    exact hK _ _ (fun d hd => by cases hd; exact .inr ⟨_, rfl, heap_alloc_new _ _⟩) (appR_step (by decide) hcc hR) (fun d _ _ h => tim_stay hcc h)
                  | 7, _, ho => by
                    obtain rfl := Option.some.inj ho
                    have hls : f 7 = true ∨ (A.eval (.tmp 100) = v ∧ W'.ownsRow L 193 3 v j xs) := hr 100 (by decide) (by decide)
                    obtain ⟨els, hown⟩ := hls.resolve_left (by rw [hf]; decide)
                    have hbs : f 7 = true ∨ ∃ (k : Nat) , A.eval (.tmp 102) = .slice (some ⟨k, 0, none⟩) 1 1 ∧ W'.heap[k]? = some (.cells #[.int .u64 i1, .int .u64 i2, (Value.slice S2 j2 d2)] 193 (0, 0)) := hr 102 (by decide) (by decide)
                    obtain ⟨k, ebs, hk⟩ := hbs.resolve_left (by rw [hf]; decide)
                    obtain ⟨i0, hi0, hz0, hz1, hz2⟩ := info_parts info193_c
                    refine wp_append_lies _ (.tmp 100) (.tmp 102) 102 rfl L 193 i0 _ 3 40 Tryz.underlying102 hi0 hz0 hz1 hz2 rfl (by decide) v j xs els hown ⟨k, 0, none⟩ 1 1 [.int .u64 i1, .int .u64 i2, (Value.slice S2 j2 d2)] ebs rfl (World.news_of_block hk) (by simp [Value.oneCell']) (by decide) (by unfold maxLen; omega) (by omega) hLW _ rfl ?_
                    intro g cap W2 hown2 hgrow2 hat hlt
                    have hco : Ch (fun j => v.ownBlock = some j) W' W2 := Ch.grown hgrow2 (fun j hj => hj)
                    exact hK _ _ (fun d hd => by cases hd; exact ⟨by simp [upd], hown2⟩) (appR_app hco hR) (fun d _ hne h => tim_stayA (fun e => hne (by subst e; rfl)) hown hco h)
                  | 8, _, ho => by
                    obtain rfl := Option.some.inj ho
                    have e96 : A.tmps[96]?.getD undef = .pointer (some ⟨D, 0, none⟩) := (eval_getD A 96).symm.trans (hr 96 (by decide) (by decide))
                    unfold Oper.wp execOp
                    go_simp
                    have hcc : Ch (fun _ => False) W' _ := Ch.refl _ _
                    exact hK _ _ (fun d hd => by cases hd; exact rfl) (appR_step (by decide) hcc hR) (fun d _ _ h => tim_stay hcc h)
                  | 9, _, ho => by
                    obtain rfl := Option.some.inj ho
                    have e104 : A.tmps[104]?.getD undef = .pointer (some ⟨D, 0, none⟩) := (eval_getD A 104).symm.trans (hr 104 (by decide) (by decide))
                    unfold Oper.wp execOp
                    go_simp
                    have hcc : Ch (fun _ => False) W' _ := Ch.refl _ _
                    exact hK _ _ (fun d hd => by cases hd; exact rfl) (appR_step (by decide) hcc hR) (fun d _ _ h => tim_stay hcc h)
                  | j + 10, hi, _ => absurd hi (by omega)
            · intro oo ho u f W3 hfa hR hu
              obtain rfl := Option.some.inj ho
              have hap : f 7 = true ∧ (W3.ownsRow L 193 3 (u 103) (j + 1) (xs ++ [.int .u64 i1, .int .u64 i2, (Value.slice S2 j2 d2)])) := hu 103 (by decide)
              have hRc := hR.1
              have hv1 : u 105 = .pointer (some ⟨D, 14, none⟩) := hu 105 (by decide)
              have hb3 : W3.heap[D]? = some (.cells cs 108 (0, 0)) := (hRc.block D (blk_lt HDX.out) HDBK.out).trans HDX.out
              have hf3 : W3.frozen? ⟨D, 14, none⟩ = false := blk_frozen hb3
              have hc3 : W3.cell? ⟨D, 14, none⟩ = some v := blk_cell hb3 HVC.out
              have HB3 := Lib.hid hb3
              have HRC := Lib.hid hRc
              have ho9 := hap.2
              obtain ⟨g9, cap9, hvn⟩ := own_form ho9
              rw [hvn] at ho9
              have HO9a := Lib.hid ho9
              clear hR hu hfa hb3 hRc hap ho9
              rw [tim_frame, hv1, hvn]
              unfold Oper.wp execOp
              go_simp
              clear hv1 hf3 hc3 hvn
              obtain ⟨vn, hvn⟩ : ∃ vn, Value.slice (some ⟨g9, 0, none⟩) (j + 1) cap9 = vn := ⟨_, rfl⟩
              rw [hvn] at HO9a ⊢
              have ho9 := HO9a.out
              have hset := blk_set (j := 14) vn HB3.out
              clear hvn
              have hne9 := own_not ho9 HB3.out (by decide)
              have ho9' := owns_same (w' := W3.setCell ⟨D, 14, none⟩ vn) ho9 (fun k hk => blk_set_other vn (fun e => hne9 (by rw [hk, e])))
              have hch9 : Ch (fun k => k = D) W1 (W3.setCell ⟨D, 14, none⟩ vn) := (((HCH2'.out.fresh HCH2.out (fun i hi => .inl (by rw [hi]; exact HT6L.out.2))).fresh HRC.out (fun i hi => .inl (HOL.out i hi))).trans (Ch.set (S := fun k => k = D) (k := D) _ rfl _))
              have HSET := Lib.hid hset
              have HO9 := Lib.hid ho9'
              have HCH9 := Lib.hid hch9
              clear hset ho9' hch9 hne9
              go_wp2_with fail
              go_roundg (n7 - (j + 1))
              case measure => have := HG.out; omega
              case rel => exact ⟨j + 1, rfl, by omega, by simp, _, vn, _, HSET.out, ⟨by rw [Array.size_setIfInBounds]; exact HV.out.1, set_eq (by rw [HV.out.1]; decide), (set_ne (by decide)).trans HV.out.2.2.1, (set_ne (by decide)).trans HV.out.2.2.2.1, (set_ne (by decide)).trans HV.out.2.2.2.2⟩, HO9.out, HCH9.out⟩
      · generalize wr = Wt at *
        obtain ⟨Lz, hLz⟩ : ∃ Lz, Wt.heap.size = Lz := ⟨_, rfl⟩
        have HLSz := Lib.hid hLz
        have HBt := Lib.hid ((HCH.out.block B (blk_lt HB1.out) HBD.out).trans HB1.out)
        have q15 : Wt.cell? ⟨B, 15, none⟩ = some (.slice A8 n8 c8) := blk_cell HBt.out rfl
        clear hLz HG HOWN1
        go_wp2_with fail
        clear q15
        go_loopg [10, 110] n8 (fun g _ x wr => ∃ j : Nat, g = n8 - j ∧ j ≤ n8 ∧ x = .int .i64 j ∧ ∃ (cs : Array Value) (v : Value) (xs : List Value), wr.heap[D]? = some (.cells cs 108 (0, 0)) ∧ (cs.size = 19 ∧ cs[15]? = some v ∧ cs[17]? = some (.slice SA la.length ca) ∧ cs[18]? = some (.slice none 0 0)) ∧ wr.ownsRow Lz 203 2 v j xs ∧ Ch (fun k => k = D) Wt wr)
        case atStart => exact ⟨0, rfl, Nat.zero_le _, rfl, cs, _, [], HD2.out, ⟨HV.out.1, HV.out.2.2.1, HV.out.2.2.2.1, HV.out.2.2.2.2⟩, World.ownsRow_nil _ _ _ _, Ch.refl _ _⟩
        case round =>
          clear HD2 HV
          obtain ⟨j2, hg, hj2, rfl, cs2, v, xs, hD, hcs, hown, hch⟩ := hrel
          have HG := Lib.hid hg
          have HD2 := Lib.hid hD
          have HV := Lib.hid hcs
          have HOWN1 := Lib.hid hown
          have HCH2 := Lib.hid hch
          clear hg hD hcs hown hch
          have HCW2 := Lib.hid (show Ch (fun _ => False) w wr from HCW.out.fresh HCH2.out (fun i hi => .inl (by rw [hi, HBS.out]; exact HDB.out)))
          by_cases hlt2 : j2 < n8
          · obtain ⟨b, o, cs0, rfl, -, ⟨i1, i2, rfl⟩, hc⟩ := HM.out.r8 j2 hlt2
            have k0 := HCW2.out.cell0 (hc 0 _ rfl)
            have k1 := HCW2.out.cell0 (hc 1 _ rfl)
            rw [Nat.add_zero] at k0
            rw [← Nat.add_assoc] at k1
            have hcA : Ch (fun _ => False) wr (wr.alloc (.cells #[.int .u64 i1, .int .i64 i2] 204)) := Ch.grown (World.grownBy_alloc _ _ none) (by simp)
            have HN8 := Lib.hid (show (wr.alloc (.cells #[.int .u64 i1, .int .i64 i2] 204)).heap[wr.heap.size]? = some (.cells #[.int .u64 i1, .int .i64 i2] 204 (0, 0)) from heap_alloc_new _ _)
            have HCA := Lib.hid hcA
            clear hc hcA
            go_upto_region 16 with fail
            clear k0 k1
            have HOWN := Lib.hid (own_ch HOWN1.out HCA.out)
            have HDX := Lib.hid ((HCA.out.block _ (blk_lt HD2.out) id).trans HD2.out)
            have HLW := Lib.hid (show Lz ≤ (wr.alloc (.cells #[.int .u64 i1, .int .i64 i2] 204)).heap.size by rw [← HLSz.out]; exact Nat.le_trans HCH2.out.size HCA.out.size)
            generalize (wr.alloc (.cells #[.int .u64 i1, .int .i64 i2] 204)) = W3' at *
            obtain ⟨T10, hT10⟩ : ∃ T10, wr.heap.size = T10 := ⟨_, rfl⟩
            rw [hT10] at HN8 ⊢
            clear hT10
            have HDBK := Lib.hid (show v.ownBlock ≠ some D from own_not HOWN.out HDX.out (by decide))
            have HTBK := Lib.hid (show v.ownBlock ≠ some T10 from own_not HOWN.out HN8.out (by decide))
            have HVC := Lib.hid HV.out.2.1
            have HOL := Lib.hid (show ∀ i, v.ownBlock = some i → Wt.heap.size ≤ i from fun i hi => by have h1 := (HOWN.out.lt i hi).1; have := HLSz.out; omega)
            refine wp_region_ops8 (by kernel_rfl) [114, 115, 116, 117, 118, 119, 120, 121, 122, 123, 124, 125, 126, 127] 14 [] (by kernel_rfl) (by kernel_rfl) (by kernel_rfl) (zonT D T10 i1 i2 Lz j2 v xs) (appR Lz 203 2 j2 v xs 11 W3') ⟨Ch.of_heap (Ch.refl _ W3') rfl rfl rfl rfl, .inr HOWN.out⟩ (fun q hq => by cases hq) ?_ ?_
            · intro i oo hi ho A f W' hf hdep hcl hR hr hx K hK
              have hRc := hR.1
              have hLW : Lz ≤ W'.heap.size := Nat.le_trans HLW.out hRc.size
              have hD : W'.heap[D]? = some (.cells cs2 108 (0, 0)) := (hRc.block D (blk_lt HDX.out) HDBK.out).trans HDX.out
              have hDv := HVC.out
              have hT10 : W'.heap[T10]? = some (.cells #[.int .u64 i1, .int .i64 i2] 204 (0, 0)) := (hRc.block T10 (blk_lt HN8.out) HTBK.out).trans HN8.out
              exact match i, hi, ho with
                  | 0, _, ho => by
                    obtain rfl := Option.some.inj ho
                    have e3 : A.tmps[3]?.getD undef = .pointer (some ⟨D, 0, none⟩) := (eval_getD A 3).symm.trans (hx 3 (by decide))
                    unfold Oper.wp execOp
                    go_simp
                    have hcc : Ch (fun _ => False) W' _ := Ch.refl _ _
                    exact hK _ _ (fun d hd => by cases hd; exact rfl) (appR_step (by decide) hcc hR) (fun d _ _ h => zon_stay hcc h)
                  | 1, _, ho => by
                    obtain rfl := Option.some.inj ho
                    have e3 : A.tmps[3]?.getD undef = .pointer (some ⟨D, 0, none⟩) := (eval_getD A 3).symm.trans (hx 3 (by decide))
                    unfold Oper.wp execOp
                    go_simp
                    have hcc : Ch (fun _ => False) W' _ := Ch.refl _ _
                    exact hK _ _ (fun d hd => by cases hd; exact rfl) (appR_step (by decide) hcc hR) (fun d _ _ h => zon_stay hcc h)
                  | 2, _, ho => by
                    obtain rfl := Option.some.inj ho
                    have e115 : A.tmps[115]?.getD undef = .pointer (some ⟨D, 0, none⟩) := (eval_getD A 115).symm.trans (hr 115 (by decide) (by decide))
                    unfold Oper.wp execOp
                    go_simp
                    have hcc : Ch (fun _ => False) W' _ := Ch.refl _ _
                    exact hK _ _ (fun d hd => by cases hd; exact rfl) (appR_step (by decide) hcc hR) (fun d _ _ h => zon_stay hcc h)
                  | 3, _, ho => by
                    obtain rfl := Option.some.inj ho
                    have e116 : A.tmps[116]?.getD undef = .pointer (some ⟨D, 0, none⟩) := (eval_getD A 116).symm.trans (hr 116 (by decide) (by decide))
                    unfold Oper.wp execOp
                    go_simp
                    have hcc : Ch (fun _ => False) W' _ := Ch.refl _ _
                    exact hK _ _ (fun d hd => by cases hd; exact rfl) (appR_step (by decide) hcc hR) (fun d _ _ h => zon_stay hcc h)
                  | 4, _, ho => by
                    obtain rfl := Option.some.inj ho
                    have e117 : A.tmps[117]?.getD undef = .pointer (some ⟨D, 15, none⟩) := (eval_getD A 117).symm.trans (hr 117 (by decide) (by decide))
                    have hl0 := blk_cell hD hDv
                    unfold Oper.wp execOp
                    go_simp
                    have hfa : f 11 = false := Bool.eq_false_iff.2 (fun h => by have h1 := hcl 11 h 4 (by decide); rw [hf] at h1; cases h1)
                    have hcc : Ch (fun _ => False) W' _ := Ch.refl _ _
                    exact hK _ _ (fun d hd => by cases hd; exact .inr ⟨rfl, hR.2.resolve_left (by rw [hfa]; decide)⟩) (appR_step (by decide) hcc hR) (fun d _ _ h => zon_stay hcc h)
                  | 5, _, ho => by
                    obtain rfl := Option.some.inj ho
                    have e10 : A.tmps[10]?.getD undef = .pointer (some ⟨T10, 0, none⟩) := (eval_getD A 10).symm.trans (hx 10 (by decide))
                    unfold Oper.wp execOp
                    go_simp
                    have hcc : Ch (fun _ => False) W' _ := Ch.refl _ _
                    exact hK _ _ (fun d hd => by cases hd; exact rfl) (appR_step (by decide) hcc hR) (fun d _ _ h => zon_stay hcc h)
                  | 6, _, ho => by
                    obtain rfl := Option.some.inj ho
                    have e119 : A.tmps[119]?.getD undef = .pointer (some ⟨T10, 0, none⟩) := (eval_getD A 119).symm.trans (hr 119 (by decide) (by decide))
                    have l0 : W'.cell? ⟨T10, 0, none⟩ = some (.int .u64 i1) := blk_cell hT10 rfl
                    unfold Oper.wp execOp
                    go_simp
                    have hcc : Ch (fun _ => False) W' _ := Ch.refl _ _
                    exact hK _ _ (fun d hd => by cases hd; exact rfl) (appR_step (by decide) hcc hR) (fun d _ _ h => zon_stay hcc h)
                  | 7, _, ho => by
                    obtain rfl := Option.some.inj ho
                    have e10 : A.tmps[10]?.getD undef = .pointer (some ⟨T10, 0, none⟩) := (eval_getD A 10).symm.trans (hx 10 (by decide))
                    unfold Oper.wp execOp
                    go_simp
                    have hcc : Ch (fun _ => False) W' _ := Ch.refl _ _
                    exact hK _ _ (fun d hd => by cases hd; exact rfl) (appR_step (by decide) hcc hR) (fun d _ _ h => zon_stay hcc h)
                  | 8, _, ho => by
                    obtain rfl := Option.some.inj ho
                    have e121 : A.tmps[121]?.getD undef = .pointer (some ⟨T10, 1, none⟩) := (eval_getD A 121).symm.trans (hr 121 (by decide) (by decide))
                    have l0 : W'.cell? ⟨T10, 1, none⟩ = some (.int .i64 i2) := blk_cell hT10 rfl
                    unfold Oper.wp execOp
                    go_simp
                    have hcc : Ch (fun _ => False) W' _ := Ch.refl _ _
                    exact hK _ _ (fun d hd => by cases hd; exact rfl) (appR_step (by decide) hcc hR) (fun d _ _ h => zon_stay hcc h)
                  | 9, _, ho => by
                    obtain rfl := Option.some.inj ho
                    have e120 : A.tmps[120]?.getD undef = .int .u64 i1 := (eval_getD A 120).symm.trans (hr 120 (by decide) (by decide))
                    have e122 : A.tmps[122]?.getD undef = .int .i64 i2 := (eval_getD A 122).symm.trans (hr 122 (by decide) (by decide))
                    unfold Oper.wp execOp
                    go_simp
                    have hcc : Ch (fun _ => False) W' _ := Ch.refl _ _
                    exact hK _ _ (fun d hd => by cases hd; exact rfl) (appR_step (by decide) hcc hR) (fun d _ _ h => zon_stay hcc h)
                  | 10, _, ho => by
                    obtain rfl := Option.some.inj ho
                    have e123 : A.tmps[123]?.getD undef = .agg #[.int .u64 i1, .int .i64 i2] := (eval_getD A 123).symm.trans (hr 123 (by decide) (by decide))
                    unfold Oper.wp execOp
                    go_simp
                    have hcc : Ch (fun _ => False) W' (W'.alloc (.cells #[.int .u64 i1, .int .i64 i2] 203)) := Ch.grown (World.grownBy_alloc _ _ none) (by simp)
                    exact hK _ _ (fun d hd => by cases hd; exact .inr ⟨_, rfl, heap_alloc_new _ _⟩) (appR_step (by decide) hcc hR) (fun d _ _ h => zon_stay hcc h)
                  | 11, _, ho => by
                    obtain rfl := Option.some.inj ho
                    have hls : f 11 = true ∨ (A.eval (.tmp 118) = v ∧ W'.ownsRow Lz 203 2 v j2 xs) := hr 118 (by decide) (by decide)
                    obtain ⟨els, hown⟩ := hls.resolve_left (by rw [hf]; decide)
                    have hbs : f 11 = true ∨ ∃ (k : Nat) , A.eval (.tmp 124) = .slice (some ⟨k, 0, none⟩) 1 1 ∧ W'.heap[k]? = some (.cells #[.int .u64 i1, .int .i64 i2] 203 (0, 0)) := hr 124 (by decide) (by decide)
                    obtain ⟨k, ebs, hk⟩ := hbs.resolve_left (by rw [hf]; decide)
                    obtain ⟨i0, hi0, hz0, hz1, hz2⟩ := info_parts info203_c
                    refine wp_append_lies _ (.tmp 118) (.tmp 124) 103 rfl Lz 203 i0 _ 2 16 Tryz.underlying103 hi0 hz0 hz1 hz2 rfl (by decide) v j2 xs els hown ⟨k, 0, none⟩ 1 1 [.int .u64 i1, .int .i64 i2] ebs rfl (World.news_of_block hk) (by simp [Value.oneCell']) (by decide) (by unfold maxLen; omega) (by omega) hLW _ rfl ?_
                    intro g cap W2 hown2 hgrow2 hat hlt
                    have hco : Ch (fun j => v.ownBlock = some j) W' W2 := Ch.grown hgrow2 (fun j hj => hj)
                    exact hK _ _ (fun d hd => by cases hd; exact ⟨by simp [upd], hown2⟩) (appR_app hco hR) (fun d _ hne h => zon_stayA (fun e => hne (by subst e; rfl)) hown hco h)
                  | 12, _, ho => by
                    obtain rfl := Option.some.inj ho
                    have e114 : A.tmps[114]?.getD undef = .pointer (some ⟨D, 0, none⟩) := (eval_getD A 114).symm.trans (hr 114 (by decide) (by decide))
                    unfold Oper.wp execOp
                    go_simp
                    have hcc : Ch (fun _ => False) W' _ := Ch.refl _ _
                    exact hK _ _ (fun d hd => by cases hd; exact rfl) (appR_step (by decide) hcc hR) (fun d _ _ h => zon_stay hcc h)
                  | 13, _, ho => by
                    obtain rfl := Option.some.inj ho
                    have e126 : A.tmps[126]?.getD undef = .pointer (some ⟨D, 0, none⟩) := (eval_getD A 126).symm.trans (hr 126 (by decide) (by decide))
                    unfold Oper.wp execOp
                    go_simp
                    have hcc : Ch (fun _ => False) W' _ := Ch.refl _ _
                    exact hK _ _ (fun d hd => by cases hd; exact rfl) (appR_step (by decide) hcc hR) (fun d _ _ h => zon_stay hcc h)
                  | j2 + 14, hi, _ => absurd hi (by omega)
            · intro oo ho u f W3 hfa hR hu
              obtain rfl := Option.some.inj ho
              have hap : f 11 = true ∧ (W3.ownsRow Lz 203 2 (u 125) (j2 + 1) (xs ++ [.int .u64 i1, .int .i64 i2])) := hu 125 (by decide)
              have hRc := hR.1
              have hv1 : u 127 = .pointer (some ⟨D, 15, none⟩) := hu 127 (by decide)
              have hb3 : W3.heap[D]? = some (.cells cs2 108 (0, 0)) := (hRc.block D (blk_lt HDX.out) HDBK.out).trans HDX.out
              have hf3 : W3.frozen? ⟨D, 15, none⟩ = false := blk_frozen hb3
              have hc3 : W3.cell? ⟨D, 15, none⟩ = some v := blk_cell hb3 HVC.out
              have HB3 := Lib.hid hb3
              have HRC := Lib.hid hRc
              have ho9 := hap.2
              obtain ⟨g9, cap9, hvn⟩ := own_form ho9
              rw [hvn] at ho9
              have HO9a := Lib.hid ho9
              clear hR hu hfa hb3 hRc hap ho9
              rw [zon_frame, hv1, hvn]
              unfold Oper.wp execOp
              go_simp
              clear hv1 hf3 hc3 hvn
              obtain ⟨vn, hvn⟩ : ∃ vn, Value.slice (some ⟨g9, 0, none⟩) (j2 + 1) cap9 = vn := ⟨_, rfl⟩
              rw [hvn] at HO9a ⊢
              have ho9 := HO9a.out
              have hset := blk_set (j := 15) vn HB3.out
              clear hvn
              have hne9 := own_not ho9 HB3.out (by decide)
              have ho9' := owns_same (w' := W3.setCell ⟨D, 15, none⟩ vn) ho9 (fun k hk => blk_set_other vn (fun e => hne9 (by rw [hk, e])))
              have hch9 : Ch (fun k => k = D) Wt (W3.setCell ⟨D, 15, none⟩ vn) := (((HCH2.out.trans (HCA.out.mono (fun _ h => h.elim))).fresh HRC.out (fun i hi => .inl (HOL.out i hi))).trans (Ch.set (S := fun k => k = D) (k := D) _ rfl _))
              have HSET := Lib.hid hset
              have HO9 := Lib.hid ho9'
              have HCH9 := Lib.hid hch9
              clear hset ho9' hch9 hne9
              go_wp2_with fail
              go_roundg (n8 - (j2 + 1))
              case measure => have := HG.out; omega
              case rel => exact ⟨j2 + 1, rfl, by omega, by simp, _, vn, _, HSET.out, ⟨by rw [Array.size_setIfInBounds]; exact HV.out.1, set_eq (by rw [HV.out.1]; decide), (set_ne (by decide)).trans HV.out.2.2.1, (set_ne (by decide)).trans HV.out.2.2.2⟩, HO9.out, HCH9.out⟩
          · generalize wr = Wz at *
            obtain ⟨Lm, hLm⟩ : ∃ Lm, Wz.heap.size = Lm := ⟨_, rfl⟩
            have HLSm := Lib.hid hLm
            have HBz := Lib.hid ((HCH2.out.block B (blk_lt HBt.out) HBD.out).trans HBt.out)
            have q18 : Wz.cell? ⟨B, 18, none⟩ = some (.slice A11 lm.length c11) := blk_cell HBz.out rfl
            clear hLm HG HOWN1
            go_wp2_with fail
            clear q18
            obtain ⟨NM, hNM⟩ : ∃ NM, lm.length = NM := ⟨_, rfl⟩
            have HNM := Lib.hid hNM
            rw [hNM] at hlm ⊢
            go_loopg [12, 132] NM (fun g _ x wr => ∃ j : Nat, g = NM - j ∧ j ≤ NM ∧ x = .int .i64 j ∧ ∃ (cs : Array Value) (v : Value) (ms : List Nat), wr.heap[D]? = some (.cells cs 108 (0, 0)) ∧ (cs.size = 19 ∧ cs[18]? = some v ∧ cs[17]? = some (.slice SA la.length ca)) ∧ wr.ownsRow Lm 145 1 v j (ms.map fun M => Value.pointer (some ⟨M, 0, none⟩)) ∧ (ms.length = j ∧ ∀ (k M : Nat) (l : List (ByteArray × ByteArray)), ms[k]? = some M → lm[k]? = some l → MedAt wr M l) ∧ Ch (fun k => k = D) Wz wr)
            case atStart => exact ⟨0, rfl, Nat.zero_le _, rfl, cs2, _, [], HD2.out, ⟨HV.out.1, HV.out.2.2.2, HV.out.2.2.1⟩, World.ownsRow_nil _ _ _ _, ⟨rfl, fun k M l h => by simp at h⟩, Ch.refl _ _⟩
            case round =>
              clear HD2 HV
              obtain ⟨j3, hg, hj3, rfl, cs3, v, ms, hD, hcs, hown, hms, hch⟩ := hrel
              have HG := Lib.hid hg
              have HD2 := Lib.hid hD
              have HV := Lib.hid hcs
              have HOWN1 := Lib.hid hown
              have HMS := Lib.hid hms
              have HCH3 := Lib.hid hch
              clear hg hD hcs hown hch hms
              have HCW3 := Lib.hid (show Ch (fun _ => False) w wr from HCW2.out.fresh HCH3.out (fun i hi => .inl (by rw [hi, HBS.out]; exact HDB.out)))
              by_cases hlt3 : j3 < NM
              · obtain ⟨lam, hlam⟩ : ∃ l, lm[j3]? = some l := ⟨_, List.getElem?_eq_getElem (by rw [HNM.out]; exact hlt3)⟩
                obtain ⟨b, o, name', port, M1, M2, M3, M4, M5, M6, M7, M8, n1', n2', n3', n4', n5', n6', n7', d1, d2, d3, d4, d5, d6, d7, d8, rfl, hmr, hb2, hb3, hb6, hb8, hl8, hc⟩ := HMD.out j3 lam hlam
                obtain ⟨lp, hlp, hl2⟩ := hmr.r2.strs
                obtain ⟨lf, hlf, hl3⟩ := hmr.r3.strs
                obtain ⟨lbm, hlbm, hl6⟩ := hmr.r6.bands
                subst hlp hlf hlbm
                have k0 := HCW3.out.cell0 (hc 0 _ rfl)
                rw [Nat.add_zero] at k0
                have k1 := HCW3.out.cell0 (hc 1 _ rfl)
                rw [← Nat.add_assoc] at k1
                have k2 := HCW3.out.cell0 (hc 2 _ rfl)
                rw [← Nat.add_assoc] at k2
                have k3 := HCW3.out.cell0 (hc 3 _ rfl)
                rw [← Nat.add_assoc] at k3
                have k4 := HCW3.out.cell0 (hc 4 _ rfl)
                rw [← Nat.add_assoc] at k4
                have k5 := HCW3.out.cell0 (hc 5 _ rfl)
                rw [← Nat.add_assoc] at k5
                have k6 := HCW3.out.cell0 (hc 6 _ rfl)
                rw [← Nat.add_assoc] at k6
                have k7 := HCW3.out.cell0 (hc 7 _ rfl)
                rw [← Nat.add_assoc] at k7
                have k8 := HCW3.out.cell0 (hc 8 _ rfl)
                rw [← Nat.add_assoc] at k8
                have k9 := HCW3.out.cell0 (hc 9 _ rfl)
                rw [← Nat.add_assoc] at k9
                have hcA : Ch (fun _ => False) wr (wr.alloc (.cells #[.string name', .int .i64 port, .slice M1 n1' d1, .slice M2 lp.length d2, .slice M3 lf.length d3, .slice M4 n4' d4, .slice M5 n5' d5, .slice M6 lbm.length d6, .slice M7 n7' d7, .slice M8 lam.length d8] 66)) := Ch.grown (World.grownBy_alloc _ _ none) (by simp)
                have HN8 := Lib.hid (show (wr.alloc (.cells #[.string name', .int .i64 port, .slice M1 n1' d1, .slice M2 lp.length d2, .slice M3 lf.length d3, .slice M4 n4' d4, .slice M5 n5' d5, .slice M6 lbm.length d6, .slice M7 n7' d7, .slice M8 lam.length d8] 66)).heap[wr.heap.size]? = some (.cells #[.string name', .int .i64 port, .slice M1 n1' d1, .slice M2 lp.length d2, .slice M3 lf.length d3, .slice M4 n4' d4, .slice M5 n5' d5, .slice M6 lbm.length d6, .slice M7 n7' d7, .slice M8 lam.length d8] 66 (0, 0)) from heap_alloc_new _ _)
                have HCA := Lib.hid hcA
                have HLAM := Lib.hid hlam
                have HMR := Lib.hid hmr
                have HL2 := Lib.hid hl2
                have HL3 := Lib.hid hl3
                have HL6m := Lib.hid hl6
                have HL8 := Lib.hid hl8
                clear hc hcA hlam hmr hl2 hl3 hl6 hl8
                go_upto_region 21 with fail
                clear k0 k1 k2 k3 k4 k5 k6 k7 k8 k9
                have HOWN := Lib.hid (own_ch HOWN1.out HCA.out)
                have HDX := Lib.hid ((HCA.out.block _ (blk_lt HD2.out) id).trans HD2.out)
                have HLW := Lib.hid (show Lm ≤ (wr.alloc (.cells #[.string name', .int .i64 port, .slice M1 n1' d1, .slice M2 lp.length d2, .slice M3 lf.length d3, .slice M4 n4' d4, .slice M5 n5' d5, .slice M6 lbm.length d6, .slice M7 n7' d7, .slice M8 lam.length d8] 66)).heap.size by rw [← HLSm.out]; exact Nat.le_trans HCH3.out.size HCA.out.size)
                generalize (wr.alloc (.cells #[.string name', .int .i64 port, .slice M1 n1' d1, .slice M2 lp.length d2, .slice M3 lf.length d3, .slice M4 n4' d4, .slice M5 n5' d5, .slice M6 lbm.length d6, .slice M7 n7' d7, .slice M8 lam.length d8] 66)) = W3' at *
                obtain ⟨T12, hT12⟩ : ∃ T12, wr.heap.size = T12 := ⟨_, rfl⟩
                rw [hT12] at HN8 ⊢
                clear hT12
                have HDBK := Lib.hid (show v.ownBlock ≠ some D from own_not HOWN.out HDX.out (by decide))
                have HTBK := Lib.hid (show v.ownBlock ≠ some T12 from own_not HOWN.out HN8.out (by decide))
                have HVC := Lib.hid HV.out.2.1
                have HOL := Lib.hid (show ∀ i, v.ownBlock = some i → w.heap.size ≤ i ∧ Wz.heap.size ≤ i from fun i hi => by have h1 := (HOWN.out.lt i hi).1; have := HLSm.out; have := HCW2.out.size; omega)
                refine wp_region_ops8 (by kernel_rfl) [136, 137, 138, 139, 140, 141, 142, 143, 144, 145, 146] 11 [] (by kernel_rfl) (by kernel_rfl) (by kernel_rfl) (mdpT D name' port M1 M2 M3 M4 M5 M6 M7 M8 n1' n4' n5' n7' d1 d2 d3 d4 d5 d6 d7 d8 lp lf lbm lam Lm j3 v (ms.map fun M => Value.pointer (some ⟨M, 0, none⟩))) (appR Lm 145 1 j3 v (ms.map fun M => Value.pointer (some ⟨M, 0, none⟩)) 8 W3') ⟨Ch.of_heap (Ch.refl _ W3') rfl rfl rfl rfl, .inr HOWN.out⟩ (fun q hq => by cases hq) ?_ ?_
                · intro i oo hi ho A f W' hf hdep hcl hR hr hx K hK
                  have hRc := hR.1
                  have hLW : Lm ≤ W'.heap.size := Nat.le_trans HLW.out hRc.size
                  have hD : W'.heap[D]? = some (.cells cs3 108 (0, 0)) := (hRc.block D (blk_lt HDX.out) HDBK.out).trans HDX.out
                  have hDv := HVC.out
                  have hT12 : W'.heap[T12]? = some (.cells #[.string name', .int .i64 port, .slice M1 n1' d1, .slice M2 lp.length d2, .slice M3 lf.length d3, .slice M4 n4' d4, .slice M5 n5' d5, .slice M6 lbm.length d6, .slice M7 n7' d7, .slice M8 lam.length d8] 66 (0, 0)) := (hRc.block T12 (blk_lt HN8.out) HTBK.out).trans HN8.out
                  have hRw := (HCW3.out.trans HCA.out).fresh hRc (fun i hi => .inl (HOL.out i hi).1)
                  have hm := HMR.out.ch hRw
                  have hm2 := HL2.out.ch hRw
                  have hm3 := HL3.out.ch hRw
                  have hm6 := HL6m.out.ch hRw
                  have hm8 := HL8.out.ch hRw
                  exact match i, hi, ho with
                      | 0, _, ho => by
                        obtain rfl := Option.some.inj ho
                        have e3 : A.tmps[3]?.getD undef = .pointer (some ⟨D, 0, none⟩) := (eval_getD A 3).symm.trans (hx 3 (by decide))
                        unfold Oper.wp execOp
                        go_simp
                        have hcc : Ch (fun _ => False) W' _ := Ch.refl _ _
                        exact hK _ _ (fun d hd => by cases hd; exact rfl) (appR_step (by decide) hcc hR) (fun d _ _ h => mdp_stay hcc h)
                      | 1, _, ho => by
                        obtain rfl := Option.some.inj ho
                        have e3 : A.tmps[3]?.getD undef = .pointer (some ⟨D, 0, none⟩) := (eval_getD A 3).symm.trans (hx 3 (by decide))
                        unfold Oper.wp execOp
                        go_simp
                        have hcc : Ch (fun _ => False) W' _ := Ch.refl _ _
                        exact hK _ _ (fun d hd => by cases hd; exact rfl) (appR_step (by decide) hcc hR) (fun d _ _ h => mdp_stay hcc h)
                      | 2, _, ho => by
                        obtain rfl := Option.some.inj ho
                        have e137 : A.tmps[137]?.getD undef = .pointer (some ⟨D, 0, none⟩) := (eval_getD A 137).symm.trans (hr 137 (by decide) (by decide))
                        unfold Oper.wp execOp
                        go_simp
                        have hcc : Ch (fun _ => False) W' _ := Ch.refl _ _
                        exact hK _ _ (fun d hd => by cases hd; exact rfl) (appR_step (by decide) hcc hR) (fun d _ _ h => mdp_stay hcc h)
                      | 3, _, ho => by
                        obtain rfl := Option.some.inj ho
                        have e138 : A.tmps[138]?.getD undef = .pointer (some ⟨D, 0, none⟩) := (eval_getD A 138).symm.trans (hr 138 (by decide) (by decide))
                        unfold Oper.wp execOp
                        go_simp
                        have hcc : Ch (fun _ => False) W' _ := Ch.refl _ _
                        exact hK _ _ (fun d hd => by cases hd; exact rfl) (appR_step (by decide) hcc hR) (fun d _ _ h => mdp_stay hcc h)
                      | 4, _, ho => by
                        obtain rfl := Option.some.inj ho
                        have e139 : A.tmps[139]?.getD undef = .pointer (some ⟨D, 18, none⟩) := (eval_getD A 139).symm.trans (hr 139 (by decide) (by decide))
                        have hl0 := blk_cell hD hDv
                        unfold Oper.wp execOp
                        go_simp
                        have hfa : f 8 = false := Bool.eq_false_iff.2 (fun h => by have h1 := hcl 8 h 4 (by decide); rw [hf] at h1; cases h1)
                        have hcc : Ch (fun _ => False) W' _ := Ch.refl _ _
                        exact hK _ _ (fun d hd => by cases hd; exact .inr ⟨rfl, hR.2.resolve_left (by rw [hfa]; decide)⟩) (appR_step (by decide) hcc hR) (fun d _ _ h => mdp_stay hcc h)
                      | 5, _, ho => by
                        obtain rfl := Option.some.inj ho
                        have l0 : W'.cell? ⟨T12, 0, none⟩ = some (.string name') := blk_cell hT12 rfl
                        have l1 : W'.cell? ⟨T12, 1, none⟩ = some (.int .i64 port) := blk_cell hT12 rfl
                        have l2 : W'.cell? ⟨T12, 2, none⟩ = some (.slice M1 n1' d1) := blk_cell hT12 rfl
                        have l3 : W'.cell? ⟨T12, 3, none⟩ = some (.slice M2 lp.length d2) := blk_cell hT12 rfl
                        have l4 : W'.cell? ⟨T12, 4, none⟩ = some (.slice M3 lf.length d3) := blk_cell hT12 rfl
                        have l5 : W'.cell? ⟨T12, 5, none⟩ = some (.slice M4 n4' d4) := blk_cell hT12 rfl
                        have l6 : W'.cell? ⟨T12, 6, none⟩ = some (.slice M5 n5' d5) := blk_cell hT12 rfl
                        have l7 : W'.cell? ⟨T12, 7, none⟩ = some (.slice M6 lbm.length d6) := blk_cell hT12 rfl
                        have l8 : W'.cell? ⟨T12, 8, none⟩ = some (.slice M7 n7' d7) := blk_cell hT12 rfl
                        have l9 : W'.cell? ⟨T12, 9, none⟩ = some (.slice M8 lam.length d8) := blk_cell hT12 rfl
                        have e12 : A.tmps[12]?.getD undef = .pointer (some ⟨T12, 0, none⟩) := (eval_getD A 12).symm.trans (hx 12 (by decide))
                        unfold Oper.wp execOp
                        go_simp
                        have hcc : Ch (fun _ => False) W' _ := Ch.refl _ _
                        exact hK _ _ (fun d hd => by cases hd; exact rfl) (appR_step (by decide) hcc hR) (fun d _ _ h => mdp_stay hcc h)
                      | 6, _, ho => by
                        obtain rfl := Option.some.inj ho
                        have e141 : A.tmps[141]?.getD undef = .agg #[.string name', .int .i64 port, .slice M1 n1' d1, .slice M2 lp.length d2, .slice M3 lf.length d3, .slice M4 n4' d4, .slice M5 n5' d5, .slice M6 lbm.length d6, .slice M7 n7' d7, .slice M8 lam.length d8] := (eval_getD A 141).symm.trans (hr 141 (by decide) (by decide))
                        unfold Oper.wp execOp
                        go_simp
                        (go_at_call 65; refine (media_any hm hm2 hm3 hm6 hm8 hb2 hb3 hb6 hb8).mono ?_; rintro e W2 ⟨b, rfl, hmo, hcp⟩)
                        have hcc : Ch (fun _ => False) W' _ := hcp
                        exact hK _ _ (fun d hd => by cases hd; exact ⟨b, rfl, hmo.at⟩) (appR_step (by decide) hcc hR) (fun d _ _ h => mdp_stay hcc h)
                      | 7, _, ho => by
                        obtain rfl := Option.some.inj ho
                        obtain ⟨b142, eq142_, p142_0⟩ : ∃ (b : Nat), A.eval (.tmp 142) = .pointer (some ⟨b, 0, none⟩) ∧ MedAt W' b lam := hr 142 (by decide) (by decide)
                        have e142 : A.tmps[142]?.getD undef = .pointer (some ⟨b142, 0, none⟩) := (eval_getD A 142).symm.trans eq142_
                        unfold Oper.wp execOp
                        go_simp
                        have hcc : Ch (fun _ => False) W' (W'.alloc (.cells #[.pointer (some ⟨b142, 0, none⟩)] 145)) := Ch.grown (World.grownBy_alloc _ _ none) (by simp)
                        exact hK _ _ (fun d hd => by cases hd; exact .inr ⟨_, b142, rfl, p142_0.ch hcc, heap_alloc_new _ _⟩) (appR_step (by decide) hcc hR) (fun d _ _ h => mdp_stay hcc h)
                      | 8, _, ho => by
                        obtain rfl := Option.some.inj ho
                        have hls : f 8 = true ∨ (A.eval (.tmp 140) = v ∧ W'.ownsRow Lm 145 1 v j3 (ms.map fun M => Value.pointer (some ⟨M, 0, none⟩))) := hr 140 (by decide) (by decide)
                        obtain ⟨els, hown⟩ := hls.resolve_left (by rw [hf]; decide)
                        have hbs : f 8 = true ∨ ∃ (k : Nat) (b : Nat), A.eval (.tmp 143) = .slice (some ⟨k, 0, none⟩) 1 1 ∧ MedAt W' b lam ∧ W'.heap[k]? = some (.cells #[.pointer (some ⟨b, 0, none⟩)] 145 (0, 0)) := hr 143 (by decide) (by decide)
                        obtain ⟨k, b, ebs, h0, hk⟩ := hbs.resolve_left (by rw [hf]; decide)
                        obtain ⟨i0, hi0, hz0, hz1, hz2⟩ := info_parts info145_c
                        refine wp_append_lies _ (.tmp 140) (.tmp 143) 106 rfl Lm 145 i0 _ 1 8 Tryz.underlying106 hi0 hz0 hz1 hz2 rfl (by decide) v j3 (ms.map fun M => Value.pointer (some ⟨M, 0, none⟩)) els hown ⟨k, 0, none⟩ 1 1 [.pointer (some ⟨b, 0, none⟩)] ebs rfl (World.news_of_block hk) (by simp [Value.oneCell']) (by decide) (by unfold maxLen; omega) (by omega) hLW _ rfl ?_
                        intro g cap W2 hown2 hgrow2 hat hlt
                        have hco : Ch (fun j => v.ownBlock = some j) W' W2 := Ch.grown hgrow2 (fun j hj => hj)
                        exact hK _ _ (fun d hd => by cases hd; exact ⟨by simp [upd], b, h0.app hown hco (by decide) (by decide), hown2⟩) (appR_app hco hR) (fun d _ hne h => mdp_stayA (fun e => hne (by subst e; rfl)) hown hco h)
                      | 9, _, ho => by
                        obtain rfl := Option.some.inj ho
                        have e136 : A.tmps[136]?.getD undef = .pointer (some ⟨D, 0, none⟩) := (eval_getD A 136).symm.trans (hr 136 (by decide) (by decide))
                        unfold Oper.wp execOp
                        go_simp
                        have hcc : Ch (fun _ => False) W' _ := Ch.refl _ _
                        exact hK _ _ (fun d hd => by cases hd; exact rfl) (appR_step (by decide) hcc hR) (fun d _ _ h => mdp_stay hcc h)
                      | 10, _, ho => by
                        obtain rfl := Option.some.inj ho
                        have e145 : A.tmps[145]?.getD undef = .pointer (some ⟨D, 0, none⟩) := (eval_getD A 145).symm.trans (hr 145 (by decide) (by decide))
                        unfold Oper.wp execOp
                        go_simp
                        have hcc : Ch (fun _ => False) W' _ := Ch.refl _ _
                        exact hK _ _ (fun d hd => by cases hd; exact rfl) (appR_step (by decide) hcc hR) (fun d _ _ h => mdp_stay hcc h)
                      | j3 + 11, hi, _ => absurd hi (by omega)
                · intro oo ho u f W3 hfa hR hu
                  obtain rfl := Option.some.inj ho
                  have hap : f 8 = true ∧ (∃ (b : Nat), MedAt W3 b lam ∧ W3.ownsRow Lm 145 1 (u 144) (j3 + 1) ((ms.map fun M => Value.pointer (some ⟨M, 0, none⟩)) ++ [.pointer (some ⟨b, 0, none⟩)])) := hu 144 (by decide)
                  have hRc := hR.1
                  have hv1 : u 146 = .pointer (some ⟨D, 18, none⟩) := hu 146 (by decide)
                  have hb3 : W3.heap[D]? = some (.cells cs3 108 (0, 0)) := (hRc.block D (blk_lt HDX.out) HDBK.out).trans HDX.out
                  have hf3 : W3.frozen? ⟨D, 18, none⟩ = false := blk_frozen hb3
                  have hc3 : W3.cell? ⟨D, 18, none⟩ = some v := blk_cell hb3 HVC.out
                  have HB3 := Lib.hid hb3
                  have HRC := Lib.hid hRc
                  obtain ⟨b', hq0, ho9⟩ := hap.2
                  obtain ⟨g9, cap9, hvn⟩ := own_form ho9
                  rw [hvn] at ho9
                  have HO9a := Lib.hid ho9
                  clear hR hu hfa hb3 hRc hap ho9
                  rw [mdp_frame, hv1, hvn]
                  unfold Oper.wp execOp
                  go_simp
                  clear hv1 hf3 hc3 hvn
                  obtain ⟨vn, hvn⟩ : ∃ vn, Value.slice (some ⟨g9, 0, none⟩) (j3 + 1) cap9 = vn := ⟨_, rfl⟩
                  rw [hvn] at HO9a ⊢
                  have ho9 := HO9a.out
                  have hset := blk_set (j := 18) vn HB3.out
                  clear hvn
                  have hne9 := own_not ho9 HB3.out (by decide)
                  have ho9' := owns_same (w' := W3.setCell ⟨D, 18, none⟩ vn) ho9 (fun k hk => blk_set_other vn (fun e => hne9 (by rw [hk, e])))
                  have hch9 : Ch (fun k => k = D) Wz (W3.setCell ⟨D, 18, none⟩ vn) := (((HCH3.out.trans (HCA.out.mono (fun _ h => h.elim))).fresh HRC.out (fun i hi => .inl (HOL.out i hi).2)).trans (Ch.set (S := fun k => k = D) (k := D) _ rfl _))
                  have HSET := Lib.hid hset
                  have HO9 := Lib.hid ho9'
                  have HCH9 := Lib.hid hch9
                  have HQ0 := Lib.hid hq0
                  clear hset ho9' hch9 hne9 hq0
                  have HMS2 := Lib.hid (show (ms ++ [b']).length = j3 + 1 ∧ ∀ (k M : Nat) (l : List (ByteArray × ByteArray)), (ms ++ [b'])[k]? = some M → lm[k]? = some l → MedAt (W3.setCell ⟨D, 18, none⟩ vn) M l from ⟨by rw [List.length_append, HMS.out.1]; rfl, fun k M l hk hl => by
                    rcases Nat.lt_or_ge k ms.length with hlt | hge
                    · rw [List.getElem?_append_left hlt] at hk
                      exact ((((HMS.out.2 k M l hk hl).ch HCA.out).app HOWN.out HRC.out (by decide) (by decide))).set HB3.out (by decide) (by decide) 18 vn
                    · have hkj : k = j3 := by
                        have h1 := (List.getElem?_eq_some_iff.1 hk).1
                        rw [List.length_append] at h1
                        have := HMS.out.1
                        simp at h1
                        omega
                      subst hkj
                      rw [List.getElem?_append_right hge, HMS.out.1, Nat.sub_self] at hk
                      obtain rfl : b' = M := by simpa using hk
                      obtain rfl : lam = l := Option.some.inj (HLAM.out.symm.trans hl)
                      exact HQ0.out.set HB3.out (by decide) (by decide) 18 vn⟩)
                  go_wp2_with fail
                  go_roundg (NM - (j3 + 1))
                  case measure => have := HG.out; omega
                  case rel => exact ⟨j3 + 1, rfl, by omega, by simp, _, vn, ms ++ [b'], HSET.out, ⟨by rw [Array.size_setIfInBounds]; exact HV.out.1, set_eq (by rw [HV.out.1]; decide), (set_ne (by decide)).trans HV.out.2.2⟩, by rw [List.map_append]; exact HO9.out, HMS2.out, HCH9.out⟩
              · go_wp2_with fail
                refine bodyPost_ret (v := .pointer (some ⟨D, 0, none⟩)) (by simp [results, Tryz.results70]) rfl ?_
                have hj : j3 = NM := by omega
                subst hj
                have hcD := (HCH.out.trans HCH2.out).trans HCH3.out
                refine ⟨D, cs3, SA, ca, v, ms, rfl, HD2.out, HV.out.2.2, HV.out.2.1, owns_same HOA.out (fun k hk => hcD.block k (HOA.out.lt k hk).2 (fun e => own_not HOA.out HD.out (by decide) (by rw [hk, e]))), by rw [HNM.out]; exact owns_low HOWN1.out (Nat.zero_le _), by rw [HNM.out]; exact HMS.out.1, HMS.out.2, HCW3.out⟩


end Go.Proofs.YtimonhimfioohaaGreatDoor
