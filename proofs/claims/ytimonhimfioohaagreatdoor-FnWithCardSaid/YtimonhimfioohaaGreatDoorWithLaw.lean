/- FnWith's walk. -/
import Derived.Test.YtimonhimfioohaaGreatDoorConvW
import Derived.Test.YtimonhimfioohaaGreatDoorLinesEq
import Derived.Test.YtimonhimfioohaaGreatDoorReg6
import Derived.Deep.CutRange
namespace Go.Proofs.YtimonhimfioohaaGreatDoor
open Go.RowKit

theorem wp_append_lst {P : Program} {w : World} {o : Oper} {a : Act} {K : Act → World → Prop} {Q : Exit → Act → World → Prop} (s x : Operand) (t : TypeId)
    (ho : o.op = .call { callee := .builtin .append, args := #[s, x], argTypes := #[t, t] })
    (base e : Nat) (i : TypeInfo) (z : Value) (size bytes : Nat) (ht : P.underlying t = some (.slice e)) (hi : P.info? e = some i) (hz : i.zero = some z)
    (hsize : i.size = size) (hby : i.bytes = bytes) (hzs : z.cells.size = size) (hsz : 0 < size) (v : Value) (n : Nat) (xs : List Value) (hs : a.eval s = v) (hown : w.ownsRow base e size v n xs)
    {α : Type} (f : α → List Value) (hf : ∀ a, (f a).length = size) (hf1 : ∀ a, ∀ u ∈ f a, u.oneCell' = true) (A : Option Addr) (c : Nat) (l : List α) (hx : a.eval x = .slice A l.length c) (hl : Lst w size f A l)
    (h63 : n + l.length ≤ maxLen) (hbytes : (n + l.length) * bytes ≤ 140737488355328) (hbase : base ≤ w.heap.size)
    (h : ∀ v' w', w'.ownsRow base e size v' (n + l.length) (xs ++ l.flatMap f) → w.grownBy w' v.ownBlock → K (a.put o.dst v') w') : o.wp P a w K Q := by
  obtain ⟨v', w', hr, h2, h3⟩ := run_append_lst (P := P) base t o.type e i z size bytes ht hi hz hsize hby hzs hsz v n xs hown f hf hf1 A c l hl h63 hbytes hbase
  unfold Oper.wp execOp
  simp only [ho, resolve, invoke, builtin, Sem.run_bind, Sem.run_pure, Result.andThen_ok, List.map_toArray, List.map_cons, List.map_nil, hs, hx, hr]
  exact h v' w' h2 h3
theorem strC_one (p : ByteArray) : ∀ u ∈ strC p, u.oneCell' = true := by
  intro u hu
  simp only [strC, List.mem_cons, List.not_mem_nil, or_false] at hu
  subst hu
  rfl
def wi5T (name kk vv : ByteArray) (port : Int) (A1 A2 A3 A4 A5 A6 A7 A8 : Option Addr) (n1 n4 n5 n7 c1 c2 c3 c4 c5 c6 c7 c8 : Nat) (lp lf : List ByteArray) (lb : List (Bool × ByteArray × Int)) (la lg1 lg2 : List (ByteArray × ByteArray)) (d : Nat) (v : Value) (W : World) : Prop :=
  match d with
  | 89 => v = .agg #[.string name, .int .i64 port, .slice A1 n1 c1, .slice A2 lp.length c2, .slice A3 lf.length c3, .slice A4 n4 c4, .slice A5 n5 c5, .slice A6 lb.length c6, .slice A7 n7 c7, .slice A8 la.length c8]
  | 90 => v = .string kk
  | 91 => v = .string vv
  | 92 => ∃ (S1 : Option Addr) (m1 : Nat) (d1 : Nat) (S2 : Option Addr) (d2 : Nat) (S3 : Option Addr) (d3 : Nat) (S4 : Option Addr) (m4 : Nat) (d4 : Nat) (S5 : Option Addr) (m5 : Nat) (d5 : Nat) (S6 : Option Addr) (d6 : Nat) (S7 : Option Addr) (m7 : Nat) (d7 : Nat) (S8 : Option Addr) (d8 : Nat) (m2 : Nat) (m6 : Nat), v = .agg #[.string name, .int .i64 port, .slice S1 m1 d1, .slice S2 m2 d2, .slice S3 lf.length d3, .slice S4 m4 d4, .slice S5 m5 d5, .slice S6 m6 d6, .slice S7 m7 d7, .slice S8 lg1.length d8] ∧ W.ownsRow 0 73 2 (.slice S8 lg1.length d8) lg1.length (lg1.flatMap attrC)
  | 93 => v = .agg #[.string name, .int .i64 port, .slice A1 n1 c1, .slice A2 lp.length c2, .slice A3 lf.length c3, .slice A4 n4 c4, .slice A5 n5 c5, .slice A6 lb.length c6, .slice A7 n7 c7, .slice A8 la.length c8]
  | 94 => v = .string kk
  | 95 => v = .string vv
  | 96 => v = .agg #[.string kk, .string vv]
  | 97 => ∃ (k : Nat), v = .slice (some ⟨k, 0, none⟩) 1 1 ∧ W.heap[k]? = some (.cells #[.string kk, .string vv] 73 (0, 0))
  | 98 => v = .bool true
  | 99 => v = .bool false
  | 100 => v = .bool false
  | 101 => v = .agg #[.string name, .int .i64 port, .slice A1 n1 c1, .slice A2 lp.length c2, .slice A3 lf.length c3, .slice A4 n4 c4, .slice A5 n5 c5, .slice A6 lb.length c6, .slice A7 n7 c7, .slice A8 la.length c8]
  | 102 => v = .string kk
  | 103 => ∃ (S1 : Option Addr) (m1 : Nat) (d1 : Nat) (S2 : Option Addr) (d2 : Nat) (S3 : Option Addr) (d3 : Nat) (S4 : Option Addr) (m4 : Nat) (d4 : Nat) (S5 : Option Addr) (m5 : Nat) (d5 : Nat) (S6 : Option Addr) (d6 : Nat) (S7 : Option Addr) (m7 : Nat) (d7 : Nat) (S8 : Option Addr) (d8 : Nat) (m2 : Nat) (m6 : Nat), v = .agg #[.string name, .int .i64 port, .slice S1 m1 d1, .slice S2 m2 d2, .slice S3 lf.length d3, .slice S4 m4 d4, .slice S5 m5 d5, .slice S6 m6 d6, .slice S7 m7 d7, .slice S8 lg2.length d8] ∧ W.ownsRow 0 73 2 (.slice S8 lg2.length d8) lg2.length (lg2.flatMap attrC)
  | 104 => v = .agg #[.string name, .int .i64 port, .slice A1 n1 c1, .slice A2 lp.length c2, .slice A3 lf.length c3, .slice A4 n4 c4, .slice A5 n5 c5, .slice A6 lb.length c6, .slice A7 n7 c7, .slice A8 la.length c8]
  | 105 => v = .string kk
  | 106 => v = .agg #[.string kk, .string ⟨#[]⟩]
  | 107 => ∃ (k : Nat), v = .slice (some ⟨k, 0, none⟩) 1 1 ∧ W.heap[k]? = some (.cells #[.string kk, .string ⟨#[]⟩] 73 (0, 0))
  | 108 => v = .bool true
  | 109 => v = .bool false
  | _ => True

theorem wi5T_stays {name kk vv : ByteArray} {port : Int} {A1 A2 A3 A4 A5 A6 A7 A8 : Option Addr} {n1 n4 n5 n7 c1 c2 c3 c4 c5 c6 c7 c8 : Nat} {lp lf : List ByteArray} {lb : List (Bool × ByteArray × Int)} {la lg1 lg2 : List (ByteArray × ByteArray)} {d : Nat} {v : Value} {W W' : World} (h : wi5T name kk vv port A1 A2 A3 A4 A5 A6 A7 A8 n1 n4 n5 n7 c1 c2 c3 c4 c5 c6 c7 c8 lp lf lb la lg1 lg2 d v W) (hc : Ch (fun _ => False) W W') : wi5T name kk vv port A1 A2 A3 A4 A5 A6 A7 A8 n1 n4 n5 n7 c1 c2 c3 c4 c5 c6 c7 c8 lp lf lb la lg1 lg2 d v W' := by
  unfold wi5T at h ⊢
  split at h
  · exact h
  · exact h
  · exact h
  · obtain ⟨S1, m1, d1, S2, d2, S3, d3, S4, m4, d4, S5, m5, d5, S6, d6, S7, m7, d7, S8, d8, m2, m6, eq_, p0⟩ := h
    exact ⟨S1, m1, d1, S2, d2, S3, d3, S4, m4, d4, S5, m5, d5, S6, d6, S7, m7, d7, S8, d8, m2, m6, eq_, own_ch p0 hc⟩
  · exact h
  · exact h
  · exact h
  · exact h
  · obtain ⟨k, eq_, p0⟩ := h
    exact ⟨k, eq_, (hc.block _ (blk_lt p0) id).trans p0⟩
  · exact h
  · exact h
  · exact h
  · exact h
  · exact h
  · obtain ⟨S1, m1, d1, S2, d2, S3, d3, S4, m4, d4, S5, m5, d5, S6, d6, S7, m7, d7, S8, d8, m2, m6, eq_, p0⟩ := h
    exact ⟨S1, m1, d1, S2, d2, S3, d3, S4, m4, d4, S5, m5, d5, S6, d6, S7, m7, d7, S8, d8, m2, m6, eq_, own_ch p0 hc⟩
  · exact h
  · exact h
  · exact h
  · obtain ⟨k, eq_, p0⟩ := h
    exact ⟨k, eq_, (hc.block _ (blk_lt p0) id).trans p0⟩
  · exact h
  · exact h
  · trivial

set_option maxRecDepth 100000 in
theorem wi5_frame (x0 x1 x2 x3 x4 x5 x6 x7 x8 x9 x10 x11 x12 x13 x14 x15 x16 x17 x18 x19 x20 x21 x22 x23 x24 x25 x26 x27 x28 x29 x30 x31 x32 x33 x34 x35 x36 x37 x38 x39 x40 x41 x42 x43 x44 x45 x46 x47 x48 x49 x50 x51 x52 x53 x54 x55 x56 x57 x58 x59 x60 x61 x62 x63 x64 x65 x66 x67 x68 x69 x70 x71 x72 x73 x74 x75 x76 x77 x78 x79 x80 x81 x82 x83 x84 x85 x86 x87 x88 x89 x90 x91 x92 x93 x94 x95 x96 x97 x98 x99 x100 x101 x102 x103 x104 x105 x106 x107 x108 x109 x110 x111 x112 x113 x114 x115 x116 x117 x118 x119 x120 x121 x122 x123 x124 x125 x126 x127 x128 x129 x130 x131 x132 x133 x134 x135 x136 x137 x138 x139 x140 x141 x142 x143 x144 x145 x146 x147 x148 x149 x150 x151 x152 x153 x154 x155 x156 x157 x158 x159 x160 x161 x162 x163 x164 x165 x166 x167 x168 x169 x170 : Value) (d : List Deferred) (u : Nat → Value) : frameOf ⟨#[x0, x1, x2, x3, x4, x5, x6, x7, x8, x9, x10, x11, x12, x13, x14, x15, x16, x17, x18, x19, x20, x21, x22, x23, x24, x25, x26, x27, x28, x29, x30, x31, x32, x33, x34, x35, x36, x37, x38, x39, x40, x41, x42, x43, x44, x45, x46, x47, x48, x49, x50, x51, x52, x53, x54, x55, x56, x57, x58, x59, x60, x61, x62, x63, x64, x65, x66, x67, x68, x69, x70, x71, x72, x73, x74, x75, x76, x77, x78, x79, x80, x81, x82, x83, x84, x85, x86, x87, x88, x89, x90, x91, x92, x93, x94, x95, x96, x97, x98, x99, x100, x101, x102, x103, x104, x105, x106, x107, x108, x109, x110, x111, x112, x113, x114, x115, x116, x117, x118, x119, x120, x121, x122, x123, x124, x125, x126, x127, x128, x129, x130, x131, x132, x133, x134, x135, x136, x137, x138, x139, x140, x141, x142, x143, x144, x145, x146, x147, x148, x149, x150, x151, x152, x153, x154, x155, x156, x157, x158, x159, x160, x161, x162, x163, x164, x165, x166, x167, x168, x169, x170], d⟩ [89, 90, 91, 92, 93, 94, 95, 96, 97, 98, 99, 100, 101, 102, 103, 104, 105, 106, 107, 108, 109] u = ⟨#[x0, x1, x2, x3, x4, x5, x6, x7, x8, x9, x10, x11, x12, x13, x14, x15, x16, x17, x18, x19, x20, x21, x22, x23, x24, x25, x26, x27, x28, x29, x30, x31, x32, x33, x34, x35, x36, x37, x38, x39, x40, x41, x42, x43, x44, x45, x46, x47, x48, x49, x50, x51, x52, x53, x54, x55, x56, x57, x58, x59, x60, x61, x62, x63, x64, x65, x66, x67, x68, x69, x70, x71, x72, x73, x74, x75, x76, x77, x78, x79, x80, x81, x82, x83, x84, x85, x86, x87, x88, u 89, u 90, u 91, u 92, u 93, u 94, u 95, u 96, u 97, u 98, u 99, u 100, u 101, u 102, u 103, u 104, u 105, u 106, u 107, u 108, u 109, x110, x111, x112, x113, x114, x115, x116, x117, x118, x119, x120, x121, x122, x123, x124, x125, x126, x127, x128, x129, x130, x131, x132, x133, x134, x135, x136, x137, x138, x139, x140, x141, x142, x143, x144, x145, x146, x147, x148, x149, x150, x151, x152, x153, x154, x155, x156, x157, x158, x159, x160, x161, x162, x163, x164, x165, x166, x167, x168, x169, x170], d⟩ := by kernel_rfl

def wi15T (Z B R kx cx : Nat) (name D : ByteArray) (port : Int) (A1 A2 A3 A4 A5 A6 A7 A8 : Option Addr) (n1 n4 n5 n7 c1 c2 c3 c4 c5 c6 c7 c8 : Nat) (lp lf : List ByteArray) (lb : List (Bool × ByteArray × Int)) (la lx lg : List (ByteArray × ByteArray)) (lg2 : List ByteArray) (S1 S2 S3 S4 S5 S6 S7 S8 : Option Addr) (m1 m2 m4 m5 m6 m7 d1 d2 d3 d4 d5 d6 d7 d8 : Nat) (f : Nat → Bool) (d : Nat) (v : Value) (W : World) : Prop :=
  match d with
  | 152 => v = .agg #[.string name, .int .i64 port, .slice S1 m1 d1, .slice S2 m2 d2, .slice S3 lg2.length d3, .slice S4 m4 d4, .slice S5 m5 d5, .slice S6 m6 d6, .slice S7 m7 d7, .slice S8 lg.length d8]
  | 153 => v = .agg #[.string name, .int .i64 port, .slice A1 n1 c1, .slice A2 lp.length c2, .slice A3 lf.length c3, .slice A4 n4 c4, .slice A5 n5 c5, .slice A6 lb.length c6, .slice A7 n7 c7, .slice A8 la.length c8]
  | 154 => v = .slice (some ⟨kx, 0, none⟩) lx.length cx
  | 155 => v = .bool true
  | 156 => v = .bool true
  | 157 => v = .pointer (some ⟨R, 4, none⟩)
  | 158 => v = .slice S3 lg2.length d3
  | 159 => f 10 = true ∨ ∃ k : Nat, v = .slice (some ⟨k, 0, none⟩) 0 0 ∧ Z ≤ k ∧ W.heap[k]? = some (.cells #[] 9 (0, 0))
  | 160 => v = .pointer (some ⟨B, 4, none⟩)
  | 161 => v = .slice A3 lf.length c3
  | 162 => f 13 = true ∨ W.ownsRow Z 9 1 v lf.length (lf.flatMap strC)
  | 163 => v = .string D
  | 164 => f 13 = true ∨ ∃ k : Nat, v = .slice (some ⟨k, 0, none⟩) 1 1 ∧ W.heap[k]? = some (.cells #[.string D] 9 (0, 0))
  | 165 => f 10 = true ∧ W.ownsRow Z 9 1 v (lf.length + 1) (lf.flatMap strC ++ [Value.string D])
  | 166 => v = .bool true
  | 167 => v = .bool true
  | 168 => v = .bool true
  | 169 => v = .bool true
  | 170 => v = .bool true
  | _ => True

theorem wi15_stay {Z B R kx cx : Nat} {name D : ByteArray} {port : Int} {A1 A2 A3 A4 A5 A6 A7 A8 : Option Addr} {n1 n4 n5 n7 c1 c2 c3 c4 c5 c6 c7 c8 : Nat} {lp lf : List ByteArray} {lb : List (Bool × ByteArray × Int)} {la lx lg : List (ByteArray × ByteArray)} {lg2 : List ByteArray} {S1 S2 S3 S4 S5 S6 S7 S8 : Option Addr} {m1 m2 m4 m5 m6 m7 d1 d2 d3 d4 d5 d6 d7 d8 : Nat} {f : Nat → Bool} {d : Nat} {v : Value} {W W' : World} {i : Nat} (hc : Ch (fun _ => False) W W') (h : wi15T Z B R kx cx name D port A1 A2 A3 A4 A5 A6 A7 A8 n1 n4 n5 n7 c1 c2 c3 c4 c5 c6 c7 c8 lp lf lb la lx lg lg2 S1 S2 S3 S4 S5 S6 S7 S8 m1 m2 m4 m5 m6 m7 d1 d2 d3 d4 d5 d6 d7 d8 f d v W) : wi15T Z B R kx cx name D port A1 A2 A3 A4 A5 A6 A7 A8 n1 n4 n5 n7 c1 c2 c3 c4 c5 c6 c7 c8 lp lf lb la lx lg lg2 S1 S2 S3 S4 S5 S6 S7 S8 m1 m2 m4 m5 m6 m7 d1 d2 d3 d4 d5 d6 d7 d8 (upd f i) d v W' := by
  unfold wi15T at h ⊢
  split at h
  · exact h
  · exact h
  · exact h
  · exact h
  · exact h
  · exact h
  · exact h
  · rcases h with h | ⟨k, e, hz, hk⟩
    · exact .inl (by unfold upd; split <;> first | rfl | exact h)
    · exact .inr ⟨k, e, hz, (hc.block _ (blk_lt hk) id).trans hk⟩
  · exact h
  · exact h
  · exact h.elim (fun h => .inl (by unfold upd; split <;> first | rfl | exact h)) (fun h => .inr (own_ch h hc))
  · exact h
  · rcases h with h | ⟨k, e, hk⟩
    · exact .inl (by unfold upd; split <;> first | rfl | exact h)
    · exact .inr ⟨k, e, (hc.block _ (blk_lt hk) id).trans hk⟩
  · exact ⟨(by unfold upd; split <;> first | rfl | exact h.1), own_ch h.2 hc⟩
  · exact h
  · exact h
  · exact h
  · exact h
  · exact h
  · trivial

theorem wi15_stayA {Z B R kx cx : Nat} {name D : ByteArray} {port : Int} {A1 A2 A3 A4 A5 A6 A7 A8 : Option Addr} {n1 n4 n5 n7 c1 c2 c3 c4 c5 c6 c7 c8 : Nat} {lp lf : List ByteArray} {lb : List (Bool × ByteArray × Int)} {la lx lg : List (ByteArray × ByteArray)} {lg2 : List ByteArray} {S1 S2 S3 S4 S5 S6 S7 S8 : Option Addr} {m1 m2 m4 m5 m6 m7 d1 d2 d3 d4 d5 d6 d7 d8 : Nat} {f : Nat → Bool} {d : Nat} {v : Value} {W W' : World} (hf : f 10 = false) (hd : d ≠ 162) (hc : ∃ k : Nat, W.heap[k]? = some (.cells #[] 9 (0, 0)) ∧ Ch (fun j => j = k) W W') (h : wi15T Z B R kx cx name D port A1 A2 A3 A4 A5 A6 A7 A8 n1 n4 n5 n7 c1 c2 c3 c4 c5 c6 c7 c8 lp lf lb la lx lg lg2 S1 S2 S3 S4 S5 S6 S7 S8 m1 m2 m4 m5 m6 m7 d1 d2 d3 d4 d5 d6 d7 d8 f d v W) : wi15T Z B R kx cx name D port A1 A2 A3 A4 A5 A6 A7 A8 n1 n4 n5 n7 c1 c2 c3 c4 c5 c6 c7 c8 lp lf lb la lx lg lg2 S1 S2 S3 S4 S5 S6 S7 S8 m1 m2 m4 m5 m6 m7 d1 d2 d3 d4 d5 d6 d7 d8 (upd f 10) d v W' := by
  unfold wi15T at h ⊢
  split at h
  · exact h
  · exact h
  · exact h
  · exact h
  · exact h
  · exact h
  · exact h
  · exact .inl (by simp [upd])
  · exact h
  · exact h
  · exact absurd rfl hd
  · exact h
  · obtain ⟨k0, h0, hc⟩ := hc
    rcases h with h | ⟨k, e, hk⟩
    · exact .inl (by unfold upd; split <;> first | rfl | exact h)
    · refine .inr ⟨k, e, (hc.block _ (blk_lt hk) (fun e' => ?_)).trans hk⟩
      subst e'
      rw [h0] at hk
      simp at hk
  · rw [hf] at h
    cases h.1
  · exact h
  · exact h
  · exact h
  · exact h
  · exact h
  · trivial

theorem wi15_stayB {Z B R kx cx : Nat} {name D : ByteArray} {port : Int} {A1 A2 A3 A4 A5 A6 A7 A8 : Option Addr} {n1 n4 n5 n7 c1 c2 c3 c4 c5 c6 c7 c8 : Nat} {lp lf : List ByteArray} {lb : List (Bool × ByteArray × Int)} {la lx lg : List (ByteArray × ByteArray)} {lg2 : List ByteArray} {S1 S2 S3 S4 S5 S6 S7 S8 : Option Addr} {m1 m2 m4 m5 m6 m7 d1 d2 d3 d4 d5 d6 d7 d8 : Nat} {f : Nat → Bool} {d : Nat} {v : Value} {W W' : World} (hf : f 10 = true) (hd : d ≠ 165) (h : wi15T Z B R kx cx name D port A1 A2 A3 A4 A5 A6 A7 A8 n1 n4 n5 n7 c1 c2 c3 c4 c5 c6 c7 c8 lp lf lb la lx lg lg2 S1 S2 S3 S4 S5 S6 S7 S8 m1 m2 m4 m5 m6 m7 d1 d2 d3 d4 d5 d6 d7 d8 f d v W) : wi15T Z B R kx cx name D port A1 A2 A3 A4 A5 A6 A7 A8 n1 n4 n5 n7 c1 c2 c3 c4 c5 c6 c7 c8 lp lf lb la lx lg lg2 S1 S2 S3 S4 S5 S6 S7 S8 m1 m2 m4 m5 m6 m7 d1 d2 d3 d4 d5 d6 d7 d8 (upd f 13) d v W' := by
  unfold wi15T at h ⊢
  split at h
  · exact h
  · exact h
  · exact h
  · exact h
  · exact h
  · exact h
  · exact h
  · exact .inl (by unfold upd; split <;> first | rfl | exact hf)
  · exact h
  · exact h
  · exact .inl (by simp [upd])
  · exact h
  · exact .inl (by simp [upd])
  · exact absurd rfl hd
  · exact h
  · exact h
  · exact h
  · exact h
  · exact h
  · trivial

def wi15S (Z : Nat) (i : Nat) : World → World → Prop := match i with
  | 10 => fun W W' => ∃ k : Nat, W.heap[k]? = some (.cells #[] 9 (0, 0)) ∧ Z ≤ k ∧ Ch (fun j => j = k) W W'
  | 13 => Ch (fun j => Z ≤ j)
  | _ => Ch (fun _ => False)
theorem wi15S_ne {Z i : Nat} (h1 : i ≠ 10) (h2 : i ≠ 13) : wi15S Z i = Ch (fun _ => False) := by
  unfold wi15S
  split
  · exact absurd rfl h1
  · exact absurd rfl h2
  · rfl
theorem wi15S_out {Z i : Nat} {W W' : World} (h : wi15S Z i W W') : Ch (fun j => Z ≤ j) W W' := by
  unfold wi15S at h
  split at h
  · obtain ⟨k, _, hz, hc⟩ := h
    exact hc.mono (fun j hj => by omega)
  · exact h
  · exact h.mono (fun _ h => h.elim)

set_option maxRecDepth 100000 in
theorem wi15_frame (x0 x1 x2 x3 x4 x5 x6 x7 x8 x9 x10 x11 x12 x13 x14 x15 x16 x17 x18 x19 x20 x21 x22 x23 x24 x25 x26 x27 x28 x29 x30 x31 x32 x33 x34 x35 x36 x37 x38 x39 x40 x41 x42 x43 x44 x45 x46 x47 x48 x49 x50 x51 x52 x53 x54 x55 x56 x57 x58 x59 x60 x61 x62 x63 x64 x65 x66 x67 x68 x69 x70 x71 x72 x73 x74 x75 x76 x77 x78 x79 x80 x81 x82 x83 x84 x85 x86 x87 x88 x89 x90 x91 x92 x93 x94 x95 x96 x97 x98 x99 x100 x101 x102 x103 x104 x105 x106 x107 x108 x109 x110 x111 x112 x113 x114 x115 x116 x117 x118 x119 x120 x121 x122 x123 x124 x125 x126 x127 x128 x129 x130 x131 x132 x133 x134 x135 x136 x137 x138 x139 x140 x141 x142 x143 x144 x145 x146 x147 x148 x149 x150 x151 x152 x153 x154 x155 x156 x157 x158 x159 x160 x161 x162 x163 x164 x165 x166 x167 x168 x169 x170 : Value) (d : List Deferred) (u : Nat → Value) : frameOf ⟨#[x0, x1, x2, x3, x4, x5, x6, x7, x8, x9, x10, x11, x12, x13, x14, x15, x16, x17, x18, x19, x20, x21, x22, x23, x24, x25, x26, x27, x28, x29, x30, x31, x32, x33, x34, x35, x36, x37, x38, x39, x40, x41, x42, x43, x44, x45, x46, x47, x48, x49, x50, x51, x52, x53, x54, x55, x56, x57, x58, x59, x60, x61, x62, x63, x64, x65, x66, x67, x68, x69, x70, x71, x72, x73, x74, x75, x76, x77, x78, x79, x80, x81, x82, x83, x84, x85, x86, x87, x88, x89, x90, x91, x92, x93, x94, x95, x96, x97, x98, x99, x100, x101, x102, x103, x104, x105, x106, x107, x108, x109, x110, x111, x112, x113, x114, x115, x116, x117, x118, x119, x120, x121, x122, x123, x124, x125, x126, x127, x128, x129, x130, x131, x132, x133, x134, x135, x136, x137, x138, x139, x140, x141, x142, x143, x144, x145, x146, x147, x148, x149, x150, x151, x152, x153, x154, x155, x156, x157, x158, x159, x160, x161, x162, x163, x164, x165, x166, x167, x168, x169, x170], d⟩ [152, 153, 154, 155, 156, 157, 158, 159, 160, 161, 162, 163, 164, 165, 166, 167, 168, 169, 170] u = ⟨#[x0, x1, x2, x3, x4, x5, x6, x7, x8, x9, x10, x11, x12, x13, x14, x15, x16, x17, x18, x19, x20, x21, x22, x23, x24, x25, x26, x27, x28, x29, x30, x31, x32, x33, x34, x35, x36, x37, x38, x39, x40, x41, x42, x43, x44, x45, x46, x47, x48, x49, x50, x51, x52, x53, x54, x55, x56, x57, x58, x59, x60, x61, x62, x63, x64, x65, x66, x67, x68, x69, x70, x71, x72, x73, x74, x75, x76, x77, x78, x79, x80, x81, x82, x83, x84, x85, x86, x87, x88, x89, x90, x91, x92, x93, x94, x95, x96, x97, x98, x99, x100, x101, x102, x103, x104, x105, x106, x107, x108, x109, x110, x111, x112, x113, x114, x115, x116, x117, x118, x119, x120, x121, x122, x123, x124, x125, x126, x127, x128, x129, x130, x131, x132, x133, x134, x135, x136, x137, x138, x139, x140, x141, x142, x143, x144, x145, x146, x147, x148, x149, x150, x151, u 152, u 153, u 154, u 155, u 156, u 157, u 158, u 159, u 160, u 161, u 162, u 163, u 164, u 165, u 166, u 167, u 168, u 169, u 170], d⟩ := by kernel_rfl

set_option maxRecDepth 100000 in
set_option maxHeartbeats 8000000 in
theorem fnWith_walk {ae : Addr} {name : ByteArray} {port : Int} {A1 A2 A3 A4 A5 A6 A7 A8 : Option Addr} {n1 n4 n5 n7 c1 c2 c3 c4 c5 c6 c7 c8 : Nat} {lp lf : List ByteArray} {lb : List (Bool × ByteArray × Int)} {la : List (ByteArray × ByteArray)} {kk vv nm fm : ByteArray} {z3 z4 z5 : Int} {w : World} (h : MedRd w A1 A2 A3 A4 A5 A6 A7 A8 n1 lp.length lf.length n4 n5 lb.length n7 la.length) (h2 : Lst w 1 strC A2 lp) (h3 : Lst w 1 strC A3 lf) (h6b : Lst w 3 bandC A6 lb) (h8 : Lst w 2 attrC A8 la)
    (htab : Lib.TabIs Tryz.prog w "internal/strconv.uint64pow10" .u64 Lib.pow10Tab) (h6 : w.cell? ⟨6, 0, none⟩ = some (.iface 342 (.pointer (some ae)))) :
    Calls Tryz.prog 10 #[.agg #[.string name, .int .i64 port, .slice A1 n1 c1, .slice A2 lp.length c2, .slice A3 lf.length c3, .slice A4 n4 c4, .slice A5 n5 c5, .slice A6 lb.length c6, .slice A7 n7 c7, .slice A8 la.length c8], .string kk, .string vv, .int .i64 z3, .int .i64 z4, .int .i64 z5, .string nm, .string fm] w fun e w' => e = .returned (.bool true) ∧ Ch (fun _ => False) w w' := by
  have hb0 : (w.alloc (.cells #[.string name, .int .i64 port, .slice A1 n1 c1, .slice A2 lp.length c2, .slice A3 lf.length c3, .slice A4 n4 c4, .slice A5 n5 c5, .slice A6 lb.length c6, .slice A7 n7 c7, .slice A8 la.length c8] 66)).heap[w.heap.size]? = some (.cells #[.string name, .int .i64 port, .slice A1 n1 c1, .slice A2 lp.length c2, .slice A3 lf.length c3, .slice A4 n4 c4, .slice A5 n5 c5, .slice A6 lb.length c6, .slice A7 n7 c7, .slice A8 la.length c8] 66 (0, 0)) := heap_alloc_new w _
  have hc0 : Ch (fun _ => False) w (w.alloc (.cells #[.string name, .int .i64 port, .slice A1 n1 c1, .slice A2 lp.length c2, .slice A3 lf.length c3, .slice A4 n4 c4, .slice A5 n5 c5, .slice A6 lb.length c6, .slice A7 n7 c7, .slice A8 la.length c8] 66)) := Ch.grown (World.grownBy_alloc _ _ none) (by simp)
  have HB0 := Lib.hid hb0
  have HC0 := Lib.hid hc0
  have HM := Lib.hid h
  have H2 := Lib.hid h2
  have H3 := Lib.hid h3
  have H6B := Lib.hid h6b
  have H8 := Lib.hid h8
  have HT := Lib.hid htab
  have H6 := Lib.hid h6
  clear h h2 h3 h6b h8 htab h6 hb0 hc0
  go_enter Tryz.func10, Tryz.ntmps10
  go_wp2_with (refine wpList_load_row rfl 66 (.tmp 8) rfl w.heap.size rfl 66 #[.string name, .int .i64 port, .slice A1 n1 c1, .slice A2 lp.length c2, .slice A3 lf.length c3, .slice A4 n4 c4, .slice A5 n5 c5, .slice A6 lb.length c6, .slice A7 n7 c7, .slice A8 la.length c8] (0, 0) _ HB0.out Tryz.underlying66 rfl Tryz.size66 ?_)
  obtain ⟨B, hB⟩ : ∃ B, w.heap.size = B := ⟨_, rfl⟩
  have HBS := Lib.hid hB
  rw [hB] at HB0 ⊢
  clear hB
  generalize (w.alloc (.cells #[.string name, .int .i64 port, .slice A1 n1 c1, .slice A2 lp.length c2, .slice A3 lf.length c3, .slice A4 n4 c4, .slice A5 n5 c5, .slice A6 lb.length c6, .slice A7 n7 c7, .slice A8 la.length c8] 66)) = W0 at *
  refine (zzFits17_any (HM.out.ch HC0.out)).mono ?_
  rintro e W1 ⟨⟨r, rfl, hr⟩, hc1⟩
  have HB1 := Lib.hid ((hc1.block _ (blk_lt HB0.out) id).trans HB0.out)
  have HC1 := Lib.hid (HC0.out.trans hc1)
  clear hc1
  cases r with
  | false =>
    clear hr
    go_wp2
    go_ret
    exact ⟨rfl, HC1.out⟩
  | true =>
  obtain ⟨-, hlp, hlf0, hlb, hla0⟩ := hr rfl
  clear hr
  by_cases hkk : 2147483647 < kk.size
  · go_wp2
    go_ret
    exact ⟨rfl, HC1.out⟩
  by_cases hvv : 2147483647 < vv.size
  · go_wp2
    go_ret
    exact ⟨rfl, HC1.out⟩
  by_cases hnm : 2147483647 < nm.size
  · go_wp2
    go_ret
    exact ⟨rfl, HC1.out⟩
  by_cases hfm : 2147483647 < fm.size
  · go_wp2
    go_ret
    exact ⟨rfl, HC1.out⟩
  have k9 : W1.cell? ⟨B, 9, none⟩ = some (.slice A8 la.length c8) := blk_cell HB1.out rfl
  have k4 : W1.cell? ⟨B, 4, none⟩ = some (.slice A3 lf.length c3) := blk_cell HB1.out rfl
  have h61 := HC1.out.cell H6.out id
  have h61l := World.block_lt_of_cell? _ _ h61
  by_cases hla : 20 < la.length
  · go_wp2_with (go_at_call 13; refine (works_true h61 h61l).mono ?_; rintro e w1 ⟨rfl, hc⟩)
    go_ret
    exact ⟨rfl, HC1.out.trans hc⟩
  by_cases hlf : 20 < lf.length
  · go_wp2_with (go_at_call 13; refine (works_true h61 h61l).mono ?_; rintro e w1 ⟨rfl, hc⟩)
    go_ret
    exact ⟨rfl, HC1.out.trans hc⟩
  by_cases hp0 : z3 < 0
  · go_wp2_with (go_at_call 13; refine (works_true h61 h61l).mono ?_; rintro e w1 ⟨rfl, hc⟩)
    go_ret
    exact ⟨rfl, HC1.out.trans hc⟩
  by_cases hp1 : 255 < z3
  · go_wp2_with (go_at_call 13; refine (works_true h61 h61l).mono ?_; rintro e w1 ⟨rfl, hc⟩)
    go_ret
    exact ⟨rfl, HC1.out.trans hc⟩
  by_cases hq0 : z4 < 0
  · go_wp2_with (go_at_call 13; refine (works_true h61 h61l).mono ?_; rintro e w1 ⟨rfl, hc⟩)
    go_ret
    exact ⟨rfl, HC1.out.trans hc⟩
  by_cases hq1 : 1000000 < z4
  · go_wp2_with (go_at_call 13; refine (works_true h61 h61l).mono ?_; rintro e w1 ⟨rfl, hc⟩)
    go_ret
    exact ⟨rfl, HC1.out.trans hc⟩
  by_cases hr0 : z5 < 0
  · go_wp2_with (go_at_call 13; refine (works_true h61 h61l).mono ?_; rintro e w1 ⟨rfl, hc⟩)
    go_ret
    exact ⟨rfl, HC1.out.trans hc⟩
  by_cases hr1 : 100 < z5
  · go_wp2_with (go_at_call 13; refine (works_true h61 h61l).mono ?_; rintro e w1 ⟨rfl, hc⟩)
    go_ret
    exact ⟨rfl, HC1.out.trans hc⟩
  have HW1 := Lib.hid (word_any (s := nm) (by omega) W1)
  have HW2 := Lib.hid (word_any (s := kk) (by omega) W1)
  go_wp2_with fail
  refine HW1.out.mono ?_
  rintro e w1 ⟨⟨r, rfl, -⟩, rfl⟩
  cases r with
  | false =>
    go_wp2_with (go_at_call 13; refine (works_true h61 h61l).mono ?_; rintro e w1 ⟨rfl, hc⟩)
    go_ret
    exact ⟨rfl, HC1.out.trans hc⟩
  | true =>
  go_wp2_with fail
  refine HW2.out.mono ?_
  rintro e w1 ⟨⟨r, rfl, -⟩, rfl⟩
  cases r with
  | false =>
    go_wp2_with (go_at_call 13; refine (works_true h61 h61l).mono ?_; rintro e w1 ⟨rfl, hc⟩)
    go_ret
    exact ⟨rfl, HC1.out.trans hc⟩
  | true =>
  obtain ⟨pay, rfl⟩ := Int.eq_ofNat_of_zero_le (show 0 ≤ z3 by omega)
  obtain ⟨z, rfl⟩ := Int.eq_ofNat_of_zero_le (show 0 ≤ z4 by omega)
  obtain ⟨ch, rfl⟩ := Int.eq_ofNat_of_zero_le (show 0 ≤ z5 by omega)
  have hpay : pay ≤ 255 := by omega
  have hz : z ≤ 1000000 := by omega
  have hch : ch ≤ 100 := by omega
  obtain ⟨lg1, hlg1⟩ : ∃ l : List (ByteArray × ByteArray), l = la ++ [(kk, vv)] := ⟨_, rfl⟩
  obtain ⟨lg2, hlg2⟩ : ∃ l : List (ByteArray × ByteArray), l = la ++ [(kk, (⟨#[]⟩ : ByteArray))] := ⟨_, rfl⟩
  have HWA := Lib.hid (fun (W : World) (h1 : MedRd W A1 A2 A3 A4 A5 A6 A7 A8 n1 lp.length lf.length n4 n5 lb.length n7 la.length) (h2 : Lst W 1 strC A2 lp) (h3 : Lst W 1 strC A3 lf) (h4 : Lst W 3 bandC A6 lb) (h5 : Lst W 2 attrC A8 la) => withAttribute_any (lg := lg1) (name := name) (port := port) (c1 := c1) (c2 := c2) (c3 := c3) (c4 := c4) (c5 := c5) (c6 := c6) (c7 := c7) (c8 := c8) h1 h2 h3 h4 h5 hlp (by omega) hlb (by omega) hlg1)
  have HWP := Lib.hid (fun (W : World) (h1 : MedRd W A1 A2 A3 A4 A5 A6 A7 A8 n1 lp.length lf.length n4 n5 lb.length n7 la.length) (h2 : Lst W 1 strC A2 lp) (h3 : Lst W 1 strC A3 lf) (h4 : Lst W 3 bandC A6 lb) (h5 : Lst W 2 attrC A8 la) => implProperty_any (lg := lg2) (name := name) (port := port) (c1 := c1) (c2 := c2) (c3 := c3) (c4 := c4) (c5 := c5) (c6 := c6) (c7 := c7) (c8 := c8) h1 h2 h3 h4 h5 hlp (by omega) hlb (by omega) hlg2)
  have HLG1 := Lib.hid hlg1
  have HLG2 := Lib.hid hlg2
  clear hlg1 hlg2 k9 k4 h61 h61l HW1 HW2
  go_upto_region 5 with fail
  refine wp_region_ops3 (by kernel_rfl) [89, 90, 91, 92, 93, 94, 95, 96, 97, 98, 99, 100, 101, 102, 103, 104, 105, 106, 107, 108, 109] 21 [(100, false)] (by kernel_rfl) (by kernel_rfl) (by kernel_rfl) (wi5T name kk vv port A1 A2 A3 A4 A5 A6 A7 A8 n1 n4 n5 n7 c1 c2 c3 c4 c5 c6 c7 c8 lp lf lb la lg1 lg2) (Ch (fun _ => False)) (Ch.refl _) (fun _ _ _ => Ch.trans) (fun _ _ _ _ => wi5T_stays) ?_ ?_ ?_
  · intro pp hp v W' hT
    obtain rfl : pp = (100, false) := by simpa using hp
    exact hT
  · intro i oo hi ho A W' hR hr hx K hK
    have hR0 := (Ch.of_heap (Ch.refl _ W1) (w' := W1.drew) rfl rfl rfl rfl).trans hR
    have hB : W'.heap[B]? = some (.cells #[.string name, .int .i64 port, .slice A1 n1 c1, .slice A2 lp.length c2, .slice A3 lf.length c3, .slice A4 n4 c4, .slice A5 n5 c5, .slice A6 lb.length c6, .slice A7 n7 c7, .slice A8 la.length c8] 66 (0, 0)) := (hR0.block B (blk_lt HB1.out) id).trans HB1.out
    have hRw := HC1.out.trans hR0
    have hm := HM.out.ch hRw
    have hl2 := H2.out.ch hRw
    have hl3 := H3.out.ch hRw
    have hl6 := H6B.out.ch hRw
    have hl8 := H8.out.ch hRw
    have h6 := hRw.cell H6.out id
    have h6l := World.block_lt_of_cell? _ _ h6
    have hla : la.length ≤ 20 := by omega
    clear hR hR0 hRw
    exact match i, hi, ho with
      | 0, _, ho => by
        obtain rfl := Option.some.inj ho
        have e8 : A.tmps[8]?.getD undef = .pointer (some ⟨B, 0, none⟩) := (eval_getD A 8).symm.trans (hx 8 (by decide))
        have l0 : W'.cell? ⟨B, 0, none⟩ = some (.string name) := blk_cell hB rfl
        have l1 : W'.cell? ⟨B, 1, none⟩ = some (.int .i64 port) := blk_cell hB rfl
        have l2 : W'.cell? ⟨B, 2, none⟩ = some (.slice A1 n1 c1) := blk_cell hB rfl
        have l3 : W'.cell? ⟨B, 3, none⟩ = some (.slice A2 lp.length c2) := blk_cell hB rfl
        have l4 : W'.cell? ⟨B, 4, none⟩ = some (.slice A3 lf.length c3) := blk_cell hB rfl
        have l5 : W'.cell? ⟨B, 5, none⟩ = some (.slice A4 n4 c4) := blk_cell hB rfl
        have l6 : W'.cell? ⟨B, 6, none⟩ = some (.slice A5 n5 c5) := blk_cell hB rfl
        have l7 : W'.cell? ⟨B, 7, none⟩ = some (.slice A6 lb.length c6) := blk_cell hB rfl
        have l8 : W'.cell? ⟨B, 8, none⟩ = some (.slice A7 n7 c7) := blk_cell hB rfl
        have l9 : W'.cell? ⟨B, 9, none⟩ = some (.slice A8 la.length c8) := blk_cell hB rfl
        unfold Oper.wp execOp
        go_simp
        exact hK _ _ (fun d hd => by cases hd; exact rfl) (Ch.refl _ _)
      | 1, _, ho => by
        obtain rfl := Option.some.inj ho
        have e1 : A.tmps[1]?.getD undef = .string kk := (eval_getD A 1).symm.trans (hx 1 (by decide))
        unfold Oper.wp execOp
        go_simp
        exact hK _ _ (fun d hd => by cases hd; exact rfl) (Ch.refl _ _)
      | 2, _, ho => by
        obtain rfl := Option.some.inj ho
        have e2 : A.tmps[2]?.getD undef = .string vv := (eval_getD A 2).symm.trans (hx 2 (by decide))
        unfold Oper.wp execOp
        go_simp
        exact hK _ _ (fun d hd => by cases hd; exact rfl) (Ch.refl _ _)
      | 3, _, ho => by
        obtain rfl := Option.some.inj ho
        have e89 : A.tmps[89]?.getD undef = .agg #[.string name, .int .i64 port, .slice A1 n1 c1, .slice A2 lp.length c2, .slice A3 lf.length c3, .slice A4 n4 c4, .slice A5 n5 c5, .slice A6 lb.length c6, .slice A7 n7 c7, .slice A8 la.length c8] := (eval_getD A 89).symm.trans (hr 89 (by decide) (by decide))
        have e90 : A.tmps[90]?.getD undef = .string kk := (eval_getD A 90).symm.trans (hr 90 (by decide) (by decide))
        have e91 : A.tmps[91]?.getD undef = .string vv := (eval_getD A 91).symm.trans (hr 91 (by decide) (by decide))
        unfold Oper.wp execOp
        go_simp
        (go_at_call 34; refine (HWA.out W' hm hl2 hl3 hl6 hl8).mono ?_; rintro e W2 ⟨S1, m1, d1, S2, d2, S3, d3, S4, m4, d4, S5, m5, d5, S6, d6, S7, m7, d7, S8, d8, m2, m6, rfl, _, ho8, hcp⟩)
        exact hK _ _ (fun d hd => by cases hd; exact ⟨S1, m1, d1, S2, d2, S3, d3, S4, m4, d4, S5, m5, d5, S6, d6, S7, m7, d7, S8, d8, m2, m6, rfl, ho8⟩) (hcp)
      | 4, _, ho => by
        obtain rfl := Option.some.inj ho
        have e8 : A.tmps[8]?.getD undef = .pointer (some ⟨B, 0, none⟩) := (eval_getD A 8).symm.trans (hx 8 (by decide))
        have l0 : W'.cell? ⟨B, 0, none⟩ = some (.string name) := blk_cell hB rfl
        have l1 : W'.cell? ⟨B, 1, none⟩ = some (.int .i64 port) := blk_cell hB rfl
        have l2 : W'.cell? ⟨B, 2, none⟩ = some (.slice A1 n1 c1) := blk_cell hB rfl
        have l3 : W'.cell? ⟨B, 3, none⟩ = some (.slice A2 lp.length c2) := blk_cell hB rfl
        have l4 : W'.cell? ⟨B, 4, none⟩ = some (.slice A3 lf.length c3) := blk_cell hB rfl
        have l5 : W'.cell? ⟨B, 5, none⟩ = some (.slice A4 n4 c4) := blk_cell hB rfl
        have l6 : W'.cell? ⟨B, 6, none⟩ = some (.slice A5 n5 c5) := blk_cell hB rfl
        have l7 : W'.cell? ⟨B, 7, none⟩ = some (.slice A6 lb.length c6) := blk_cell hB rfl
        have l8 : W'.cell? ⟨B, 8, none⟩ = some (.slice A7 n7 c7) := blk_cell hB rfl
        have l9 : W'.cell? ⟨B, 9, none⟩ = some (.slice A8 la.length c8) := blk_cell hB rfl
        unfold Oper.wp execOp
        go_simp
        exact hK _ _ (fun d hd => by cases hd; exact rfl) (Ch.refl _ _)
      | 5, _, ho => by
        obtain rfl := Option.some.inj ho
        have e1 : A.tmps[1]?.getD undef = .string kk := (eval_getD A 1).symm.trans (hx 1 (by decide))
        unfold Oper.wp execOp
        go_simp
        exact hK _ _ (fun d hd => by cases hd; exact rfl) (Ch.refl _ _)
      | 6, _, ho => by
        obtain rfl := Option.some.inj ho
        have e2 : A.tmps[2]?.getD undef = .string vv := (eval_getD A 2).symm.trans (hx 2 (by decide))
        unfold Oper.wp execOp
        go_simp
        exact hK _ _ (fun d hd => by cases hd; exact rfl) (Ch.refl _ _)
      | 7, _, ho => by
        obtain rfl := Option.some.inj ho
        have e94 : A.tmps[94]?.getD undef = .string kk := (eval_getD A 94).symm.trans (hr 94 (by decide) (by decide))
        have e95 : A.tmps[95]?.getD undef = .string vv := (eval_getD A 95).symm.trans (hr 95 (by decide) (by decide))
        unfold Oper.wp execOp
        go_simp
        exact hK _ _ (fun d hd => by cases hd; exact rfl) (Ch.refl _ _)
      | 8, _, ho => by
        obtain rfl := Option.some.inj ho
        have e96 : A.tmps[96]?.getD undef = .agg #[.string kk, .string vv] := (eval_getD A 96).symm.trans (hr 96 (by decide) (by decide))
        unfold Oper.wp execOp
        go_simp
        exact hK _ _ (fun d hd => by cases hd; exact ⟨_, rfl, heap_alloc_new _ _⟩) (Ch.grown (World.grownBy_alloc _ _ none) (by simp))
      | 9, _, ho => by
        obtain rfl := Option.some.inj ho
        obtain ⟨S192, m192, d192, S292, d292, S392, d392, S492, m492, d492, S592, m592, d592, S692, d692, S792, m792, d792, S892, d892, m292, m692, eq92_, p92_0⟩ : ∃ (S1 : Option Addr) (m1 : Nat) (d1 : Nat) (S2 : Option Addr) (d2 : Nat) (S3 : Option Addr) (d3 : Nat) (S4 : Option Addr) (m4 : Nat) (d4 : Nat) (S5 : Option Addr) (m5 : Nat) (d5 : Nat) (S6 : Option Addr) (d6 : Nat) (S7 : Option Addr) (m7 : Nat) (d7 : Nat) (S8 : Option Addr) (d8 : Nat) (m2 : Nat) (m6 : Nat), A.eval (.tmp 92) = .agg #[.string name, .int .i64 port, .slice S1 m1 d1, .slice S2 m2 d2, .slice S3 lf.length d3, .slice S4 m4 d4, .slice S5 m5 d5, .slice S6 m6 d6, .slice S7 m7 d7, .slice S8 lg1.length d8] ∧ W'.ownsRow 0 73 2 (.slice S8 lg1.length d8) lg1.length (lg1.flatMap attrC) := hr 92 (by decide) (by decide)
        have e92 : A.tmps[92]?.getD undef = .agg #[.string name, .int .i64 port, .slice S192 m192 d192, .slice S292 m292 d292, .slice S392 lf.length d392, .slice S492 m492 d492, .slice S592 m592 d592, .slice S692 m692 d692, .slice S792 m792 d792, .slice S892 lg1.length d892] := (eval_getD A 92).symm.trans eq92_
        have e93 : A.tmps[93]?.getD undef = .agg #[.string name, .int .i64 port, .slice A1 n1 c1, .slice A2 lp.length c2, .slice A3 lf.length c3, .slice A4 n4 c4, .slice A5 n5 c5, .slice A6 lb.length c6, .slice A7 n7 c7, .slice A8 la.length c8] := (eval_getD A 93).symm.trans (hr 93 (by decide) (by decide))
        obtain ⟨k97, eq97_, p97_0⟩ : ∃ (k : Nat), A.eval (.tmp 97) = .slice (some ⟨k, 0, none⟩) 1 1 ∧ W'.heap[k]? = some (.cells #[.string kk, .string vv] 73 (0, 0)) := hr 97 (by decide) (by decide)
        have e97 : A.tmps[97]?.getD undef = .slice (some ⟨k97, 0, none⟩) 1 1 := (eval_getD A 97).symm.trans eq97_
        unfold Oper.wp execOp
        go_simp
        have hlx := lst_block (size := 2) (f := attrC) (l := [(kk, vv)]) (fun _ => rfl) p97_0 rfl
        (go_at_call 30; refine (appended_any (lx := [(kk, vv)]) HLG1.out (Lst.of_slice (f := attrC) (fun _ => rfl) p92_0 rfl) hl8 hlx hla (by simp)).mono ?_; rintro e W2 ⟨rfl, hcp⟩)
        exact hK _ _ (fun d hd => by cases hd; exact rfl) (hcp)
      | 10, _, ho => by
        obtain rfl := Option.some.inj ho
        have e98 : A.tmps[98]?.getD undef = .bool true := (eval_getD A 98).symm.trans (hr 98 (by decide) (by decide))
        unfold Oper.wp execOp
        go_simp
        exact hK _ _ (fun d hd => by cases hd; exact rfl) (Ch.refl _ _)
      | 11, _, ho => by
        obtain rfl := Option.some.inj ho
        have e99 : A.tmps[99]?.getD undef = .bool false := (eval_getD A 99).symm.trans (hr 99 (by decide) (by decide))
        unfold Oper.wp execOp
        go_simp
        exact hK _ _ (fun d hd => by cases hd; exact rfl) (Ch.refl _ _)
      | 12, _, ho => by
        obtain rfl := Option.some.inj ho
        have e8 : A.tmps[8]?.getD undef = .pointer (some ⟨B, 0, none⟩) := (eval_getD A 8).symm.trans (hx 8 (by decide))
        have l0 : W'.cell? ⟨B, 0, none⟩ = some (.string name) := blk_cell hB rfl
        have l1 : W'.cell? ⟨B, 1, none⟩ = some (.int .i64 port) := blk_cell hB rfl
        have l2 : W'.cell? ⟨B, 2, none⟩ = some (.slice A1 n1 c1) := blk_cell hB rfl
        have l3 : W'.cell? ⟨B, 3, none⟩ = some (.slice A2 lp.length c2) := blk_cell hB rfl
        have l4 : W'.cell? ⟨B, 4, none⟩ = some (.slice A3 lf.length c3) := blk_cell hB rfl
        have l5 : W'.cell? ⟨B, 5, none⟩ = some (.slice A4 n4 c4) := blk_cell hB rfl
        have l6 : W'.cell? ⟨B, 6, none⟩ = some (.slice A5 n5 c5) := blk_cell hB rfl
        have l7 : W'.cell? ⟨B, 7, none⟩ = some (.slice A6 lb.length c6) := blk_cell hB rfl
        have l8 : W'.cell? ⟨B, 8, none⟩ = some (.slice A7 n7 c7) := blk_cell hB rfl
        have l9 : W'.cell? ⟨B, 9, none⟩ = some (.slice A8 la.length c8) := blk_cell hB rfl
        unfold Oper.wp execOp
        go_simp
        exact hK _ _ (fun d hd => by cases hd; exact rfl) (Ch.refl _ _)
      | 13, _, ho => by
        obtain rfl := Option.some.inj ho
        have e1 : A.tmps[1]?.getD undef = .string kk := (eval_getD A 1).symm.trans (hx 1 (by decide))
        unfold Oper.wp execOp
        go_simp
        exact hK _ _ (fun d hd => by cases hd; exact rfl) (Ch.refl _ _)
      | 14, _, ho => by
        obtain rfl := Option.some.inj ho
        have e101 : A.tmps[101]?.getD undef = .agg #[.string name, .int .i64 port, .slice A1 n1 c1, .slice A2 lp.length c2, .slice A3 lf.length c3, .slice A4 n4 c4, .slice A5 n5 c5, .slice A6 lb.length c6, .slice A7 n7 c7, .slice A8 la.length c8] := (eval_getD A 101).symm.trans (hr 101 (by decide) (by decide))
        have e102 : A.tmps[102]?.getD undef = .string kk := (eval_getD A 102).symm.trans (hr 102 (by decide) (by decide))
        unfold Oper.wp execOp
        go_simp
        (go_at_call 35; refine (HWP.out W' hm hl2 hl3 hl6 hl8).mono ?_; rintro e W2 ⟨S1, m1, d1, S2, d2, S3, d3, S4, m4, d4, S5, m5, d5, S6, d6, S7, m7, d7, S8, d8, m2, m6, rfl, _, ho8, hcp⟩)
        exact hK _ _ (fun d hd => by cases hd; exact ⟨S1, m1, d1, S2, d2, S3, d3, S4, m4, d4, S5, m5, d5, S6, d6, S7, m7, d7, S8, d8, m2, m6, rfl, ho8⟩) (hcp)
      | 15, _, ho => by
        obtain rfl := Option.some.inj ho
        have e8 : A.tmps[8]?.getD undef = .pointer (some ⟨B, 0, none⟩) := (eval_getD A 8).symm.trans (hx 8 (by decide))
        have l0 : W'.cell? ⟨B, 0, none⟩ = some (.string name) := blk_cell hB rfl
        have l1 : W'.cell? ⟨B, 1, none⟩ = some (.int .i64 port) := blk_cell hB rfl
        have l2 : W'.cell? ⟨B, 2, none⟩ = some (.slice A1 n1 c1) := blk_cell hB rfl
        have l3 : W'.cell? ⟨B, 3, none⟩ = some (.slice A2 lp.length c2) := blk_cell hB rfl
        have l4 : W'.cell? ⟨B, 4, none⟩ = some (.slice A3 lf.length c3) := blk_cell hB rfl
        have l5 : W'.cell? ⟨B, 5, none⟩ = some (.slice A4 n4 c4) := blk_cell hB rfl
        have l6 : W'.cell? ⟨B, 6, none⟩ = some (.slice A5 n5 c5) := blk_cell hB rfl
        have l7 : W'.cell? ⟨B, 7, none⟩ = some (.slice A6 lb.length c6) := blk_cell hB rfl
        have l8 : W'.cell? ⟨B, 8, none⟩ = some (.slice A7 n7 c7) := blk_cell hB rfl
        have l9 : W'.cell? ⟨B, 9, none⟩ = some (.slice A8 la.length c8) := blk_cell hB rfl
        unfold Oper.wp execOp
        go_simp
        exact hK _ _ (fun d hd => by cases hd; exact rfl) (Ch.refl _ _)
      | 16, _, ho => by
        obtain rfl := Option.some.inj ho
        have e1 : A.tmps[1]?.getD undef = .string kk := (eval_getD A 1).symm.trans (hx 1 (by decide))
        unfold Oper.wp execOp
        go_simp
        exact hK _ _ (fun d hd => by cases hd; exact rfl) (Ch.refl _ _)
      | 17, _, ho => by
        obtain rfl := Option.some.inj ho
        have e105 : A.tmps[105]?.getD undef = .string kk := (eval_getD A 105).symm.trans (hr 105 (by decide) (by decide))
        unfold Oper.wp execOp
        go_simp
        exact hK _ _ (fun d hd => by cases hd; exact rfl) (Ch.refl _ _)
      | 18, _, ho => by
        obtain rfl := Option.some.inj ho
        have e106 : A.tmps[106]?.getD undef = .agg #[.string kk, .string ⟨#[]⟩] := (eval_getD A 106).symm.trans (hr 106 (by decide) (by decide))
        unfold Oper.wp execOp
        go_simp
        exact hK _ _ (fun d hd => by cases hd; exact ⟨_, rfl, heap_alloc_new _ _⟩) (Ch.grown (World.grownBy_alloc _ _ none) (by simp))
      | 19, _, ho => by
        obtain rfl := Option.some.inj ho
        obtain ⟨S1103, m1103, d1103, S2103, d2103, S3103, d3103, S4103, m4103, d4103, S5103, m5103, d5103, S6103, d6103, S7103, m7103, d7103, S8103, d8103, m2103, m6103, eq103_, p103_0⟩ : ∃ (S1 : Option Addr) (m1 : Nat) (d1 : Nat) (S2 : Option Addr) (d2 : Nat) (S3 : Option Addr) (d3 : Nat) (S4 : Option Addr) (m4 : Nat) (d4 : Nat) (S5 : Option Addr) (m5 : Nat) (d5 : Nat) (S6 : Option Addr) (d6 : Nat) (S7 : Option Addr) (m7 : Nat) (d7 : Nat) (S8 : Option Addr) (d8 : Nat) (m2 : Nat) (m6 : Nat), A.eval (.tmp 103) = .agg #[.string name, .int .i64 port, .slice S1 m1 d1, .slice S2 m2 d2, .slice S3 lf.length d3, .slice S4 m4 d4, .slice S5 m5 d5, .slice S6 m6 d6, .slice S7 m7 d7, .slice S8 lg2.length d8] ∧ W'.ownsRow 0 73 2 (.slice S8 lg2.length d8) lg2.length (lg2.flatMap attrC) := hr 103 (by decide) (by decide)
        have e103 : A.tmps[103]?.getD undef = .agg #[.string name, .int .i64 port, .slice S1103 m1103 d1103, .slice S2103 m2103 d2103, .slice S3103 lf.length d3103, .slice S4103 m4103 d4103, .slice S5103 m5103 d5103, .slice S6103 m6103 d6103, .slice S7103 m7103 d7103, .slice S8103 lg2.length d8103] := (eval_getD A 103).symm.trans eq103_
        have e104 : A.tmps[104]?.getD undef = .agg #[.string name, .int .i64 port, .slice A1 n1 c1, .slice A2 lp.length c2, .slice A3 lf.length c3, .slice A4 n4 c4, .slice A5 n5 c5, .slice A6 lb.length c6, .slice A7 n7 c7, .slice A8 la.length c8] := (eval_getD A 104).symm.trans (hr 104 (by decide) (by decide))
        obtain ⟨k107, eq107_, p107_0⟩ : ∃ (k : Nat), A.eval (.tmp 107) = .slice (some ⟨k, 0, none⟩) 1 1 ∧ W'.heap[k]? = some (.cells #[.string kk, .string ⟨#[]⟩] 73 (0, 0)) := hr 107 (by decide) (by decide)
        have e107 : A.tmps[107]?.getD undef = .slice (some ⟨k107, 0, none⟩) 1 1 := (eval_getD A 107).symm.trans eq107_
        unfold Oper.wp execOp
        go_simp
        have hlx := lst_block (size := 2) (f := attrC) (l := [(kk, (⟨#[]⟩ : ByteArray))]) (fun _ => rfl) p107_0 rfl
        (go_at_call 30; refine (appended_any (lx := [(kk, (⟨#[]⟩ : ByteArray))]) HLG2.out (Lst.of_slice (f := attrC) (fun _ => rfl) p103_0 rfl) hl8 hlx hla (by simp)).mono ?_; rintro e W2 ⟨rfl, hcp⟩)
        exact hK _ _ (fun d hd => by cases hd; exact rfl) (hcp)
      | 20, _, ho => by
        obtain rfl := Option.some.inj ho
        have e108 : A.tmps[108]?.getD undef = .bool true := (eval_getD A 108).symm.trans (hr 108 (by decide) (by decide))
        unfold Oper.wp execOp
        go_simp
        exact hK _ _ (fun d hd => by cases hd; exact rfl) (Ch.refl _ _)
      | n + 21, hi, _ => absurd hi (by omega)

  · intro oo ho u W3 hR hu
    obtain rfl := Option.some.inj ho
    have hv1 : u 100 = .bool false := hu 100 (by decide)
    have hv2 : u 109 = .bool false := hu 109 (by decide)
    have hR0 := (Ch.of_heap (Ch.refl _ W1) (w' := W1.drew) rfl rfl rfl rfl).trans hR
    have HC3 := Lib.hid (HC1.out.trans hR0)
    have HB3 := Lib.hid ((hR0.block _ (blk_lt HB1.out) id).trans HB1.out)
    clear hR hu hR0
    rw [wi5_frame, hv1, hv2]
    unfold Oper.wp execOp
    go_simp
    clear hv1 hv2 HWA HWP HLG1 HLG2 HB1 HC1 HB0
    obtain ⟨D, hD⟩ : ∃ D : ByteArray, (ByteArray.mk (Lib.decDigits pay).toArray) = D := ⟨_, rfl⟩
    obtain ⟨Dz, hDz⟩ : ∃ D : ByteArray, (ByteArray.mk (Lib.decDigits z).toArray) = D := ⟨_, rfl⟩
    obtain ⟨Dc, hDc⟩ : ∃ D : ByteArray, (ByteArray.mk (Lib.decDigits ch).toArray) = D := ⟨_, rfl⟩
    have hd : D.size ≤ 20 := by rw [← hD]; exact dec_len 19 pay (Nat.lt_of_le_of_lt hpay (by decide))
    have hdz : Dz.size ≤ 20 := by rw [← hDz]; exact dec_len 19 z (Nat.lt_of_le_of_lt hz (by decide))
    have hdc : Dc.size ≤ 20 := by rw [← hDc]; exact dec_len 19 ch (Nat.lt_of_le_of_lt hch (by decide))
    have HF := Lib.hid (fun W => decimal_ok pay (by omega) W)
    have HFz := Lib.hid (fun W => decimal_ok z (by omega) W)
    have HFc := Lib.hid (fun W => decimal_ok ch (by omega) W)
    have HWC := Lib.hid (fun (W : World) (lg : List (ByteArray × ByteArray)) (lgf : List ByteArray) (lx : List (ByteArray × ByteArray)) (h1 : MedRd W A1 A2 A3 A4 A5 A6 A7 A8 n1 lp.length lf.length n4 n5 lb.length n7 la.length) (h2 : Lst W 1 strC A2 lp) (h3 : Lst W 1 strC A3 lf) (h4 : Lst W 3 bandC A6 lb) (h5 : Lst W 2 attrC A8 la) hxl ht hlx hlg hlgf => implCodec_any (lg := lg) (lg2 := lgf) (lx := lx) (pay := pay) (z := z) (ch := ch) (nm := nm) (fm := fm) (name := name) (port := port) (c1 := c1) (c2 := c2) (c3 := c3) (c4 := c4) (c5 := c5) (c6 := c6) (c7 := c7) (c8 := c8) h1 h2 h3 h4 h5 hlp (by omega) hlb (by omega) hpay (by omega) hch (by omega) (by omega) (by omega) hxl ht hlx hlg hlgf)
    rw [hD] at HF HWC
    rw [hDz] at HFz HWC
    rw [hDc] at HFc HWC
    clear hD hDz hDc
    have hw1 : IntKind.u64.wrap (pay : Int) = pay := by rw [IntKind.wrap_u64]; omega
    have hw2 : IntKind.u64.wrap (z : Int) = z := by rw [IntKind.wrap_u64]; omega
    have hw3 : IntKind.u64.wrap (ch : Int) = ch := by rw [IntKind.wrap_u64]; omega
    have hw4 : IntKind.u32.wrap (z : Int) = z := by rw [IntKind.wrap_u32]; omega
    have z1 : (D ++ (ByteArray.mk #[32])).size = D.size + (ByteArray.mk #[32]).size := ByteArray.size_append
    have z2 : ((D ++ (ByteArray.mk #[32])) ++ nm).size = (D ++ (ByteArray.mk #[32])).size + nm.size := ByteArray.size_append
    have z3 : ((D ++ (ByteArray.mk #[32]) ++ nm) ++ (ByteArray.mk #[47])).size = (D ++ (ByteArray.mk #[32]) ++ nm).size + (ByteArray.mk #[47]).size := ByteArray.size_append
    have z4 : ((D ++ (ByteArray.mk #[32]) ++ nm ++ (ByteArray.mk #[47])) ++ Dz).size = (D ++ (ByteArray.mk #[32]) ++ nm ++ (ByteArray.mk #[47])).size + Dz.size := ByteArray.size_append
    have z5 : ((ByteArray.mk #[47]) ++ Dc).size = (ByteArray.mk #[47]).size + Dc.size := ByteArray.size_append
    have z6 : ((D ++ (ByteArray.mk #[32]) ++ nm ++ (ByteArray.mk #[47]) ++ Dz) ++ ((ByteArray.mk #[47]) ++ Dc)).size = (D ++ (ByteArray.mk #[32]) ++ nm ++ (ByteArray.mk #[47]) ++ Dz).size + ((ByteArray.mk #[47]) ++ Dc).size := ByteArray.size_append
    have z7 : ((D ++ (ByteArray.mk #[32])) ++ fm).size = (D ++ (ByteArray.mk #[32])).size + fm.size := ByteArray.size_append
    have y1 : (ByteArray.mk #[32]).size = 1 := rfl
    have y2 : (ByteArray.mk #[47]).size = 1 := rfl
    go_wp2_with fail
    refine (HF.out W3).mono ?_
    rintro e W4 ⟨rfl, hc4⟩
    have HC4 := Lib.hid (HC3.out.trans hc4)
    have HB4 := Lib.hid ((hc4.block _ (blk_lt HB3.out) id).trans HB3.out)
    clear hc4 HC3 HB3
    go_wp2_with fail
    refine (HFz.out W4).mono ?_
    rintro e W5 ⟨rfl, hc5⟩
    have HC5 := Lib.hid (HC4.out.trans hc5)
    have HB5 := Lib.hid ((hc5.block _ (blk_lt HB4.out) id).trans HB4.out)
    clear hc5 HC4 HB4
    go_upto_if 124 with fail
    go_cut [18] from 21 to 130 (fun s18 wx => ∃ V, s18 = .string V ∧ V.size ≤ 2147483750 ∧ ((ch = 0 ∧ V = D ++ (ByteArray.mk #[32]) ++ nm ++ (ByteArray.mk #[47]) ++ Dz) ∨ (0 < ch ∧ V = D ++ (ByteArray.mk #[32]) ++ nm ++ (ByteArray.mk #[47]) ++ Dz ++ ((ByteArray.mk #[47]) ++ Dc))) ∧ Ch (fun _ => False) w wx ∧ wx.heap[B]? = some (.cells #[.string name, .int .i64 port, .slice A1 n1 c1, .slice A2 lp.length c2, .slice A3 lf.length c3, .slice A4 n4 c4, .slice A5 n5 c5, .slice A6 lb.length c6, .slice A7 n7 c7, .slice A8 la.length c8] 66 (0, 0)))
    case first =>
      by_cases hc0 : ch = 0
      · have hcz : ¬ ((0 : Int) < (ch : Int)) := by omega
        have HC0' := Lib.hid hc0
        clear hc0
        go_wp2_with fail
        go_meet
        exact ⟨_, rfl, by omega, .inl ⟨HC0'.out, rfl⟩, HC5.out, HB5.out⟩
      · have hcp : (0 : Int) < (ch : Int) := by omega
        go_wp2_with (refine (HFc.out W5).mono ?_; rintro e W6 ⟨rfl, hc6⟩; have HC6 := Lib.hid (HC5.out.trans hc6); have HB6 := Lib.hid ((hc6.block _ (blk_lt HB5.out) id).trans HB5.out); clear hc6)
        go_meet
        exact ⟨_, rfl, by omega, .inr ⟨by omega, rfl⟩, HC6.out, HB6.out⟩
    case rest =>
    obtain ⟨V, rfl, hVs, hV, hcw, hbw⟩ := hcut
    have HCc := Lib.hid hcw
    have HBc := Lib.hid hbw
    have HV := Lib.hid hV
    clear hcw hbw hV HC5 HB5 HF HFz HFc
    go_upto_if 135 with fail
    have hal : Ch (fun _ => False) wc (wc.alloc (.cells #[.string (ByteArray.mk #[114, 116, 112, 109, 97, 112]), .string V] 73)) := Ch.grown (World.grownBy_alloc _ _ none) (by simp)
    have hkb : (wc.alloc (.cells #[.string (ByteArray.mk #[114, 116, 112, 109, 97, 112]), .string V] 73)).heap[wc.heap.size]? = some (.cells #[.string (ByteArray.mk #[114, 116, 112, 109, 97, 112]), .string V] 73 (0, 0)) := heap_alloc_new _ _
    have HK := Lib.hid hkb
    have HCk := Lib.hid (HCc.out.trans hal)
    have HBk := Lib.hid ((hal.block _ (blk_lt HBc.out) id).trans HBc.out)
    have hBk : B ≤ wc.heap.size := by rw [← HBS.out]; exact HCc.out.size
    clear hal hkb
    obtain ⟨k, hk⟩ : ∃ k, wc.heap.size = k := ⟨_, rfl⟩
    rw [hk] at HK hBk ⊢
    generalize (wc.alloc (.cells #[.string (ByteArray.mk #[114, 116, 112, 109, 97, 112]), .string V] 73)) = W6 at *
    clear hk HCc HBc
    go_cut [19] from 21 to 143 (fun s19 wx => ∃ (kx cx : Nat) (lx : List (ByteArray × ByteArray)), s19 = .slice (some ⟨kx, 0, none⟩) lx.length cx ∧ lx.length ≤ 2 ∧ Lst wx 2 attrC (some ⟨kx, 0, none⟩) lx ∧ codecAttrs D nm Dz Dc fm ch lx ∧ Ch (fun _ => False) w wx ∧ wx.heap[B]? = some (.cells #[.string name, .int .i64 port, .slice A1 n1 c1, .slice A2 lp.length c2, .slice A3 lf.length c3, .slice A4 n4 c4, .slice A5 n5 c5, .slice A6 lb.length c6, .slice A7 n7 c7, .slice A8 la.length c8] 66 (0, 0)))
    case first =>
      cases hfe : fm.toList.isEmpty with
      | true =>
        go_wp2_with fail
        go_meet
        exact ⟨k, 1, [((ByteArray.mk #[114, 116, 112, 109, 97, 112]), V)], rfl, by simp, lst_block (size := 2) (f := attrC) (fun _ => rfl) HK.out rfl, ⟨V, HV.out, .inl ⟨hfe, rfl⟩⟩, HCk.out, HBk.out⟩
      | false =>
        obtain ⟨i0, hi0, hz0, hz1, hz2⟩ := info_parts info73_c
        have hown : W6.ownsRow B 73 2 (.slice (some ⟨k, 0, none⟩) 1 1) 1 [.string (ByteArray.mk #[114, 116, 112, 109, 97, 112]), .string V] := ⟨rfl, .inr ⟨k, 1, _, rfl, hBk, HK.out, Nat.le_refl _, by decide, rfl, rfl⟩⟩
        have hal : Ch (fun _ => False) W6 (W6.alloc (.cells #[.string (ByteArray.mk #[102, 109, 116, 112]), .string (D ++ (ByteArray.mk #[32]) ++ fm)] 73)) := Ch.grown (World.grownBy_alloc _ _ none) (by simp)
        have HO6 := Lib.hid (own_ch hown hal)
        have HN6 := Lib.hid (show (W6.alloc (.cells #[.string (ByteArray.mk #[102, 109, 116, 112]), .string (D ++ (ByteArray.mk #[32]) ++ fm)] 73)).heap[W6.heap.size]? = some (.cells #[.string (ByteArray.mk #[102, 109, 116, 112]), .string (D ++ (ByteArray.mk #[32]) ++ fm)] 73 (0, 0)) from heap_alloc_new _ _)
        have HC6 := Lib.hid (HCk.out.trans hal)
        have HB6 := Lib.hid ((hal.block _ (blk_lt HBk.out) id).trans HBk.out)
        have HS6 := Lib.hid (show B ≤ (W6.alloc (.cells #[.string (ByteArray.mk #[102, 109, 116, 112]), .string (D ++ (ByteArray.mk #[32]) ++ fm)] 73)).heap.size by have := blk_lt HB6.out; omega)
        clear hown hal
        go_wp2_with (at_builtin; refine wpList_append_lies _ rfl (.tmp 136) (.tmp 142) 33 rfl B 73 i0 _ 2 32 Tryz.underlying33 hi0 hz0 hz1 hz2 rfl (by decide) (.slice (some ⟨k, 0, none⟩) 1 1) 1 [.string (ByteArray.mk #[114, 116, 112, 109, 97, 112]), .string V] rfl HO6.out ⟨W6.heap.size, 0, none⟩ 1 1 [.string (ByteArray.mk #[102, 109, 116, 112]), .string (D ++ (ByteArray.mk #[32]) ++ fm)] rfl rfl (World.news_of_block HN6.out) (by simp [Value.oneCell']) (by decide) (by unfold maxLen; omega) (by omega) HS6.out _ rfl ?_; intro g2 cap2 W7 hown2 hgrow2 hat2 hlt2; have HO7 := Lib.hid hown2; have HC7 := Lib.hid (HC6.out.old hgrow2 (fun j hj => .inl (by rw [HBS.out]; exact (HO6.out.lt j hj).1))); have HB7 := Lib.hid ((hgrow2.block B (blk_lt HB6.out) (fun e => absurd (own_type HO6.out e.symm HB6.out) (by decide))).trans HB6.out); clear hown2 hgrow2 hat2 hlt2)
        go_meet
        exact ⟨g2, cap2, [((ByteArray.mk #[114, 116, 112, 109, 97, 112]), V), ((ByteArray.mk #[102, 109, 116, 112]), D ++ (ByteArray.mk #[32]) ++ fm)], rfl, by simp, Lst.of_slice (f := attrC) (l := [((ByteArray.mk #[114, 116, 112, 109, 97, 112]), V), ((ByteArray.mk #[102, 109, 116, 112]), D ++ (ByteArray.mk #[32]) ++ fm)]) (fun _ => rfl) HO7.out rfl, ⟨V, HV.out, .inr ⟨hfe, rfl⟩⟩, HC7.out, HB7.out⟩
    case rest =>
    obtain ⟨kx, cx, lx, rfl, hlxl, hlx, hca, hcw, hbw⟩ := hcut
    obtain ⟨lg, hlg⟩ : ∃ l : List (ByteArray × ByteArray), l = la ++ lx := ⟨_, rfl⟩
    obtain ⟨lgf, hlgf⟩ : ∃ l : List ByteArray, l = lf ++ [D] := ⟨_, rfl⟩
    have HIC := Lib.hid (HWC.out wc lg lgf lx (HM.out.ch hcw) (H2.out.ch hcw) (H3.out.ch hcw) (H6B.out.ch hcw) (H8.out.ch hcw) hlxl (tab_ch HT.out hcw id) hca hlg hlgf)
    have HLG := Lib.hid hlg
    have HLGF := Lib.hid hlgf
    have HLX := Lib.hid hlx
    have HCc := Lib.hid hcw
    have HBc := Lib.hid hbw
    clear hlg hlgf hlx hca hcw hbw HWC HV HK HCk HBk hBk z1 z2 z3 z4 z5 z6 z7
    go_wp2_with (refine wpList_load_row rfl 66 (.tmp 8) rfl B rfl 66 #[.string name, .int .i64 port, .slice A1 n1 c1, .slice A2 lp.length c2, .slice A3 lf.length c3, .slice A4 n4 c4, .slice A5 n5 c5, .slice A6 lb.length c6, .slice A7 n7 c7, .slice A8 la.length c8] (0, 0) _ HBc.out Tryz.underlying66 rfl Tryz.size66 ?_)
    refine HIC.out.mono ?_
    rintro e W8 ⟨S1, m1, d1, S2, d2, S3, d3, S4, m4, d4, S5, m5, d5, S6, d6, S7, m7, d7, S8, d8, m2, m6, rfl, ho3, ho8, hc8⟩
    have HLX8 := Lib.hid (HLX.out.ch hc8)
    have HC8 := Lib.hid (HCc.out.trans hc8)
    have HB8 := Lib.hid ((hc8.block _ (blk_lt HBc.out) id).trans HBc.out)
    have hal : Ch (fun _ => False) W8 (W8.alloc (.cells #[.string ⟨#[]⟩, .int .i64 0, .slice none 0 0, .slice none 0 0, .slice none 0 0, .slice none 0 0, .slice none 0 0, .slice none 0 0, .slice none 0 0, .slice none 0 0] 66)) := Ch.grown (World.grownBy_alloc _ _ none) (by simp)
    have HR8 := Lib.hid (show (W8.alloc (.cells #[.string ⟨#[]⟩, .int .i64 0, .slice none 0 0, .slice none 0 0, .slice none 0 0, .slice none 0 0, .slice none 0 0, .slice none 0 0, .slice none 0 0, .slice none 0 0] 66)).heap[W8.heap.size]? = some (.cells #[.string ⟨#[]⟩, .int .i64 0, .slice none 0 0, .slice none 0 0, .slice none 0 0, .slice none 0 0, .slice none 0 0, .slice none 0 0, .slice none 0 0, .slice none 0 0] 66 (0, 0)) from heap_alloc_new _ _)
    have HZ := Lib.hid (show (#[.string name, .int .i64 port, .slice S1 m1 d1, .slice S2 m2 d2, .slice S3 lgf.length d3, .slice S4 m4 d4, .slice S5 m5 d5, .slice S6 m6 d6, .slice S7 m7 d7, .slice S8 lg.length d8] : Array Value).all (·.oneCell') = true by as_aux_lemma => kernel_rfl)
    have HO3 := Lib.hid (own_ch ho3 hal)
    have HO8 := Lib.hid (own_ch ho8 hal)
    have HA8 := Lib.hid hal
    clear ho3 ho8 hc8 hal HIC HLX HCc HBc
    go_wp2_with (refine wpList_store_row rfl 66 (.tmp 20) (.tmp 151) rfl W8.heap.size #[.string name, .int .i64 port, .slice S1 m1 d1, .slice S2 m2 d2, .slice S3 lgf.length d3, .slice S4 m4 d4, .slice S5 m5 d5, .slice S6 m6 d6, .slice S7 m7 d7, .slice S8 lg.length d8] #[.string ⟨#[]⟩, .int .i64 0, .slice none 0 0, .slice none 0 0, .slice none 0 0, .slice none 0 0, .slice none 0 0, .slice none 0 0, .slice none 0 0, .slice none 0 0] 66 rfl rfl HR8.out Tryz.size66 rfl HZ.out ?_; refine Hid.out ?_)
    obtain ⟨R, hR⟩ : ∃ R, W8.heap.size = R := ⟨_, rfl⟩
    rw [hR] at HR8 ⊢
    have HRR := Lib.hid (setRow_heap _ _ _ #[.string name, .int .i64 port, .slice S1 m1 d1, .slice S2 m2 d2, .slice S3 lgf.length d3, .slice S4 m4 d4, .slice S5 m5 d5, .slice S6 m6 d6, .slice S7 m7 d7, .slice S8 lg.length d8] _ _ HR8.out)
    have HC9 := Lib.hid (show Ch (fun _ => False) w ((W8.alloc (.cells #[.string ⟨#[]⟩, .int .i64 0, .slice none 0 0, .slice none 0 0, .slice none 0 0, .slice none 0 0, .slice none 0 0, .slice none 0 0, .slice none 0 0, .slice none 0 0] 66)).setRow R #[.string name, .int .i64 port, .slice S1 m1 d1, .slice S2 m2 d2, .slice S3 lgf.length d3, .slice S4 m4 d4, .slice S5 m5 d5, .slice S6 m6 d6, .slice S7 m7 d7, .slice S8 lg.length d8]) from (HC8.out.trans HA8.out).setRow (.inl (by rw [← hR]; exact HC8.out.size)) _)
    have HO39 := Lib.hid (own_row HO3.out HR8.out (by decide) #[.string name, .int .i64 port, .slice S1 m1 d1, .slice S2 m2 d2, .slice S3 lgf.length d3, .slice S4 m4 d4, .slice S5 m5 d5, .slice S6 m6 d6, .slice S7 m7 d7, .slice S8 lg.length d8])
    have HO89 := Lib.hid (own_row HO8.out HR8.out (by decide) #[.string name, .int .i64 port, .slice S1 m1 d1, .slice S2 m2 d2, .slice S3 lgf.length d3, .slice S4 m4 d4, .slice S5 m5 d5, .slice S6 m6 d6, .slice S7 m7 d7, .slice S8 lg.length d8])
    have hc89 : Ch (fun _ => False) W8 ((W8.alloc (.cells #[.string ⟨#[]⟩, .int .i64 0, .slice none 0 0, .slice none 0 0, .slice none 0 0, .slice none 0 0, .slice none 0 0, .slice none 0 0, .slice none 0 0, .slice none 0 0] 66)).setRow R #[.string name, .int .i64 port, .slice S1 m1 d1, .slice S2 m2 d2, .slice S3 lgf.length d3, .slice S4 m4 d4, .slice S5 m5 d5, .slice S6 m6 d6, .slice S7 m7 d7, .slice S8 lg.length d8]) := HA8.out.setRow (.inl (by rw [hR]; exact Nat.le_refl _)) _
    have HB9 := Lib.hid ((hc89.block _ (blk_lt HB8.out) id).trans HB8.out)
    have HLX9 := Lib.hid (HLX8.out.ch hc89)
    clear hc89 hR HO3 HO8 HR8 HA8 HC8 HB8 HLX8 HZ
    generalize (W8.alloc (.cells #[.string ⟨#[]⟩, .int .i64 0, .slice none 0 0, .slice none 0 0, .slice none 0 0, .slice none 0 0, .slice none 0 0, .slice none 0 0, .slice none 0 0, .slice none 0 0] 66)).setRow R #[.string name, .int .i64 port, .slice S1 m1 d1, .slice S2 m2 d2, .slice S3 lgf.length d3, .slice S4 m4 d4, .slice S5 m5 d5, .slice S6 m6 d6, .slice S7 m7 d7, .slice S8 lg.length d8] = W9 at *
    refine Lib.hid ?_
    go_upto_region 15 with fail
    obtain ⟨Z, hZ⟩ : ∃ Z, W9.heap.size = Z := ⟨_, rfl⟩
    refine wp_region_ops6 (by kernel_rfl) [152, 153, 154, 155, 156, 157, 158, 159, 160, 161, 162, 163, 164, 165, 166, 167, 168, 169, 170] 19 [(156, true), (168, true)] (by kernel_rfl) (by kernel_rfl) (by kernel_rfl) (wi15T Z B R kx cx name D port A1 A2 A3 A4 A5 A6 A7 A8 n1 n4 n5 n7 c1 c2 c3 c4 c5 c6 c7 c8 lp lf lb la lx lg lgf S1 S2 S3 S4 S5 S6 S7 S8 m1 m2 m4 m5 m6 m7 d1 d2 d3 d4 d5 d6 d7 d8) (Ch (fun j => Z ≤ j)) (wi15S Z) (Ch.refl _) ?_ ?_ ?_ ?_ ?_
    · intro i w0 w1 w2 _ hR hS
      exact hR.trans (wi15S_out hS)
    · intro i f d v w1 w2 hi hf hdep hd hT hS
      by_cases h1 : i = 10
      · subst h1
        obtain ⟨k, hk, _, hc⟩ := hS
        exact wi15_stayA hf (fun e => hd (by subst e; rfl)) ⟨k, hk, hc⟩ hT
      by_cases h2 : i = 13
      · subst h2
        exact wi15_stayB (hdep 10 (by decide)) (fun e => hd (by subst e; rfl)) hT
      rw [wi15S_ne h1 h2] at hS
      exact wi15_stay hS hT
    · intro q hq f v W hT
      simp only [List.mem_cons, List.not_mem_nil, or_false] at hq
      rcases hq with rfl | rfl
      · exact hT
      · exact hT
    · intro i oo hi ho A f W' hf hdep hR hr hx K hK
      have hR0 := (Ch.of_heap (Ch.refl _ W9) (w' := W9.drew) rfl rfl rfl rfl : Ch (fun _ => False) W9 W9.drew).fresh hR (fun j hj => .inl (by rw [hZ]; exact hj))
      have hZW : Z ≤ W'.heap.size := by rw [← hZ]; exact hR0.size
      have hB : W'.heap[B]? = some (.cells #[.string name, .int .i64 port, .slice A1 n1 c1, .slice A2 lp.length c2, .slice A3 lf.length c3, .slice A4 n4 c4, .slice A5 n5 c5, .slice A6 lb.length c6, .slice A7 n7 c7, .slice A8 la.length c8] 66 (0, 0)) := (hR0.block B (blk_lt HB9.out) id).trans HB9.out
      have hRR : W'.heap[R]? = some (.cells #[.string name, .int .i64 port, .slice S1 m1 d1, .slice S2 m2 d2, .slice S3 lgf.length d3, .slice S4 m4 d4, .slice S5 m5 d5, .slice S6 m6 d6, .slice S7 m7 d7, .slice S8 lg.length d8] 66 (0, 0)) := (hR0.block R (blk_lt HRR.out) id).trans HRR.out
      have hlx := HLX9.out.ch hR0
      have hg8 : Lst W' 2 attrC S8 lg := (Lst.of_slice (f := attrC) (fun _ => rfl) HO89.out rfl).ch hR0
      have hg3 : Lst W' 1 strC S3 lgf := (Lst.of_slice (f := strC) (fun _ => rfl) HO39.out rfl).ch hR0
      have hlg2l : lgf.length ≤ 2147483647 := by rw [HLGF.out, List.length_append]; simp; omega
      have hRw := HC9.out.trans hR0
      have hm := HM.out.ch hRw
      have hl2 := H2.out.ch hRw
      have hl3 := H3.out.ch hRw
      have hl6 := H6B.out.ch hRw
      have hl8 := H8.out.ch hRw
      have h6 := hRw.cell H6.out id
      have h6l := World.block_lt_of_cell? _ _ h6
      have hla : la.length ≤ 20 := by omega
      clear hR hR0 hRw
      exact match i, hi, ho with
        | 0, _, ho => by
          obtain rfl := Option.some.inj ho
          have e20 : A.tmps[20]?.getD undef = .pointer (some ⟨R, 0, none⟩) := (eval_getD A 20).symm.trans (hx 20 (by decide))
          have l0 : W'.cell? ⟨R, 0, none⟩ = some (.string name) := blk_cell hRR rfl
          have l1 : W'.cell? ⟨R, 1, none⟩ = some (.int .i64 port) := blk_cell hRR rfl
          have l2 : W'.cell? ⟨R, 2, none⟩ = some (.slice S1 m1 d1) := blk_cell hRR rfl
          have l3 : W'.cell? ⟨R, 3, none⟩ = some (.slice S2 m2 d2) := blk_cell hRR rfl
          have l4 : W'.cell? ⟨R, 4, none⟩ = some (.slice S3 lgf.length d3) := blk_cell hRR rfl
          have l5 : W'.cell? ⟨R, 5, none⟩ = some (.slice S4 m4 d4) := blk_cell hRR rfl
          have l6 : W'.cell? ⟨R, 6, none⟩ = some (.slice S5 m5 d5) := blk_cell hRR rfl
          have l7 : W'.cell? ⟨R, 7, none⟩ = some (.slice S6 m6 d6) := blk_cell hRR rfl
          have l8 : W'.cell? ⟨R, 8, none⟩ = some (.slice S7 m7 d7) := blk_cell hRR rfl
          have l9 : W'.cell? ⟨R, 9, none⟩ = some (.slice S8 lg.length d8) := blk_cell hRR rfl
          unfold Oper.wp execOp
          go_simp
          exact hK _ _ (fun d hd => by cases hd; exact rfl) (Ch.refl _ _)
        | 1, _, ho => by
          obtain rfl := Option.some.inj ho
          have e8 : A.tmps[8]?.getD undef = .pointer (some ⟨B, 0, none⟩) := (eval_getD A 8).symm.trans (hx 8 (by decide))
          have l0 : W'.cell? ⟨B, 0, none⟩ = some (.string name) := blk_cell hB rfl
          have l1 : W'.cell? ⟨B, 1, none⟩ = some (.int .i64 port) := blk_cell hB rfl
          have l2 : W'.cell? ⟨B, 2, none⟩ = some (.slice A1 n1 c1) := blk_cell hB rfl
          have l3 : W'.cell? ⟨B, 3, none⟩ = some (.slice A2 lp.length c2) := blk_cell hB rfl
          have l4 : W'.cell? ⟨B, 4, none⟩ = some (.slice A3 lf.length c3) := blk_cell hB rfl
          have l5 : W'.cell? ⟨B, 5, none⟩ = some (.slice A4 n4 c4) := blk_cell hB rfl
          have l6 : W'.cell? ⟨B, 6, none⟩ = some (.slice A5 n5 c5) := blk_cell hB rfl
          have l7 : W'.cell? ⟨B, 7, none⟩ = some (.slice A6 lb.length c6) := blk_cell hB rfl
          have l8 : W'.cell? ⟨B, 8, none⟩ = some (.slice A7 n7 c7) := blk_cell hB rfl
          have l9 : W'.cell? ⟨B, 9, none⟩ = some (.slice A8 la.length c8) := blk_cell hB rfl
          unfold Oper.wp execOp
          go_simp
          exact hK _ _ (fun d hd => by cases hd; exact rfl) (Ch.refl _ _)
        | 2, _, ho => by
          obtain rfl := Option.some.inj ho
          have e19 : A.tmps[19]?.getD undef = .slice (some ⟨kx, 0, none⟩) lx.length cx := (eval_getD A 19).symm.trans (hx 19 (by decide))
          unfold Oper.wp execOp
          go_simp
          exact hK _ _ (fun d hd => by cases hd; exact rfl) (Ch.refl _ _)
        | 3, _, ho => by
          obtain rfl := Option.some.inj ho
          have e152 : A.tmps[152]?.getD undef = .agg #[.string name, .int .i64 port, .slice S1 m1 d1, .slice S2 m2 d2, .slice S3 lgf.length d3, .slice S4 m4 d4, .slice S5 m5 d5, .slice S6 m6 d6, .slice S7 m7 d7, .slice S8 lg.length d8] := (eval_getD A 152).symm.trans (hr 152 (by decide) (by decide))
          have e153 : A.tmps[153]?.getD undef = .agg #[.string name, .int .i64 port, .slice A1 n1 c1, .slice A2 lp.length c2, .slice A3 lf.length c3, .slice A4 n4 c4, .slice A5 n5 c5, .slice A6 lb.length c6, .slice A7 n7 c7, .slice A8 la.length c8] := (eval_getD A 153).symm.trans (hr 153 (by decide) (by decide))
          have e154 : A.tmps[154]?.getD undef = .slice (some ⟨kx, 0, none⟩) lx.length cx := (eval_getD A 154).symm.trans (hr 154 (by decide) (by decide))
          unfold Oper.wp execOp
          go_simp
          (go_at_call 30; refine (appended_any (lx := lx) HLG.out hg8 hl8 hlx hla (by omega)).mono ?_; rintro e W2 ⟨rfl, hcp⟩)
          exact hK _ _ (fun d hd => by cases hd; exact rfl) (hcp)
        | 4, _, ho => by
          obtain rfl := Option.some.inj ho
          have e155 : A.tmps[155]?.getD undef = .bool true := (eval_getD A 155).symm.trans (hr 155 (by decide) (by decide))
          unfold Oper.wp execOp
          go_simp
          exact hK _ _ (fun d hd => by cases hd; exact rfl) (Ch.refl _ _)
        | 5, _, ho => by
          obtain rfl := Option.some.inj ho
          have e20 : A.tmps[20]?.getD undef = .pointer (some ⟨R, 0, none⟩) := (eval_getD A 20).symm.trans (hx 20 (by decide))
          unfold Oper.wp execOp
          go_simp
          exact hK _ _ (fun d hd => by cases hd; exact rfl) (Ch.refl _ _)
        | 6, _, ho => by
          obtain rfl := Option.some.inj ho
          have e157 : A.tmps[157]?.getD undef = .pointer (some ⟨R, 4, none⟩) := (eval_getD A 157).symm.trans (hr 157 (by decide) (by decide))
          have l4 : W'.cell? ⟨R, 4, none⟩ = some (.slice S3 lgf.length d3) := blk_cell hRR rfl
          unfold Oper.wp execOp
          go_simp
          exact hK _ _ (fun d hd => by cases hd; exact rfl) (Ch.refl _ _)
        | 7, _, ho => by
          obtain rfl := Option.some.inj ho
          unfold Oper.wp execOp
          go_simp
          exact hK _ _ (fun d hd => by cases hd; exact .inr ⟨_, rfl, hZW, heap_alloc_new _ _⟩) (Ch.grown (World.grownBy_alloc _ _ none) (by simp))
        | 8, _, ho => by
          obtain rfl := Option.some.inj ho
          have e8 : A.tmps[8]?.getD undef = .pointer (some ⟨B, 0, none⟩) := (eval_getD A 8).symm.trans (hx 8 (by decide))
          unfold Oper.wp execOp
          go_simp
          exact hK _ _ (fun d hd => by cases hd; exact rfl) (Ch.refl _ _)
        | 9, _, ho => by
          obtain rfl := Option.some.inj ho
          have e160 : A.tmps[160]?.getD undef = .pointer (some ⟨B, 4, none⟩) := (eval_getD A 160).symm.trans (hr 160 (by decide) (by decide))
          have l4 : W'.cell? ⟨B, 4, none⟩ = some (.slice A3 lf.length c3) := blk_cell hB rfl
          unfold Oper.wp execOp
          go_simp
          exact hK _ _ (fun d hd => by cases hd; exact rfl) (Ch.refl _ _)
        | 10, _, ho => by
          obtain rfl := Option.some.inj ho
          have h159 : f 10 = true ∨ ∃ k : Nat, A.eval (.tmp 159) = .slice (some ⟨k, 0, none⟩) 0 0 ∧ Z ≤ k ∧ W'.heap[k]? = some (.cells #[] 9 (0, 0)) := hr 159 (by decide) (by decide)
          obtain ⟨k, e159, hzk, hk⟩ := h159.resolve_left (by rw [hf]; decide)
          have e161 : A.eval (.tmp 161) = .slice A3 lf.length c3 := hr 161 (by decide) (by decide)
          have hown : W'.ownsRow Z 9 1 (.slice (some ⟨k, 0, none⟩) 0 0) 0 [] := ⟨rfl, .inr ⟨k, 0, #[], rfl, hzk, hk, Nat.le_refl _, by decide, rfl, rfl⟩⟩
          obtain ⟨i0, hi0, hz0, hz1, hz2⟩ := info_parts Tryz.info9
          refine wp_append_lst (.tmp 159) (.tmp 161) 28 rfl Z 9 i0 _ 1 16 Tryz.underlying28 hi0 hz0 hz1 hz2 rfl (by decide) (.slice (some ⟨k, 0, none⟩) 0 0) 0 [] e159 hown strC (fun _ => rfl) strC_one A3 c3 lf e161 hl3 (by unfold maxLen; omega) (by omega) hZW ?_
          intro v2 W2 hown2 hgrow2
          exact hK _ _ (fun d hd => by cases hd; exact .inr (by simpa using hown2)) ⟨k, hk, hzk, Ch.grown hgrow2 (fun j hj => by simpa [Value.ownBlock] using hj.symm)⟩
        | 11, _, ho => by
          obtain rfl := Option.some.inj ho
          have e17 : A.tmps[17]?.getD undef = .string D := (eval_getD A 17).symm.trans (hx 17 (by decide))
          unfold Oper.wp execOp
          go_simp
          exact hK _ _ (fun d hd => by cases hd; exact rfl) (Ch.refl _ _)
        | 12, _, ho => by
          obtain rfl := Option.some.inj ho
          have e163 : A.tmps[163]?.getD undef = .string D := (eval_getD A 163).symm.trans (hr 163 (by decide) (by decide))
          unfold Oper.wp execOp
          go_simp
          exact hK _ _ (fun d hd => by cases hd; exact .inr ⟨_, rfl, heap_alloc_new _ _⟩) (Ch.grown (World.grownBy_alloc _ _ none) (by simp))
        | 13, _, ho => by
          obtain rfl := Option.some.inj ho
          have h162 : f 13 = true ∨ W'.ownsRow Z 9 1 (A.eval (.tmp 162)) lf.length (lf.flatMap strC) := hr 162 (by decide) (by decide)
          have hown := h162.resolve_left (by rw [hf]; decide)
          have h164 : f 13 = true ∨ ∃ k : Nat, A.eval (.tmp 164) = .slice (some ⟨k, 0, none⟩) 1 1 ∧ W'.heap[k]? = some (.cells #[.string D] 9 (0, 0)) := hr 164 (by decide) (by decide)
          obtain ⟨k, e164, hk⟩ := h164.resolve_left (by rw [hf]; decide)
          have hfa : f 10 = true := hdep 10 (by decide)
          obtain ⟨i0, hi0, hz0, hz1, hz2⟩ := info_parts Tryz.info9
          refine wp_append_lies _ (.tmp 162) (.tmp 164) 28 rfl Z 9 i0 _ 1 16 Tryz.underlying28 hi0 hz0 hz1 hz2 rfl (by decide) (A.eval (.tmp 162)) lf.length (lf.flatMap strC) rfl hown ⟨k, 0, none⟩ 1 1 [.string D] e164 rfl (World.news_of_block hk) (by simp [Value.oneCell']) (by decide) (by unfold maxLen; omega) (by omega) hZW _ rfl ?_
          intro g cap W2 hown2 hgrow2 hat hlt
          exact hK _ _ (fun d hd => by cases hd; exact ⟨by simp [upd, hfa], hown2⟩) (Ch.grown hgrow2 (fun j hj => (hown.lt j hj).1))
        | 14, _, ho => by
          obtain rfl := Option.some.inj ho
          have e158 : A.tmps[158]?.getD undef = .slice S3 lgf.length d3 := (eval_getD A 158).symm.trans (hr 158 (by decide) (by decide))
          have h165 : f 10 = true ∧ W'.ownsRow Z 9 1 (A.eval (.tmp 165)) (lf.length + 1) (lf.flatMap strC ++ [Value.string D]) := hr 165 (by decide) (by decide)
          have hown : W'.ownsRow Z 9 1 (A.eval (.tmp 165)) lgf.length (lgf.flatMap strC) := by
            rw [HLGF.out, List.length_append, List.flatMap_append]
            simpa [strC] using h165.2
          obtain ⟨SW, cw, hv165, _, hlw⟩ := Lst.of_own (f := strC) (fun _ => rfl) hown rfl
          have e165 : A.tmps[165]?.getD undef = .slice SW lgf.length cw := (eval_getD A 165).symm.trans hv165
          unfold Oper.wp execOp
          go_simp
          (go_at_call 37; refine (lines_any hg3 hlw hlg2l).mono ?_; rintro e W2 ⟨rfl, hcp⟩)
          exact hK _ _ (fun d hd => by cases hd; exact rfl) (hcp)
        | 15, _, ho => by
          obtain rfl := Option.some.inj ho
          have e156 : A.tmps[156]?.getD undef = .bool true := (eval_getD A 156).symm.trans (hr 156 (by decide) (by decide))
          have e166 : A.tmps[166]?.getD undef = .bool true := (eval_getD A 166).symm.trans (hr 166 (by decide) (by decide))
          unfold Oper.wp execOp
          go_simp
          exact hK _ _ (fun d hd => by cases hd; exact rfl) (Ch.refl _ _)
        | 16, _, ho => by
          obtain rfl := Option.some.inj ho
          have e167 : A.tmps[167]?.getD undef = .bool true := (eval_getD A 167).symm.trans (hr 167 (by decide) (by decide))
          unfold Oper.wp execOp
          go_simp
          exact hK _ _ (fun d hd => by cases hd; exact rfl) (Ch.refl _ _)
        | 17, _, ho => by
          obtain rfl := Option.some.inj ho
          unfold Oper.wp execOp
          go_simp
          (go_at_call 13; refine (works_true h6 h6l).mono ?_; rintro e W2 ⟨rfl, hcp⟩)
          exact hK _ _ (fun d hd => by cases hd; exact rfl) (hcp)
        | 18, _, ho => by
          obtain rfl := Option.some.inj ho
          have e168 : A.tmps[168]?.getD undef = .bool true := (eval_getD A 168).symm.trans (hr 168 (by decide) (by decide))
          have e169 : A.tmps[169]?.getD undef = .bool true := (eval_getD A 169).symm.trans (hr 169 (by decide) (by decide))
          unfold Oper.wp execOp
          go_simp
          exact hK _ _ (fun d hd => by cases hd; exact rfl) (Ch.refl _ _)
        | n + 19, hi, _ => absurd hi (by omega)

    · intro oo ho u f W' hR hu
      obtain rfl := Option.some.inj ho
      have hv : u 170 = .bool true := hu 170 (by decide)
      have hR0 := (Ch.of_heap (Ch.refl _ W9) (w' := W9.drew) rfl rfl rfl rfl : Ch (fun _ => False) W9 W9.drew).fresh hR (fun j hj => .inl (by rw [hZ]; exact hj))
      have HCE := Lib.hid (HC9.out.trans hR0)
      clear hR hu hR0
      rw [wi15_frame, hv]
      unfold Oper.wp execOp
      go_simp
      clear hv
      go_wp2
      refine bodyPost_ret (v := .bool true) (by simp [results, Tryz.results10]) rfl ?_
      exact ⟨rfl, HCE.out⟩

end Go.Proofs.YtimonhimfioohaaGreatDoor
