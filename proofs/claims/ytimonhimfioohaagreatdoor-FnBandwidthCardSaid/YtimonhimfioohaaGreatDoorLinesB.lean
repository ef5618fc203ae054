/- spec.Lines at a session of one bandwidth. -/
import Derived.Test.YtimonhimfioohaaGreatDoorShared
namespace Go.Proofs.YtimonhimfioohaaGreatDoor
open Go.RowKit

/-- A string of so many bytes at most. -/
def strLe (K : Nat) (v : Value) : Prop := ∃ s : ByteArray, v = .string s ∧ s.size ≤ K

theorem append_nil28 (a : Addr) (n c : Nat) (w : World) (h : n ≤ c) : (Builtin.append_ #[28, 28] 28 #[.slice (some a) n c, .slice none 0 0]).run Tryz.prog w = .ok (.slice (some a) n c) w := by
  obtain ⟨i0, hi0, hz0, hz1, hz2⟩ := info_parts Tryz.info9
  simp [Builtin.append_, run_underlying Tryz.underlying28, sizeOf, typeInfo, hi0, Builtin.lenOf, Builtin.firstCells, h, storeCells]

def linesAT (M O L : Nat) (d : Nat) (v : Value) (W : World) : Prop :=
  match d with
  | 15 => v = .pointer (some ⟨M, 0, none⟩)
  | 16 => v = .int .i64 0
  | 17 => strLe 1 v
  | 18 => strLe 3 v
  | 19 => v = .pointer (some ⟨O, 0, none⟩)
  | 20 => strLe 0 v
  | 21 => strLe 2 v
  | 22 => strLe 3 v
  | 23 => v = .pointer (some ⟨O, 1, none⟩)
  | 24 => v = .int .u64 0
  | 25 => strLe 1 v
  | 26 => strLe 4 v
  | 27 => strLe 5 v
  | 28 => v = .pointer (some ⟨O, 2, none⟩)
  | 29 => v = .int .u64 0
  | 30 => strLe 1 v
  | 31 => strLe 6 v
  | 32 => strLe 7 v
  | 33 => v = .pointer (some ⟨O, 3, none⟩)
  | 34 => strLe 0 v
  | 35 => strLe 7 v
  | 36 => strLe 8 v
  | 37 => v = .pointer (some ⟨O, 4, none⟩)
  | 38 => strLe 0 v
  | 39 => strLe 8 v
  | 40 => strLe 9 v
  | 41 => v = .pointer (some ⟨O, 5, none⟩)
  | 42 => strLe 0 v
  | 43 => strLe 9 v
  | 44 => v = .pointer (some ⟨M, 7, none⟩)
  | 45 => strLe 0 v
  | 46 => strLe 2 v
  | 47 => ∃ (k : Nat) (a : ByteArray) (b : ByteArray) (c : ByteArray), v = .slice (some ⟨k, 0, none⟩) 3 3 ∧ L ≤ k ∧ W.heap[k]? = some (.cells #[.string a, .string b, .string c] 9 (0, 0))
  | _ => True

theorem linesAT_stays {M O L : Nat} {d : Nat} {v : Value} {W W' : World} (h : linesAT M O L d v W) (hc : Ch (fun _ => False) W W') : linesAT M O L d v W' := by
  unfold linesAT at h ⊢
  split at h
  · exact h
  · exact h
  · exact h
  · exact h
  · exact h
  · exact h
  · exact h
  · exact h
  · exact h
  · exact h
  · exact h
  · exact h
  · exact h
  · exact h
  · exact h
  · exact h
  · exact h
  · exact h
  · exact h
  · exact h
  · exact h
  · exact h
  · exact h
  · exact h
  · exact h
  · exact h
  · exact h
  · exact h
  · exact h
  · exact h
  · exact h
  · exact h
  · obtain ⟨k, a, b, c, q, p0, p1⟩ := h
    exact ⟨k, a, b, c, q, p0, (hc.block _ (blk_lt p1) id).trans p1⟩
  · trivial

set_option maxRecDepth 100000 in
theorem linesA_frame (x0 x1 x2 x3 x4 x5 x6 x7 x8 x9 x10 x11 x12 x13 x14 x15 x16 x17 x18 x19 x20 x21 x22 x23 x24 x25 x26 x27 x28 x29 x30 x31 x32 x33 x34 x35 x36 x37 x38 x39 x40 x41 x42 x43 x44 x45 x46 x47 x48 x49 x50 x51 x52 x53 x54 x55 x56 x57 x58 x59 x60 x61 x62 x63 x64 x65 x66 x67 x68 x69 x70 x71 x72 x73 x74 x75 x76 x77 x78 x79 x80 x81 x82 x83 x84 x85 x86 x87 x88 x89 x90 x91 x92 x93 x94 x95 x96 x97 x98 x99 x100 x101 x102 x103 x104 x105 x106 x107 x108 x109 x110 x111 x112 x113 x114 x115 x116 x117 x118 x119 x120 x121 x122 x123 x124 x125 x126 x127 x128 x129 x130 x131 x132 x133 x134 x135 x136 x137 x138 x139 x140 x141 x142 x143 x144 x145 x146 x147 x148 x149 x150 x151 x152 x153 x154 x155 x156 x157 x158 x159 x160 x161 x162 x163 x164 x165 x166 x167 x168 x169 x170 x171 x172 x173 x174 x175 x176 x177 x178 x179 x180 x181 : Value) (d : List Deferred) (u : Nat → Value) : frameOf ⟨#[x0, x1, x2, x3, x4, x5, x6, x7, x8, x9, x10, x11, x12, x13, x14, x15, x16, x17, x18, x19, x20, x21, x22, x23, x24, x25, x26, x27, x28, x29, x30, x31, x32, x33, x34, x35, x36, x37, x38, x39, x40, x41, x42, x43, x44, x45, x46, x47, x48, x49, x50, x51, x52, x53, x54, x55, x56, x57, x58, x59, x60, x61, x62, x63, x64, x65, x66, x67, x68, x69, x70, x71, x72, x73, x74, x75, x76, x77, x78, x79, x80, x81, x82, x83, x84, x85, x86, x87, x88, x89, x90, x91, x92, x93, x94, x95, x96, x97, x98, x99, x100, x101, x102, x103, x104, x105, x106, x107, x108, x109, x110, x111, x112, x113, x114, x115, x116, x117, x118, x119, x120, x121, x122, x123, x124, x125, x126, x127, x128, x129, x130, x131, x132, x133, x134, x135, x136, x137, x138, x139, x140, x141, x142, x143, x144, x145, x146, x147, x148, x149, x150, x151, x152, x153, x154, x155, x156, x157, x158, x159, x160, x161, x162, x163, x164, x165, x166, x167, x168, x169, x170, x171, x172, x173, x174, x175, x176, x177, x178, x179, x180, x181], d⟩ [15, 16, 17, 18, 19, 20, 21, 22, 23, 24, 25, 26, 27, 28, 29, 30, 31, 32, 33, 34, 35, 36, 37, 38, 39, 40, 41, 42, 43, 44, 45, 46, 47] u = ⟨#[x0, x1, x2, x3, x4, x5, x6, x7, x8, x9, x10, x11, x12, x13, x14, u 15, u 16, u 17, u 18, u 19, u 20, u 21, u 22, u 23, u 24, u 25, u 26, u 27, u 28, u 29, u 30, u 31, u 32, u 33, u 34, u 35, u 36, u 37, u 38, u 39, u 40, u 41, u 42, u 43, u 44, u 45, u 46, u 47, x48, x49, x50, x51, x52, x53, x54, x55, x56, x57, x58, x59, x60, x61, x62, x63, x64, x65, x66, x67, x68, x69, x70, x71, x72, x73, x74, x75, x76, x77, x78, x79, x80, x81, x82, x83, x84, x85, x86, x87, x88, x89, x90, x91, x92, x93, x94, x95, x96, x97, x98, x99, x100, x101, x102, x103, x104, x105, x106, x107, x108, x109, x110, x111, x112, x113, x114, x115, x116, x117, x118, x119, x120, x121, x122, x123, x124, x125, x126, x127, x128, x129, x130, x131, x132, x133, x134, x135, x136, x137, x138, x139, x140, x141, x142, x143, x144, x145, x146, x147, x148, x149, x150, x151, x152, x153, x154, x155, x156, x157, x158, x159, x160, x161, x162, x163, x164, x165, x166, x167, x168, x169, x170, x171, x172, x173, x174, x175, x176, x177, x178, x179, x180, x181], d⟩ := by kernel_rfl

def linesBT (M g c : Nat) (d : Nat) (v : Value) (_ : World) : Prop :=
  match d with
  | 107 => v = .slice (some ⟨g, 0, none⟩) 4 c
  | 108 => v = .pointer (some ⟨M, 16, none⟩)
  | 109 => v = .slice none 0 0
  | 110 => v = .slice none 0 0
  | 111 => v = .slice (some ⟨g, 0, none⟩) 4 c
  | 112 => v = .pointer (some ⟨M, 17, none⟩)
  | 113 => v = .slice none 0 0
  | 114 => v = .slice none 0 0
  | 115 => v = .slice (some ⟨g, 0, none⟩) 4 c
  | _ => True

theorem linesBT_stays {M g c : Nat} {d : Nat} {v : Value} {W W' : World} (h : linesBT M g c d v W) (_hc : Ch (fun _ => False) W W') : linesBT M g c d v W' := by
  unfold linesBT at h ⊢
  split at h
  · exact h
  · exact h
  · exact h
  · exact h
  · exact h
  · exact h
  · exact h
  · exact h
  · exact h
  · trivial

set_option maxRecDepth 100000 in
theorem linesB_frame (x0 x1 x2 x3 x4 x5 x6 x7 x8 x9 x10 x11 x12 x13 x14 x15 x16 x17 x18 x19 x20 x21 x22 x23 x24 x25 x26 x27 x28 x29 x30 x31 x32 x33 x34 x35 x36 x37 x38 x39 x40 x41 x42 x43 x44 x45 x46 x47 x48 x49 x50 x51 x52 x53 x54 x55 x56 x57 x58 x59 x60 x61 x62 x63 x64 x65 x66 x67 x68 x69 x70 x71 x72 x73 x74 x75 x76 x77 x78 x79 x80 x81 x82 x83 x84 x85 x86 x87 x88 x89 x90 x91 x92 x93 x94 x95 x96 x97 x98 x99 x100 x101 x102 x103 x104 x105 x106 x107 x108 x109 x110 x111 x112 x113 x114 x115 x116 x117 x118 x119 x120 x121 x122 x123 x124 x125 x126 x127 x128 x129 x130 x131 x132 x133 x134 x135 x136 x137 x138 x139 x140 x141 x142 x143 x144 x145 x146 x147 x148 x149 x150 x151 x152 x153 x154 x155 x156 x157 x158 x159 x160 x161 x162 x163 x164 x165 x166 x167 x168 x169 x170 x171 x172 x173 x174 x175 x176 x177 x178 x179 x180 x181 : Value) (d : List Deferred) (u : Nat → Value) : frameOf ⟨#[x0, x1, x2, x3, x4, x5, x6, x7, x8, x9, x10, x11, x12, x13, x14, x15, x16, x17, x18, x19, x20, x21, x22, x23, x24, x25, x26, x27, x28, x29, x30, x31, x32, x33, x34, x35, x36, x37, x38, x39, x40, x41, x42, x43, x44, x45, x46, x47, x48, x49, x50, x51, x52, x53, x54, x55, x56, x57, x58, x59, x60, x61, x62, x63, x64, x65, x66, x67, x68, x69, x70, x71, x72, x73, x74, x75, x76, x77, x78, x79, x80, x81, x82, x83, x84, x85, x86, x87, x88, x89, x90, x91, x92, x93, x94, x95, x96, x97, x98, x99, x100, x101, x102, x103, x104, x105, x106, x107, x108, x109, x110, x111, x112, x113, x114, x115, x116, x117, x118, x119, x120, x121, x122, x123, x124, x125, x126, x127, x128, x129, x130, x131, x132, x133, x134, x135, x136, x137, x138, x139, x140, x141, x142, x143, x144, x145, x146, x147, x148, x149, x150, x151, x152, x153, x154, x155, x156, x157, x158, x159, x160, x161, x162, x163, x164, x165, x166, x167, x168, x169, x170, x171, x172, x173, x174, x175, x176, x177, x178, x179, x180, x181], d⟩ [107, 108, 109, 110, 111, 112, 113, 114, 115] u = ⟨#[x0, x1, x2, x3, x4, x5, x6, x7, x8, x9, x10, x11, x12, x13, x14, x15, x16, x17, x18, x19, x20, x21, x22, x23, x24, x25, x26, x27, x28, x29, x30, x31, x32, x33, x34, x35, x36, x37, x38, x39, x40, x41, x42, x43, x44, x45, x46, x47, x48, x49, x50, x51, x52, x53, x54, x55, x56, x57, x58, x59, x60, x61, x62, x63, x64, x65, x66, x67, x68, x69, x70, x71, x72, x73, x74, x75, x76, x77, x78, x79, x80, x81, x82, x83, x84, x85, x86, x87, x88, x89, x90, x91, x92, x93, x94, x95, x96, x97, x98, x99, x100, x101, x102, x103, x104, x105, x106, u 107, u 108, u 109, u 110, u 111, u 112, u 113, u 114, u 115, x116, x117, x118, x119, x120, x121, x122, x123, x124, x125, x126, x127, x128, x129, x130, x131, x132, x133, x134, x135, x136, x137, x138, x139, x140, x141, x142, x143, x144, x145, x146, x147, x148, x149, x150, x151, x152, x153, x154, x155, x156, x157, x158, x159, x160, x161, x162, x163, x164, x165, x166, x167, x168, x169, x170, x171, x172, x173, x174, x175, x176, x177, x178, x179, x180, x181], d⟩ := by kernel_rfl

set_option maxRecDepth 100000 in
set_option maxHeartbeats 4000000 in
theorem lines_band {x : Bool} {t : ByteArray} {n G D : Nat} {w : World} (ht : t.size ≤ 4294967295) (hn : n < 1125899906842624) (hg : w.heap[G]? = some (.cells #[.bool x, .string t, .int .u64 n] 47 (0, 0))) :
    Calls Tryz.prog 23 #[.agg #[.int .i64 0, .string ⟨#[]⟩, .int .u64 0, .int .u64 0, .string ⟨#[]⟩, .string ⟨#[]⟩, .string ⟨#[]⟩, .string ⟨#[]⟩, .slice none 0 0, .slice none 0 0, .slice none 0 0, .slice none 0 0, .slice none 0 0, .slice (some ⟨G, 0, none⟩) 1 D, .slice none 0 0, .slice none 0 0, .slice none 0 0, .slice none 0 0, .slice none 0 0]] w fun e w' => ∃ h cap, e = .returned (.slice (some ⟨h, 0, none⟩) 4 cap) ∧ (∃ a b c : ByteArray, w'.ownsRow w.heap.size 9 1 (.slice (some ⟨h, 0, none⟩) 4 cap) 4 [.string a, .string b, .string c, .string ⟨(bandLine x t n).toArray⟩]) ∧ Ch (fun _ => False) w w' := by
  have HG := Lib.hid hg
  have HN := Lib.hid hn
  have HT := Lib.hid ht
  clear hg hn ht
  have hM1 : ((w.alloc (.cells #[.int .i64 0, .string ⟨#[]⟩, .int .u64 0, .int .u64 0, .string ⟨#[]⟩, .string ⟨#[]⟩, .string ⟨#[]⟩, .string ⟨#[]⟩, .slice none 0 0, .slice none 0 0, .slice none 0 0, .slice none 0 0, .slice none 0 0, .slice (some ⟨G, 0, none⟩) 1 D, .slice none 0 0, .slice none 0 0, .slice none 0 0, .slice none 0 0, .slice none 0 0] 57)).alloc (.cells #[.string ⟨#[]⟩, .int .u64 0, .int .u64 0, .string ⟨#[]⟩, .string ⟨#[]⟩, .string ⟨#[]⟩] 50)).heap[w.heap.size]? = some (.cells #[.int .i64 0, .string ⟨#[]⟩, .int .u64 0, .int .u64 0, .string ⟨#[]⟩, .string ⟨#[]⟩, .string ⟨#[]⟩, .string ⟨#[]⟩, .slice none 0 0, .slice none 0 0, .slice none 0 0, .slice none 0 0, .slice none 0 0, .slice (some ⟨G, 0, none⟩) 1 D, .slice none 0 0, .slice none 0 0, .slice none 0 0, .slice none 0 0, .slice none 0 0] 57 (0, 0)) := (Below.heap_alloc _ _ _ (by simp)).trans (heap_alloc_new w _)
  have hO1 : ((w.alloc (.cells #[.int .i64 0, .string ⟨#[]⟩, .int .u64 0, .int .u64 0, .string ⟨#[]⟩, .string ⟨#[]⟩, .string ⟨#[]⟩, .string ⟨#[]⟩, .slice none 0 0, .slice none 0 0, .slice none 0 0, .slice none 0 0, .slice none 0 0, .slice (some ⟨G, 0, none⟩) 1 D, .slice none 0 0, .slice none 0 0, .slice none 0 0, .slice none 0 0, .slice none 0 0] 57)).alloc (.cells #[.string ⟨#[]⟩, .int .u64 0, .int .u64 0, .string ⟨#[]⟩, .string ⟨#[]⟩, .string ⟨#[]⟩] 50)).heap[w.heap.size + 1]? = some (.cells #[.string ⟨#[]⟩, .int .u64 0, .int .u64 0, .string ⟨#[]⟩, .string ⟨#[]⟩, .string ⟨#[]⟩] 50 (0, 0)) := by
    have h1 := heap_alloc_new (w.alloc (.cells #[.int .i64 0, .string ⟨#[]⟩, .int .u64 0, .int .u64 0, .string ⟨#[]⟩, .string ⟨#[]⟩, .string ⟨#[]⟩, .string ⟨#[]⟩, .slice none 0 0, .slice none 0 0, .slice none 0 0, .slice none 0 0, .slice none 0 0, .slice (some ⟨G, 0, none⟩) 1 D, .slice none 0 0, .slice none 0 0, .slice none 0 0, .slice none 0 0, .slice none 0 0] 57)) (.cells #[.string ⟨#[]⟩, .int .u64 0, .int .u64 0, .string ⟨#[]⟩, .string ⟨#[]⟩, .string ⟨#[]⟩] 50)
    rw [World.size_alloc] at h1
    exact h1
  have hc1 : Ch (fun _ => False) w ((w.alloc (.cells #[.int .i64 0, .string ⟨#[]⟩, .int .u64 0, .int .u64 0, .string ⟨#[]⟩, .string ⟨#[]⟩, .string ⟨#[]⟩, .string ⟨#[]⟩, .slice none 0 0, .slice none 0 0, .slice none 0 0, .slice none 0 0, .slice none 0 0, .slice (some ⟨G, 0, none⟩) 1 D, .slice none 0 0, .slice none 0 0, .slice none 0 0, .slice none 0 0, .slice none 0 0] 57)).alloc (.cells #[.string ⟨#[]⟩, .int .u64 0, .int .u64 0, .string ⟨#[]⟩, .string ⟨#[]⟩, .string ⟨#[]⟩] 50)) := (Ch.grown (World.grownBy_alloc _ _ none) (by simp)).trans (Ch.grown (World.grownBy_alloc _ _ none) (by simp))
  have HM1 := Lib.hid hM1
  have HO1 := Lib.hid hO1
  have HC1 := Lib.hid hc1
  clear hM1 hO1 hc1
  go_enter Tryz.func23, Tryz.ntmps23
  go_upto_region 2 with fail
  generalize hB : w.heap.size = M at *
  generalize hO : M + 1 = O at *
  generalize ((w.alloc (.cells #[.int .i64 0, .string ⟨#[]⟩, .int .u64 0, .int .u64 0, .string ⟨#[]⟩, .string ⟨#[]⟩, .string ⟨#[]⟩, .string ⟨#[]⟩, .slice none 0 0, .slice none 0 0, .slice none 0 0, .slice none 0 0, .slice none 0 0, .slice (some ⟨G, 0, none⟩) 1 D, .slice none 0 0, .slice none 0 0, .slice none 0 0, .slice none 0 0, .slice none 0 0] 57)).alloc (.cells #[.string ⟨#[]⟩, .int .u64 0, .int .u64 0, .string ⟨#[]⟩, .string ⟨#[]⟩, .string ⟨#[]⟩] 50)) = W1 at *
  refine wp_region_ops (by kernel_rfl) [15, 16, 17, 18, 19, 20, 21, 22, 23, 24, 25, 26, 27, 28, 29, 30, 31, 32, 33, 34, 35, 36, 37, 38, 39, 40, 41, 42, 43, 44, 45, 46, 47] 33 (by kernel_rfl) (by kernel_rfl) (by kernel_rfl) (linesAT M O M) (Ch (fun _ => False)) (Ch.refl _) (fun _ _ _ => Ch.trans) (fun _ _ _ _ => linesAT_stays) ?_ ?_
  · intro i o hi ho A W' hR hr hx K hK
    have hM : W'.heap[M]? = some (.cells #[.int .i64 0, .string ⟨#[]⟩, .int .u64 0, .int .u64 0, .string ⟨#[]⟩, .string ⟨#[]⟩, .string ⟨#[]⟩, .string ⟨#[]⟩, .slice none 0 0, .slice none 0 0, .slice none 0 0, .slice none 0 0, .slice none 0 0, .slice (some ⟨G, 0, none⟩) 1 D, .slice none 0 0, .slice none 0 0, .slice none 0 0, .slice none 0 0, .slice none 0 0] 57 (0, 0)) := (hR.block M (blk_lt HM1.out) id).trans HM1.out
    have hO : W'.heap[O]? = some (.cells #[.string ⟨#[]⟩, .int .u64 0, .int .u64 0, .string ⟨#[]⟩, .string ⟨#[]⟩, .string ⟨#[]⟩] 50 (0, 0)) := (hR.block O (blk_lt HO1.out) id).trans HO1.out
    have hLW : M ≤ W'.heap.size := Nat.le_of_lt (blk_lt hM)
    clear hR
    exact match i, hi, ho with
      | 0, _, ho => by
        obtain rfl := Option.some.inj ho
        have e1 : A.tmps[1]?.getD undef = .pointer (some ⟨M, 0, none⟩) := (eval_getD A 1).symm.trans (hx 1 (by decide))
        unfold Oper.wp execOp
        go_simp
        exact hK _ _ (fun d hd => by cases hd; exact rfl) (Ch.refl _ _)
      | 1, _, ho => by
        obtain rfl := Option.some.inj ho
        have e15 : A.tmps[15]?.getD undef = .pointer (some ⟨M, 0, none⟩) := (eval_getD A 15).symm.trans (hr 15 (by decide) (by decide))
        have l0 : W'.cell? ⟨M, 0, none⟩ = some (.int .i64 0) := blk_cell hM rfl
        unfold Oper.wp execOp
        go_simp
        exact hK _ _ (fun d hd => by cases hd; exact rfl) (Ch.refl _ _)
      | 2, _, ho => by
        obtain rfl := Option.some.inj ho
        have e16 : A.tmps[16]?.getD undef = .int .i64 0 := (eval_getD A 16).symm.trans (hr 16 (by decide) (by decide))
        unfold Oper.wp execOp
        go_simp
        (go_at_call 51; refine (signed_zero _).mono ?_; rintro e W2 ⟨rfl, hc2⟩)
        exact hK _ _ (fun d hd => by cases hd; exact (show strLe 1 _ from ⟨_, rfl, by first | decide | (rw [Lib.decDigits_one (by decide)]; decide)⟩)) hc2
      | 3, _, ho => by
        obtain rfl := Option.some.inj ho
        obtain ⟨s17, q17, z17⟩ : strLe 1 (A.eval (.tmp 17)) := hr 17 (by decide) (by decide)
        have e17 : A.tmps[17]?.getD undef = .string s17 := (eval_getD A 17).symm.trans q17
        have zl : (ByteArray.mk #[118, 61]).size = 2 := rfl
        have za : ((ByteArray.mk #[118, 61]) ++ s17).size = (ByteArray.mk #[118, 61]).size + s17.size := ByteArray.size_append
        unfold Oper.wp execOp
        go_simp
        rw [if_neg (by omega)]
        exact hK _ _ (fun d hd => by cases hd; exact (show strLe 3 _ from ⟨_, rfl, by omega⟩)) (Ch.refl _ _)
      | 4, _, ho => by
        obtain rfl := Option.some.inj ho
        have e3 : A.tmps[3]?.getD undef = .pointer (some ⟨O, 0, none⟩) := (eval_getD A 3).symm.trans (hx 3 (by decide))
        unfold Oper.wp execOp
        go_simp
        exact hK _ _ (fun d hd => by cases hd; exact rfl) (Ch.refl _ _)
      | 5, _, ho => by
        obtain rfl := Option.some.inj ho
        have e19 : A.tmps[19]?.getD undef = .pointer (some ⟨O, 0, none⟩) := (eval_getD A 19).symm.trans (hr 19 (by decide) (by decide))
        have l0 : W'.cell? ⟨O, 0, none⟩ = some (.string ⟨#[]⟩) := blk_cell hO rfl
        unfold Oper.wp execOp
        go_simp
        exact hK _ _ (fun d hd => by cases hd; exact (show strLe 0 _ from ⟨_, rfl, by first | omega | decide⟩)) (Ch.refl _ _)
      | 6, _, ho => by
        obtain rfl := Option.some.inj ho
        obtain ⟨s20, q20, z20⟩ : strLe 0 (A.eval (.tmp 20)) := hr 20 (by decide) (by decide)
        have e20 : A.tmps[20]?.getD undef = .string s20 := (eval_getD A 20).symm.trans q20
        have zl : (ByteArray.mk #[111, 61]).size = 2 := rfl
        have za : ((ByteArray.mk #[111, 61]) ++ s20).size = (ByteArray.mk #[111, 61]).size + s20.size := ByteArray.size_append
        unfold Oper.wp execOp
        go_simp
        rw [if_neg (by omega)]
        exact hK _ _ (fun d hd => by cases hd; exact (show strLe 2 _ from ⟨_, rfl, by omega⟩)) (Ch.refl _ _)
      | 7, _, ho => by
        obtain rfl := Option.some.inj ho
        obtain ⟨s21, q21, z21⟩ : strLe 2 (A.eval (.tmp 21)) := hr 21 (by decide) (by decide)
        have e21 : A.tmps[21]?.getD undef = .string s21 := (eval_getD A 21).symm.trans q21
        have zl : (ByteArray.mk #[32]).size = 1 := rfl
        have za : (s21 ++ (ByteArray.mk #[32])).size = s21.size + (ByteArray.mk #[32]).size := ByteArray.size_append
        unfold Oper.wp execOp
        go_simp
        rw [if_neg (by omega)]
        exact hK _ _ (fun d hd => by cases hd; exact (show strLe 3 _ from ⟨_, rfl, by omega⟩)) (Ch.refl _ _)
      | 8, _, ho => by
        obtain rfl := Option.some.inj ho
        have e3 : A.tmps[3]?.getD undef = .pointer (some ⟨O, 0, none⟩) := (eval_getD A 3).symm.trans (hx 3 (by decide))
        unfold Oper.wp execOp
        go_simp
        exact hK _ _ (fun d hd => by cases hd; exact rfl) (Ch.refl _ _)
      | 9, _, ho => by
        obtain rfl := Option.some.inj ho
        have e23 : A.tmps[23]?.getD undef = .pointer (some ⟨O, 1, none⟩) := (eval_getD A 23).symm.trans (hr 23 (by decide) (by decide))
        have l0 : W'.cell? ⟨O, 1, none⟩ = some (.int .u64 0) := blk_cell hO rfl
        unfold Oper.wp execOp
        go_simp
        exact hK _ _ (fun d hd => by cases hd; exact rfl) (Ch.refl _ _)
      | 10, _, ho => by
        obtain rfl := Option.some.inj ho
        have e24 : A.tmps[24]?.getD undef = .int .u64 0 := (eval_getD A 24).symm.trans (hr 24 (by decide) (by decide))
        unfold Oper.wp execOp
        go_simp
        (go_at_call 29; refine (decimal_ok 0 (by decide) _).mono ?_; rintro e W2 ⟨rfl, hc2⟩)
        exact hK _ _ (fun d hd => by cases hd; exact (show strLe 1 _ from ⟨_, rfl, by first | decide | (rw [Lib.decDigits_one (by decide)]; decide)⟩)) hc2
      | 11, _, ho => by
        obtain rfl := Option.some.inj ho
        obtain ⟨s22, q22, z22⟩ : strLe 3 (A.eval (.tmp 22)) := hr 22 (by decide) (by decide)
        have e22 : A.tmps[22]?.getD undef = .string s22 := (eval_getD A 22).symm.trans q22
        obtain ⟨s25, q25, z25⟩ : strLe 1 (A.eval (.tmp 25)) := hr 25 (by decide) (by decide)
        have e25 : A.tmps[25]?.getD undef = .string s25 := (eval_getD A 25).symm.trans q25
        have za : (s22 ++ s25).size = s22.size + s25.size := ByteArray.size_append
        unfold Oper.wp execOp
        go_simp
        rw [if_neg (by omega)]
        exact hK _ _ (fun d hd => by cases hd; exact (show strLe 4 _ from ⟨_, rfl, by omega⟩)) (Ch.refl _ _)
      | 12, _, ho => by
        obtain rfl := Option.some.inj ho
        obtain ⟨s26, q26, z26⟩ : strLe 4 (A.eval (.tmp 26)) := hr 26 (by decide) (by decide)
        have e26 : A.tmps[26]?.getD undef = .string s26 := (eval_getD A 26).symm.trans q26
        have zl : (ByteArray.mk #[32]).size = 1 := rfl
        have za : (s26 ++ (ByteArray.mk #[32])).size = s26.size + (ByteArray.mk #[32]).size := ByteArray.size_append
        unfold Oper.wp execOp
        go_simp
        rw [if_neg (by omega)]
        exact hK _ _ (fun d hd => by cases hd; exact (show strLe 5 _ from ⟨_, rfl, by omega⟩)) (Ch.refl _ _)
      | 13, _, ho => by
        obtain rfl := Option.some.inj ho
        have e3 : A.tmps[3]?.getD undef = .pointer (some ⟨O, 0, none⟩) := (eval_getD A 3).symm.trans (hx 3 (by decide))
        unfold Oper.wp execOp
        go_simp
        exact hK _ _ (fun d hd => by cases hd; exact rfl) (Ch.refl _ _)
      | 14, _, ho => by
        obtain rfl := Option.some.inj ho
        have e28 : A.tmps[28]?.getD undef = .pointer (some ⟨O, 2, none⟩) := (eval_getD A 28).symm.trans (hr 28 (by decide) (by decide))
        have l0 : W'.cell? ⟨O, 2, none⟩ = some (.int .u64 0) := blk_cell hO rfl
        unfold Oper.wp execOp
        go_simp
        exact hK _ _ (fun d hd => by cases hd; exact rfl) (Ch.refl _ _)
      | 15, _, ho => by
        obtain rfl := Option.some.inj ho
        have e29 : A.tmps[29]?.getD undef = .int .u64 0 := (eval_getD A 29).symm.trans (hr 29 (by decide) (by decide))
        unfold Oper.wp execOp
        go_simp
        (go_at_call 29; refine (decimal_ok 0 (by decide) _).mono ?_; rintro e W2 ⟨rfl, hc2⟩)
        exact hK _ _ (fun d hd => by cases hd; exact (show strLe 1 _ from ⟨_, rfl, by first | decide | (rw [Lib.decDigits_one (by decide)]; decide)⟩)) hc2
      | 16, _, ho => by
        obtain rfl := Option.some.inj ho
        obtain ⟨s27, q27, z27⟩ : strLe 5 (A.eval (.tmp 27)) := hr 27 (by decide) (by decide)
        have e27 : A.tmps[27]?.getD undef = .string s27 := (eval_getD A 27).symm.trans q27
        obtain ⟨s30, q30, z30⟩ : strLe 1 (A.eval (.tmp 30)) := hr 30 (by decide) (by decide)
        have e30 : A.tmps[30]?.getD undef = .string s30 := (eval_getD A 30).symm.trans q30
        have za : (s27 ++ s30).size = s27.size + s30.size := ByteArray.size_append
        unfold Oper.wp execOp
        go_simp
        rw [if_neg (by omega)]
        exact hK _ _ (fun d hd => by cases hd; exact (show strLe 6 _ from ⟨_, rfl, by omega⟩)) (Ch.refl _ _)
      | 17, _, ho => by
        obtain rfl := Option.some.inj ho
        obtain ⟨s31, q31, z31⟩ : strLe 6 (A.eval (.tmp 31)) := hr 31 (by decide) (by decide)
        have e31 : A.tmps[31]?.getD undef = .string s31 := (eval_getD A 31).symm.trans q31
        have zl : (ByteArray.mk #[32]).size = 1 := rfl
        have za : (s31 ++ (ByteArray.mk #[32])).size = s31.size + (ByteArray.mk #[32]).size := ByteArray.size_append
        unfold Oper.wp execOp
        go_simp
        rw [if_neg (by omega)]
        exact hK _ _ (fun d hd => by cases hd; exact (show strLe 7 _ from ⟨_, rfl, by omega⟩)) (Ch.refl _ _)
      | 18, _, ho => by
        obtain rfl := Option.some.inj ho
        have e3 : A.tmps[3]?.getD undef = .pointer (some ⟨O, 0, none⟩) := (eval_getD A 3).symm.trans (hx 3 (by decide))
        unfold Oper.wp execOp
        go_simp
        exact hK _ _ (fun d hd => by cases hd; exact rfl) (Ch.refl _ _)
      | 19, _, ho => by
        obtain rfl := Option.some.inj ho
        have e33 : A.tmps[33]?.getD undef = .pointer (some ⟨O, 3, none⟩) := (eval_getD A 33).symm.trans (hr 33 (by decide) (by decide))
        have l0 : W'.cell? ⟨O, 3, none⟩ = some (.string ⟨#[]⟩) := blk_cell hO rfl
        unfold Oper.wp execOp
        go_simp
        exact hK _ _ (fun d hd => by cases hd; exact (show strLe 0 _ from ⟨_, rfl, by first | omega | decide⟩)) (Ch.refl _ _)
      | 20, _, ho => by
        obtain rfl := Option.some.inj ho
        obtain ⟨s32, q32, z32⟩ : strLe 7 (A.eval (.tmp 32)) := hr 32 (by decide) (by decide)
        have e32 : A.tmps[32]?.getD undef = .string s32 := (eval_getD A 32).symm.trans q32
        obtain ⟨s34, q34, z34⟩ : strLe 0 (A.eval (.tmp 34)) := hr 34 (by decide) (by decide)
        have e34 : A.tmps[34]?.getD undef = .string s34 := (eval_getD A 34).symm.trans q34
        have za : (s32 ++ s34).size = s32.size + s34.size := ByteArray.size_append
        unfold Oper.wp execOp
        go_simp
        rw [if_neg (by omega)]
        exact hK _ _ (fun d hd => by cases hd; exact (show strLe 7 _ from ⟨_, rfl, by omega⟩)) (Ch.refl _ _)
      | 21, _, ho => by
        obtain rfl := Option.some.inj ho
        obtain ⟨s35, q35, z35⟩ : strLe 7 (A.eval (.tmp 35)) := hr 35 (by decide) (by decide)
        have e35 : A.tmps[35]?.getD undef = .string s35 := (eval_getD A 35).symm.trans q35
        have zl : (ByteArray.mk #[32]).size = 1 := rfl
        have za : (s35 ++ (ByteArray.mk #[32])).size = s35.size + (ByteArray.mk #[32]).size := ByteArray.size_append
        unfold Oper.wp execOp
        go_simp
        rw [if_neg (by omega)]
        exact hK _ _ (fun d hd => by cases hd; exact (show strLe 8 _ from ⟨_, rfl, by omega⟩)) (Ch.refl _ _)
      | 22, _, ho => by
        obtain rfl := Option.some.inj ho
        have e3 : A.tmps[3]?.getD undef = .pointer (some ⟨O, 0, none⟩) := (eval_getD A 3).symm.trans (hx 3 (by decide))
        unfold Oper.wp execOp
        go_simp
        exact hK _ _ (fun d hd => by cases hd; exact rfl) (Ch.refl _ _)
      | 23, _, ho => by
        obtain rfl := Option.some.inj ho
        have e37 : A.tmps[37]?.getD undef = .pointer (some ⟨O, 4, none⟩) := (eval_getD A 37).symm.trans (hr 37 (by decide) (by decide))
        have l0 : W'.cell? ⟨O, 4, none⟩ = some (.string ⟨#[]⟩) := blk_cell hO rfl
        unfold Oper.wp execOp
        go_simp
        exact hK _ _ (fun d hd => by cases hd; exact (show strLe 0 _ from ⟨_, rfl, by first | omega | decide⟩)) (Ch.refl _ _)
      | 24, _, ho => by
        obtain rfl := Option.some.inj ho
        obtain ⟨s36, q36, z36⟩ : strLe 8 (A.eval (.tmp 36)) := hr 36 (by decide) (by decide)
        have e36 : A.tmps[36]?.getD undef = .string s36 := (eval_getD A 36).symm.trans q36
        obtain ⟨s38, q38, z38⟩ : strLe 0 (A.eval (.tmp 38)) := hr 38 (by decide) (by decide)
        have e38 : A.tmps[38]?.getD undef = .string s38 := (eval_getD A 38).symm.trans q38
        have za : (s36 ++ s38).size = s36.size + s38.size := ByteArray.size_append
        unfold Oper.wp execOp
        go_simp
        rw [if_neg (by omega)]
        exact hK _ _ (fun d hd => by cases hd; exact (show strLe 8 _ from ⟨_, rfl, by omega⟩)) (Ch.refl _ _)
      | 25, _, ho => by
        obtain rfl := Option.some.inj ho
        obtain ⟨s39, q39, z39⟩ : strLe 8 (A.eval (.tmp 39)) := hr 39 (by decide) (by decide)
        have e39 : A.tmps[39]?.getD undef = .string s39 := (eval_getD A 39).symm.trans q39
        have zl : (ByteArray.mk #[32]).size = 1 := rfl
        have za : (s39 ++ (ByteArray.mk #[32])).size = s39.size + (ByteArray.mk #[32]).size := ByteArray.size_append
        unfold Oper.wp execOp
        go_simp
        rw [if_neg (by omega)]
        exact hK _ _ (fun d hd => by cases hd; exact (show strLe 9 _ from ⟨_, rfl, by omega⟩)) (Ch.refl _ _)
      | 26, _, ho => by
        obtain rfl := Option.some.inj ho
        have e3 : A.tmps[3]?.getD undef = .pointer (some ⟨O, 0, none⟩) := (eval_getD A 3).symm.trans (hx 3 (by decide))
        unfold Oper.wp execOp
        go_simp
        exact hK _ _ (fun d hd => by cases hd; exact rfl) (Ch.refl _ _)
      | 27, _, ho => by
        obtain rfl := Option.some.inj ho
        have e41 : A.tmps[41]?.getD undef = .pointer (some ⟨O, 5, none⟩) := (eval_getD A 41).symm.trans (hr 41 (by decide) (by decide))
        have l0 : W'.cell? ⟨O, 5, none⟩ = some (.string ⟨#[]⟩) := blk_cell hO rfl
        unfold Oper.wp execOp
        go_simp
        exact hK _ _ (fun d hd => by cases hd; exact (show strLe 0 _ from ⟨_, rfl, by first | omega | decide⟩)) (Ch.refl _ _)
      | 28, _, ho => by
        obtain rfl := Option.some.inj ho
        obtain ⟨s40, q40, z40⟩ : strLe 9 (A.eval (.tmp 40)) := hr 40 (by decide) (by decide)
        have e40 : A.tmps[40]?.getD undef = .string s40 := (eval_getD A 40).symm.trans q40
        obtain ⟨s42, q42, z42⟩ : strLe 0 (A.eval (.tmp 42)) := hr 42 (by decide) (by decide)
        have e42 : A.tmps[42]?.getD undef = .string s42 := (eval_getD A 42).symm.trans q42
        have za : (s40 ++ s42).size = s40.size + s42.size := ByteArray.size_append
        unfold Oper.wp execOp
        go_simp
        rw [if_neg (by omega)]
        exact hK _ _ (fun d hd => by cases hd; exact (show strLe 9 _ from ⟨_, rfl, by omega⟩)) (Ch.refl _ _)
      | 29, _, ho => by
        obtain rfl := Option.some.inj ho
        have e1 : A.tmps[1]?.getD undef = .pointer (some ⟨M, 0, none⟩) := (eval_getD A 1).symm.trans (hx 1 (by decide))
        unfold Oper.wp execOp
        go_simp
        exact hK _ _ (fun d hd => by cases hd; exact rfl) (Ch.refl _ _)
      | 30, _, ho => by
        obtain rfl := Option.some.inj ho
        have e44 : A.tmps[44]?.getD undef = .pointer (some ⟨M, 7, none⟩) := (eval_getD A 44).symm.trans (hr 44 (by decide) (by decide))
        have l0 : W'.cell? ⟨M, 7, none⟩ = some (.string ⟨#[]⟩) := blk_cell hM rfl
        unfold Oper.wp execOp
        go_simp
        exact hK _ _ (fun d hd => by cases hd; exact (show strLe 0 _ from ⟨_, rfl, by first | omega | decide⟩)) (Ch.refl _ _)
      | 31, _, ho => by
        obtain rfl := Option.some.inj ho
        obtain ⟨s45, q45, z45⟩ : strLe 0 (A.eval (.tmp 45)) := hr 45 (by decide) (by decide)
        have e45 : A.tmps[45]?.getD undef = .string s45 := (eval_getD A 45).symm.trans q45
        have zl : (ByteArray.mk #[115, 61]).size = 2 := rfl
        have za : ((ByteArray.mk #[115, 61]) ++ s45).size = (ByteArray.mk #[115, 61]).size + s45.size := ByteArray.size_append
        unfold Oper.wp execOp
        go_simp
        rw [if_neg (by omega)]
        exact hK _ _ (fun d hd => by cases hd; exact (show strLe 2 _ from ⟨_, rfl, by omega⟩)) (Ch.refl _ _)
      | 32, _, ho => by
        obtain rfl := Option.some.inj ho
        obtain ⟨s18, q18, z18⟩ : strLe 3 (A.eval (.tmp 18)) := hr 18 (by decide) (by decide)
        have e18 : A.tmps[18]?.getD undef = .string s18 := (eval_getD A 18).symm.trans q18
        obtain ⟨s43, q43, z43⟩ : strLe 9 (A.eval (.tmp 43)) := hr 43 (by decide) (by decide)
        have e43 : A.tmps[43]?.getD undef = .string s43 := (eval_getD A 43).symm.trans q43
        obtain ⟨s46, q46, z46⟩ : strLe 2 (A.eval (.tmp 46)) := hr 46 (by decide) (by decide)
        have e46 : A.tmps[46]?.getD undef = .string s46 := (eval_getD A 46).symm.trans q46
        unfold Oper.wp execOp
        go_simp
        exact hK _ _ (fun d hd => by cases hd; exact ⟨_, _, _, _, rfl, hLW, heap_alloc_new _ _⟩) (Ch.grown (World.grownBy_alloc _ _ none) (by simp))
      | n + 33, hi, _ => absurd hi (by omega)
  · intro o ho u W' hR hu
    obtain rfl := Option.some.inj ho
    obtain ⟨k, a, b, c, hv, hk, hblk⟩ : ∃ (k : Nat) (a b c : ByteArray), u 47 = .slice (some ⟨k, 0, none⟩) 3 3 ∧ M ≤ k ∧ W'.heap[k]? = some (.cells #[.string a, .string b, .string c] 9 (0, 0)) := hu 47 (by decide)
    have hR0 := (Ch.of_heap (Ch.refl _ W1) (w' := W1.drew) rfl rfl rfl rfl).trans hR
    have HCh := Lib.hid (HC1.out.trans hR0)
    have HM2 := Lib.hid ((hR0.block M (blk_lt HM1.out) id).trans HM1.out)
    have HB2 := Lib.hid hblk
    clear hR hu hblk hR0
    rw [linesA_frame, hv]
    unfold Oper.wp execOp
    go_simp
    have m8 : W'.cell? ⟨M, 8, none⟩ = some (.slice none 0 0) := blk_cell HM2.out rfl
    have m9 : W'.cell? ⟨M, 9, none⟩ = some (.slice none 0 0) := blk_cell HM2.out rfl
    have m10 : W'.cell? ⟨M, 10, none⟩ = some (.slice none 0 0) := blk_cell HM2.out rfl
    have m11 : W'.cell? ⟨M, 11, none⟩ = some (.slice none 0 0) := blk_cell HM2.out rfl
    have m12 : W'.cell? ⟨M, 12, none⟩ = some (.slice none 0 0) := blk_cell HM2.out rfl
    have m13 : W'.cell? ⟨M, 13, none⟩ = some (.slice (some ⟨G, 0, none⟩) 1 D) := blk_cell HM2.out rfl
    have ap := append_nil28 ⟨k, 0, none⟩ 3 3 W' (Nat.le_refl _)
    clear hv
    go_wp2_with (go_at_call 52; refine (text_nil _ _).mono ?_; rintro e w1 ⟨rfl, rfl⟩)
    clear ap m8 m9 m10 m11 m12 m13
    refine (shared_one HT.out HN.out ((HCh.out.block G (blk_lt HG.out) id).trans HG.out)).mono ?_
    rintro e W3 ⟨h3, cap3, rfl, hown3, hc3⟩
    have HB3 := Lib.hid ((hc3.block k (blk_lt HB2.out) id).trans HB2.out)
    have HM3 := Lib.hid ((hc3.block M (blk_lt HM2.out) id).trans HM2.out)
    have HC3 := Lib.hid (HCh.out.trans hc3)
    have HO3 := Lib.hid (show W3.ownsRow M 9 1 (.slice (some ⟨k, 0, none⟩) 3 3) 3 [.string a, .string b, .string c] from ⟨rfl, .inr ⟨k, 3, _, rfl, hk, HB3.out, Nat.le_refl _, by decide, rfl, rfl⟩⟩)
    have HN3 := Lib.hid (hown3.cells (g := h3) rfl)
    have HK := Lib.hid hk
    have HMK := Lib.hid (show M ≠ k from fun e => by
      have h1 := HM3.out
      rw [e, HB3.out] at h1
      cases h1)
    have HS3 := Lib.hid (show M ≤ W3.heap.size from Nat.le_of_lt (blk_lt HM3.out))
    obtain ⟨i0, hi0, hz0, hz1, hz2⟩ := info_parts Tryz.info9
    clear hown3 hc3 hk
    go_wp2_with (at_builtin; refine wpList_append_lies _ rfl (.tmp 68) (.tmp 73) 28 rfl M 9 i0 _ 1 16 Tryz.underlying28 hi0 hz0 hz1 hz2 rfl (by decide) (.slice (some ⟨k, 0, none⟩) 3 3) 3 [.string a, .string b, .string c] rfl HO3.out ⟨h3, 0, none⟩ 1 cap3 [.string ⟨(bandLine x t n).toArray⟩] rfl rfl HN3.out (by simp [Value.oneCell']) (by decide) (by decide) (by decide) HS3.out _ rfl ?_; intro g4 cap4 W4 hown4 hgrow4 hat4 hlt4; have HO4 := Lib.hid hown4; have HG4 := Lib.hid hgrow4; clear hown4 hgrow4 hat4 hlt4; refine Hid.out ?_)
    have HM4 := Lib.hid ((HG4.out.block M (blk_lt HM3.out) (by intro e; exact HMK.out (Option.some.inj e))).trans HM3.out)
    have HC4 := Lib.hid (HC3.out.old HG4.out (fun j hj => .inl (by cases hj; rw [hB]; exact HK.out)))
    have hle : 4 ≤ cap4 := by
      obtain ⟨_, h | ⟨g', c', cur, h1, _, _, h4, _⟩⟩ := HO4.out
      · exact absurd h.2 (by decide)
      · cases h1
        exact h4
    have HLE := Lib.hid hle
    have m14 : W4.cell? ⟨M, 14, none⟩ = some (.slice none 0 0) := blk_cell HM4.out rfl
    have m15 : W4.cell? ⟨M, 15, none⟩ = some (.slice none 0 0) := blk_cell HM4.out rfl
    have ap := append_nil28 ⟨g4, 0, none⟩ 4 cap4 W4 hle
    clear hle
    refine Lib.hid ?_
    go_upto_region 17 with (go_at_call 54; refine (timed_nil _).mono ?_; rintro e w1 ⟨rfl, rfl⟩)
    clear ap m14 m15
    refine wp_region_ops (by kernel_rfl) [107, 108, 109, 110, 111, 112, 113, 114, 115] 9 (by kernel_rfl) (by kernel_rfl) (by kernel_rfl) (linesBT M g4 cap4) (Ch (fun _ => False)) (Ch.refl _) (fun _ _ _ => Ch.trans) (fun _ _ _ _ => linesBT_stays) ?_ ?_
    · intro i o hi ho A W' hR hr hx K hK
      have hM : W'.heap[M]? = some (.cells #[.int .i64 0, .string ⟨#[]⟩, .int .u64 0, .int .u64 0, .string ⟨#[]⟩, .string ⟨#[]⟩, .string ⟨#[]⟩, .string ⟨#[]⟩, .slice none 0 0, .slice none 0 0, .slice none 0 0, .slice none 0 0, .slice none 0 0, .slice (some ⟨G, 0, none⟩) 1 D, .slice none 0 0, .slice none 0 0, .slice none 0 0, .slice none 0 0, .slice none 0 0] 57 (0, 0)) := (hR.block M (blk_lt HM4.out) id).trans HM4.out
      have hgc := HLE.out
      clear hR
      generalize g4 = g at *
      generalize cap4 = c at *
      exact match i, hi, ho with
      | 0, _, ho => by
        obtain rfl := Option.some.inj ho
        have e4 : A.tmps[4]?.getD undef = .slice (some ⟨g, 0, none⟩) 4 c := (eval_getD A 4).symm.trans (hx 4 (by decide))
        unfold Oper.wp execOp
        go_simp
        exact hK _ _ (fun d hd => by cases hd; exact rfl) (Ch.refl _ _)
      | 1, _, ho => by
        obtain rfl := Option.some.inj ho
        have e1 : A.tmps[1]?.getD undef = .pointer (some ⟨M, 0, none⟩) := (eval_getD A 1).symm.trans (hx 1 (by decide))
        unfold Oper.wp execOp
        go_simp
        exact hK _ _ (fun d hd => by cases hd; exact rfl) (Ch.refl _ _)
      | 2, _, ho => by
        obtain rfl := Option.some.inj ho
        have e108 : A.tmps[108]?.getD undef = .pointer (some ⟨M, 16, none⟩) := (eval_getD A 108).symm.trans (hr 108 (by decide) (by decide))
        have l0 : W'.cell? ⟨M, 16, none⟩ = some (.slice none 0 0) := blk_cell hM rfl
        unfold Oper.wp execOp
        go_simp
        exact hK _ _ (fun d hd => by cases hd; exact rfl) (Ch.refl _ _)
      | 3, _, ho => by
        obtain rfl := Option.some.inj ho
        have e109 : A.tmps[109]?.getD undef = .slice none 0 0 := (eval_getD A 109).symm.trans (hr 109 (by decide) (by decide))
        unfold Oper.wp execOp
        go_simp
        (go_at_call 52; refine (text_nil _ _).mono ?_; rintro e W2 ⟨rfl, rfl⟩)
        exact hK _ _ (fun d hd => by cases hd; rfl) (Ch.refl _ _)
      | 4, _, ho => by
        obtain rfl := Option.some.inj ho
        have e107 : A.tmps[107]?.getD undef = .slice (some ⟨g, 0, none⟩) 4 c := (eval_getD A 107).symm.trans (hr 107 (by decide) (by decide))
        have e110 : A.tmps[110]?.getD undef = .slice none 0 0 := (eval_getD A 110).symm.trans (hr 110 (by decide) (by decide))
        have ap := append_nil28 ⟨g, 0, none⟩ 4 c W' hgc
        unfold Oper.wp execOp
        go_simp
        exact hK _ _ (fun d hd => by cases hd; rfl) (Ch.refl _ _)
      | 5, _, ho => by
        obtain rfl := Option.some.inj ho
        have e1 : A.tmps[1]?.getD undef = .pointer (some ⟨M, 0, none⟩) := (eval_getD A 1).symm.trans (hx 1 (by decide))
        unfold Oper.wp execOp
        go_simp
        exact hK _ _ (fun d hd => by cases hd; exact rfl) (Ch.refl _ _)
      | 6, _, ho => by
        obtain rfl := Option.some.inj ho
        have e112 : A.tmps[112]?.getD undef = .pointer (some ⟨M, 17, none⟩) := (eval_getD A 112).symm.trans (hr 112 (by decide) (by decide))
        have l0 : W'.cell? ⟨M, 17, none⟩ = some (.slice none 0 0) := blk_cell hM rfl
        unfold Oper.wp execOp
        go_simp
        exact hK _ _ (fun d hd => by cases hd; exact rfl) (Ch.refl _ _)
      | 7, _, ho => by
        obtain rfl := Option.some.inj ho
        have e113 : A.tmps[113]?.getD undef = .slice none 0 0 := (eval_getD A 113).symm.trans (hr 113 (by decide) (by decide))
        unfold Oper.wp execOp
        go_simp
        (go_at_call 56; refine (marked_nil _).mono ?_; rintro e W2 ⟨rfl, rfl⟩)
        exact hK _ _ (fun d hd => by cases hd; rfl) (Ch.refl _ _)
      | 8, _, ho => by
        obtain rfl := Option.some.inj ho
        have e111 : A.tmps[111]?.getD undef = .slice (some ⟨g, 0, none⟩) 4 c := (eval_getD A 111).symm.trans (hr 111 (by decide) (by decide))
        have e114 : A.tmps[114]?.getD undef = .slice none 0 0 := (eval_getD A 114).symm.trans (hr 114 (by decide) (by decide))
        have ap := append_nil28 ⟨g, 0, none⟩ 4 c W' hgc
        unfold Oper.wp execOp
        go_simp
        exact hK _ _ (fun d hd => by cases hd; rfl) (Ch.refl _ _)
      | n + 9, hi, _ => absurd hi (by omega)

    · intro o ho u W5 hR hu
      obtain rfl := Option.some.inj ho
      have hv : u 115 = .slice (some ⟨g4, 0, none⟩) 4 cap4 := hu 115 (by decide)
      have hR0 := (Ch.of_heap (Ch.refl _ W4) (w' := W4.drew) rfl rfl rfl rfl).trans hR
      have HM5 := Lib.hid ((hR0.block M (blk_lt HM4.out) id).trans HM4.out)
      have HC5 := Lib.hid (HC4.out.trans hR0)
      have HO5 := Lib.hid (owns_ch HO4.out hR0)
      clear hR hu hR0
      rw [linesB_frame, hv]
      unfold Oper.wp execOp
      go_simp
      have m18 : W5.cell? ⟨M, 18, none⟩ = some (.slice none 0 0) := blk_cell HM5.out rfl
      clear hv
      go_wp2
      refine wp_loop_rounds 1 ?_
      rw [rounds_succ]
      go_wp2
      refine bodyPost_ret (v := .slice (some ⟨g4, 0, none⟩) 4 cap4) (by simp [results, Tryz.results23]) rfl ?_
      refine ⟨g4, cap4, rfl, ⟨a, b, c, ?_⟩, HC5.out⟩
      rw [hB]
      exact HO5.out

end Go.Proofs.YtimonhimfioohaaGreatDoor
