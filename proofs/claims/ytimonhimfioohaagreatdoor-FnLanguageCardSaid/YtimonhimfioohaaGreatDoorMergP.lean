/- impl.plain at a description that is read. -/
import Derived.Test.YtimonhimfioohaaGreatDoorMergK

namespace Go.Proofs.YtimonhimfioohaaGreatDoor
open Go.RowKit

theorem els_own {w : World} {b e size n c : Nat} {A : Option Addr} {α : Type} {f : α → List Value} {l : List α} {R : List Value → Prop} (hf : ∀ a, (f a).length = size) (hR : ∀ a, R (f a)) (h : w.ownsRow b e size (.slice A n c) n (l.flatMap f)) (hn : n = l.length) : Els w size R A n := fun k hk => by
  obtain ⟨b', o, h1, h2⟩ := Lst.of_slice hf h hn k l[k] (List.getElem?_eq_getElem (by omega))
  exact ⟨b', o, f l[k], h1, hf _, hR _, h2⟩
/-- A row as a slice. -/
theorem own_sl {w : World} {b e size n : Nat} {v : Value} {xs : List Value} (h : w.ownsRow b e size v n xs) : ∃ A c, v = .slice A n c := own_slice h

def plgT (D N Z : Nat) (p8 p9 p10 p11 p12 p16 : Option Addr) (A13 A17 : Option Addr) (c13 c17 : Nat) (lb : List (Bool × ByteArray × Int)) (la : List (ByteArray × ByteArray)) (d : Nat) (v : Value) (W : World) : Prop :=
  match d with
  | 18 => v = .pointer (some ⟨D, 0, none⟩)
  | 19 => v = .pointer (some ⟨D, 0, none⟩)
  | 20 => v = .pointer (some ⟨D, 0, none⟩)
  | 21 => v = .int .i64 0
  | 22 => v = .pointer (some ⟨N, 0, none⟩)
  | 23 => v = .string ⟨#[45]⟩
  | 24 => v = .pointer (some ⟨N, 1, none⟩)
  | 25 => v = .int .u64 1
  | 26 => v = .pointer (some ⟨N, 2, none⟩)
  | 27 => v = .int .u64 1
  | 28 => v = .pointer (some ⟨N, 3, none⟩)
  | 29 => v = .string ⟨#[73, 78]⟩
  | 30 => v = .pointer (some ⟨N, 4, none⟩)
  | 31 => v = .string ⟨#[73, 80, 52]⟩
  | 32 => v = .pointer (some ⟨N, 5, none⟩)
  | 33 => v = .string ⟨#[97]⟩
  | 34 => v = .agg #[.string ⟨#[45]⟩, .int .u64 1, .int .u64 1, .string ⟨#[73, 78]⟩, .string ⟨#[73, 80, 52]⟩, .string ⟨#[97]⟩]
  | 35 => v = .pointer (some ⟨D, 0, none⟩)
  | 36 => v = .pointer (some ⟨D, 0, none⟩)
  | 37 => v = .pointer (some ⟨D, 7, none⟩)
  | 38 => v = .string ⟨#[120]⟩
  | 39 => v = .pointer (some ⟨D, 0, none⟩)
  | 40 => v = .pointer (some ⟨D, 0, none⟩)
  | 41 => v = .pointer (some ⟨D, 8, none⟩)
  | 42 => v = .pointer p8
  | 43 => ∃ (SA : Option Addr) (n : Nat) (c : Nat), v = .slice SA n c
  | 44 => v = .pointer (some ⟨D, 0, none⟩)
  | 45 => v = .pointer (some ⟨D, 0, none⟩)
  | 46 => v = .pointer (some ⟨D, 9, none⟩)
  | 47 => v = .pointer p9
  | 48 => ∃ (SA : Option Addr) (n : Nat) (c : Nat), v = .slice SA n c
  | 49 => v = .pointer (some ⟨D, 0, none⟩)
  | 50 => v = .pointer (some ⟨D, 0, none⟩)
  | 51 => v = .pointer (some ⟨D, 10, none⟩)
  | 52 => v = .pointer p10
  | 53 => ∃ (SA : Option Addr) (n : Nat) (c : Nat), v = .slice SA n c
  | 54 => v = .pointer (some ⟨D, 0, none⟩)
  | 55 => v = .pointer (some ⟨D, 0, none⟩)
  | 56 => v = .pointer (some ⟨D, 11, none⟩)
  | 57 => v = .pointer p11
  | 58 => ∃ (SA : Option Addr) (n : Nat) (c : Nat), v = .slice SA n c
  | 59 => v = .pointer (some ⟨D, 0, none⟩)
  | 60 => v = .pointer (some ⟨D, 0, none⟩)
  | 61 => v = .pointer (some ⟨D, 12, none⟩)
  | 62 => v = .pointer p12
  | 63 => ∃ (SA : Option Addr) (n : Nat) (c : Nat), v = .slice SA n c
  | 64 => v = .pointer (some ⟨D, 0, none⟩)
  | 65 => v = .pointer (some ⟨D, 0, none⟩)
  | 66 => v = .pointer (some ⟨D, 13, none⟩)
  | 67 => v = .slice A13 lb.length c13
  | 68 => ∃ (SA : Option Addr) (n : Nat) (c : Nat), v = .slice SA n c
  | 69 => v = .pointer (some ⟨D, 0, none⟩)
  | 70 => v = .pointer (some ⟨D, 0, none⟩)
  | 71 => v = .pointer (some ⟨D, 16, none⟩)
  | 72 => v = .pointer p16
  | 73 => ∃ (SA : Option Addr) (n : Nat) (c : Nat), v = .slice SA n c
  | 74 => v = .pointer (some ⟨D, 0, none⟩)
  | 75 => v = .pointer (some ⟨D, 0, none⟩)
  | 76 => v = .pointer (some ⟨D, 17, none⟩)
  | 77 => v = .slice A17 la.length c17
  | 78 => ∃ (SA : Option Addr) (n : Nat) (c : Nat), v = .slice SA n c
  | 79 => ∃ (S1 : Option Addr) (m1 : Nat) (d1 : Nat) (S2 : Option Addr) (m2 : Nat) (d2 : Nat) (S3 : Option Addr) (m3 : Nat) (d3 : Nat) (S4 : Option Addr) (m4 : Nat) (d4 : Nat) (S5 : Option Addr) (m5 : Nat) (d5 : Nat) (S6 : Option Addr) (m6 : Nat) (d6 : Nat) (S7 : Option Addr) (m7 : Nat) (d7 : Nat) (S8 : Option Addr) (m8 : Nat) (d8 : Nat), v = .agg #[.int .i64 0, .string ⟨#[45]⟩, .int .u64 1, .int .u64 1, .string ⟨#[73, 78]⟩, .string ⟨#[73, 80, 52]⟩, .string ⟨#[97]⟩, .string ⟨#[120]⟩, .slice S1 m1 d1, .slice S2 m2 d2, .slice S3 m3 d3, .slice S4 m4 d4, .slice S5 m5 d5, .slice S6 m6 d6, .slice none 0 0, .slice none 0 0, .slice S7 m7 d7, .slice S8 m8 d8, .slice none 0 0]
  | 4 => ∃ (k : Nat), v = .pointer (some ⟨k, 0, none⟩) ∧ Z ≤ k ∧ W.heap[k]? = some (.cells #[.int .i64 0, .string ⟨#[]⟩, .int .u64 0, .int .u64 0, .string ⟨#[]⟩, .string ⟨#[]⟩, .string ⟨#[]⟩, .string ⟨#[]⟩, .slice none 0 0, .slice none 0 0, .slice none 0 0, .slice none 0 0, .slice none 0 0, .slice none 0 0, .slice none 0 0, .slice none 0 0, .slice none 0 0, .slice none 0 0, .slice none 0 0] 36 (0, 0))
  | _ => True

theorem plgT_stays {D N Z : Nat} {p8 p9 p10 p11 p12 p16 : Option Addr} {A13 A17 : Option Addr} {c13 c17 : Nat} {lb : List (Bool × ByteArray × Int)} {la : List (ByteArray × ByteArray)} {d : Nat} {v : Value} {W W' : World} (h : plgT D N Z p8 p9 p10 p11 p12 p16 A13 A17 c13 c17 lb la d v W) (hc : Ch (fun _ => False) W W') : plgT D N Z p8 p9 p10 p11 p12 p16 A13 A17 c13 c17 lb la d v W' := by
  unfold plgT at h ⊢
  split at h
  · exact h
  · exact h
  · exact h
  · exact h
  · exact h
  · exact h
  · exact h
  · exact h
  · exact h
  · exact h
  · exact h
  · exact h
  · exact h
  · exact h
  · exact h
  · exact h
  · exact h
  · exact h
  · exact h
  · exact h
  · exact h
  · exact h
  · exact h
  · exact h
  · exact h
  · obtain ⟨SA, n, c, eq_⟩ := h
    exact ⟨SA, n, c, eq_⟩
  · exact h
  · exact h
  · exact h
  · exact h
  · obtain ⟨SA, n, c, eq_⟩ := h
    exact ⟨SA, n, c, eq_⟩
  · exact h
  · exact h
  · exact h
  · exact h
  · obtain ⟨SA, n, c, eq_⟩ := h
    exact ⟨SA, n, c, eq_⟩
  · exact h
  · exact h
  · exact h
  · exact h
  · obtain ⟨SA, n, c, eq_⟩ := h
    exact ⟨SA, n, c, eq_⟩
  · exact h
  · exact h
  · exact h
  · exact h
  · obtain ⟨SA, n, c, eq_⟩ := h
    exact ⟨SA, n, c, eq_⟩
  · exact h
  · exact h
  · exact h
  · exact h
  · obtain ⟨SA, n, c, eq_⟩ := h
    exact ⟨SA, n, c, eq_⟩
  · exact h
  · exact h
  · exact h
  · exact h
  · obtain ⟨SA, n, c, eq_⟩ := h
    exact ⟨SA, n, c, eq_⟩
  · exact h
  · exact h
  · exact h
  · exact h
  · obtain ⟨SA, n, c, eq_⟩ := h
    exact ⟨SA, n, c, eq_⟩
  · obtain ⟨S1, m1, d1, S2, m2, d2, S3, m3, d3, S4, m4, d4, S5, m5, d5, S6, m6, d6, S7, m7, d7, S8, m8, d8, eq_⟩ := h
    exact ⟨S1, m1, d1, S2, m2, d2, S3, m3, d3, S4, m4, d4, S5, m5, d5, S6, m6, d6, S7, m7, d7, S8, m8, d8, eq_⟩
  · obtain ⟨k, eq_, p0, p1⟩ := h
    exact ⟨k, eq_, p0, (hc.block _ (blk_lt p1) id).trans p1⟩
  · trivial

set_option maxRecDepth 100000 in
theorem plg_frame (x0 x1 x2 x3 x4 x5 x6 x7 x8 x9 x10 x11 x12 x13 x14 x15 x16 x17 x18 x19 x20 x21 x22 x23 x24 x25 x26 x27 x28 x29 x30 x31 x32 x33 x34 x35 x36 x37 x38 x39 x40 x41 x42 x43 x44 x45 x46 x47 x48 x49 x50 x51 x52 x53 x54 x55 x56 x57 x58 x59 x60 x61 x62 x63 x64 x65 x66 x67 x68 x69 x70 x71 x72 x73 x74 x75 x76 x77 x78 x79 x80 x81 x82 x83 x84 x85 x86 x87 x88 x89 x90 x91 x92 x93 x94 x95 x96 x97 x98 x99 x100 x101 x102 x103 x104 x105 x106 x107 x108 x109 x110 x111 x112 x113 x114 x115 x116 x117 x118 x119 x120 x121 x122 x123 x124 x125 x126 x127 x128 x129 x130 x131 x132 x133 x134 x135 x136 x137 x138 x139 x140 x141 x142 x143 x144 x145 x146 x147 x148 x149 x150 x151 x152 x153 x154 x155 x156 x157 x158 x159 x160 x161 : Value) (d : List Deferred) (u : Nat → Value) : frameOf ⟨#[x0, x1, x2, x3, x4, x5, x6, x7, x8, x9, x10, x11, x12, x13, x14, x15, x16, x17, x18, x19, x20, x21, x22, x23, x24, x25, x26, x27, x28, x29, x30, x31, x32, x33, x34, x35, x36, x37, x38, x39, x40, x41, x42, x43, x44, x45, x46, x47, x48, x49, x50, x51, x52, x53, x54, x55, x56, x57, x58, x59, x60, x61, x62, x63, x64, x65, x66, x67, x68, x69, x70, x71, x72, x73, x74, x75, x76, x77, x78, x79, x80, x81, x82, x83, x84, x85, x86, x87, x88, x89, x90, x91, x92, x93, x94, x95, x96, x97, x98, x99, x100, x101, x102, x103, x104, x105, x106, x107, x108, x109, x110, x111, x112, x113, x114, x115, x116, x117, x118, x119, x120, x121, x122, x123, x124, x125, x126, x127, x128, x129, x130, x131, x132, x133, x134, x135, x136, x137, x138, x139, x140, x141, x142, x143, x144, x145, x146, x147, x148, x149, x150, x151, x152, x153, x154, x155, x156, x157, x158, x159, x160, x161], d⟩ [18, 19, 20, 21, 22, 23, 24, 25, 26, 27, 28, 29, 30, 31, 32, 33, 34, 35, 36, 37, 38, 39, 40, 41, 42, 43, 44, 45, 46, 47, 48, 49, 50, 51, 52, 53, 54, 55, 56, 57, 58, 59, 60, 61, 62, 63, 64, 65, 66, 67, 68, 69, 70, 71, 72, 73, 74, 75, 76, 77, 78, 79, 4] u = ⟨#[x0, x1, x2, x3, u 4, x5, x6, x7, x8, x9, x10, x11, x12, x13, x14, x15, x16, x17, u 18, u 19, u 20, u 21, u 22, u 23, u 24, u 25, u 26, u 27, u 28, u 29, u 30, u 31, u 32, u 33, u 34, u 35, u 36, u 37, u 38, u 39, u 40, u 41, u 42, u 43, u 44, u 45, u 46, u 47, u 48, u 49, u 50, u 51, u 52, u 53, u 54, u 55, u 56, u 57, u 58, u 59, u 60, u 61, u 62, u 63, u 64, u 65, u 66, u 67, u 68, u 69, u 70, u 71, u 72, u 73, u 74, u 75, u 76, u 77, u 78, u 79, x80, x81, x82, x83, x84, x85, x86, x87, x88, x89, x90, x91, x92, x93, x94, x95, x96, x97, x98, x99, x100, x101, x102, x103, x104, x105, x106, x107, x108, x109, x110, x111, x112, x113, x114, x115, x116, x117, x118, x119, x120, x121, x122, x123, x124, x125, x126, x127, x128, x129, x130, x131, x132, x133, x134, x135, x136, x137, x138, x139, x140, x141, x142, x143, x144, x145, x146, x147, x148, x149, x150, x151, x152, x153, x154, x155, x156, x157, x158, x159, x160, x161], d⟩ := by kernel_rfl

def rep2T (T7 T9 : Nat) (A2 : Option Addr) (m2 c2 : Nat) (L Z n : Nat) (v : Value) (xs : List Value) (f : Nat → Bool) (d : Nat) (v' : Value) (W : World) : Prop :=
  match d with
  | 103 => v' = .pointer (some ⟨T7, 2, none⟩)
  | 104 => f 11 = true ∨ (v' = v ∧ W.ownsRow L 201 3 v n xs)
  | 105 => v' = .pointer (some ⟨T9, 0, none⟩)
  | 106 => v' = .int .i64 1
  | 107 => v' = .pointer (some ⟨T9, 1, none⟩)
  | 108 => v' = .int .i64 1
  | 109 => v' = .pointer (some ⟨T9, 2, none⟩)
  | 110 => v' = .slice A2 m2 c2
  | 111 => ∃ (S : Option Addr) (m : Nat) (c : Nat), v' = .slice S m c
  | 112 => ∃ (S : Option Addr) (m : Nat) (c : Nat), v' = .agg #[.int .i64 1, .int .i64 1, .slice S m c]
  | 113 => f 11 = true ∨ ∃ (k : Nat) (S : Option Addr) (m : Nat) (c : Nat), v' = .slice (some ⟨k, 0, none⟩) 1 1 ∧ W.heap[k]? = some (.cells #[.int .i64 1, .int .i64 1, .slice S m c] 201 (0, 0))
  | 114 => f 11 = true ∧ (∃ (S : Option Addr) (m : Nat) (c : Nat), W.ownsRow L 201 3 v' (n + 1) (xs ++ [.int .i64 1, .int .i64 1, .slice S m c]) ∧ lies v Z v')
  | 115 => v' = .pointer (some ⟨T7, 2, none⟩)
  | _ => True
theorem rep2_stay {T7 T9 : Nat} {A2 : Option Addr} {m2 c2 : Nat} {L Z n : Nat} {v : Value} {xs : List Value} {f : Nat → Bool} {i d : Nat} {x : Value} {W W' : World} (hc : Ch (fun _ => False) W W') (h : rep2T T7 T9 A2 m2 c2 L Z n v xs f d x W) : rep2T T7 T9 A2 m2 c2 L Z n v xs (upd f i) d x W' := by
  unfold rep2T at h ⊢
  split at h
  · exact h
  · exact h.elim (fun h => .inl (by unfold upd; split <;> first | rfl | exact h)) (fun h => .inr ⟨h.1, own_ch h.2 hc⟩)
  · exact h
  · exact h
  · exact h
  · exact h
  · exact h
  · exact h
  · exact h
  · exact h
  · rcases h with h | ⟨k, S, m, c, e, hk⟩
    · exact .inl (by unfold upd; split <;> first | rfl | exact h)
    · exact .inr ⟨k, S, m, c, e, (hc.block _ (blk_lt hk) id).trans hk⟩
  · obtain ⟨h, S, m, c, ho, hz⟩ := h
    exact ⟨(by unfold upd; split <;> first | rfl | exact h), S, m, c, own_ch ho hc, hz⟩
  · exact h
  · trivial
theorem rep2_stayA {T7 T9 : Nat} {A2 : Option Addr} {m2 c2 : Nat} {L Z n : Nat} {v : Value} {xs : List Value} {f : Nat → Bool} {d : Nat} {x : Value} {W W' : World} (hd : d ≠ 114) (_hQ : W.ownsRow L 201 3 v n xs) (_hc : Ch (fun j => v.ownBlock = some j) W W') (h : rep2T T7 T9 A2 m2 c2 L Z n v xs f d x W) : rep2T T7 T9 A2 m2 c2 L Z n v xs (upd f 11) d x W' := by
  unfold rep2T at h ⊢
  split at h
  · exact h
  · exact .inl (by simp [upd])
  · exact h
  · exact h
  · exact h
  · exact h
  · exact h
  · exact h
  · exact h
  · exact h
  · exact .inl (by simp [upd])
  · exact absurd rfl hd
  · exact h
  · trivial
set_option maxRecDepth 100000 in
theorem rep2_frame (x0 x1 x2 x3 x4 x5 x6 x7 x8 x9 x10 x11 x12 x13 x14 x15 x16 x17 x18 x19 x20 x21 x22 x23 x24 x25 x26 x27 x28 x29 x30 x31 x32 x33 x34 x35 x36 x37 x38 x39 x40 x41 x42 x43 x44 x45 x46 x47 x48 x49 x50 x51 x52 x53 x54 x55 x56 x57 x58 x59 x60 x61 x62 x63 x64 x65 x66 x67 x68 x69 x70 x71 x72 x73 x74 x75 x76 x77 x78 x79 x80 x81 x82 x83 x84 x85 x86 x87 x88 x89 x90 x91 x92 x93 x94 x95 x96 x97 x98 x99 x100 x101 x102 x103 x104 x105 x106 x107 x108 x109 x110 x111 x112 x113 x114 x115 x116 x117 x118 x119 x120 x121 x122 x123 x124 x125 x126 x127 x128 x129 x130 x131 x132 x133 x134 x135 x136 x137 x138 x139 x140 x141 x142 x143 x144 x145 x146 x147 x148 x149 x150 x151 x152 x153 x154 x155 x156 x157 x158 x159 x160 x161 : Value) (d : List Deferred) (u : Nat → Value) : frameOf ⟨#[x0, x1, x2, x3, x4, x5, x6, x7, x8, x9, x10, x11, x12, x13, x14, x15, x16, x17, x18, x19, x20, x21, x22, x23, x24, x25, x26, x27, x28, x29, x30, x31, x32, x33, x34, x35, x36, x37, x38, x39, x40, x41, x42, x43, x44, x45, x46, x47, x48, x49, x50, x51, x52, x53, x54, x55, x56, x57, x58, x59, x60, x61, x62, x63, x64, x65, x66, x67, x68, x69, x70, x71, x72, x73, x74, x75, x76, x77, x78, x79, x80, x81, x82, x83, x84, x85, x86, x87, x88, x89, x90, x91, x92, x93, x94, x95, x96, x97, x98, x99, x100, x101, x102, x103, x104, x105, x106, x107, x108, x109, x110, x111, x112, x113, x114, x115, x116, x117, x118, x119, x120, x121, x122, x123, x124, x125, x126, x127, x128, x129, x130, x131, x132, x133, x134, x135, x136, x137, x138, x139, x140, x141, x142, x143, x144, x145, x146, x147, x148, x149, x150, x151, x152, x153, x154, x155, x156, x157, x158, x159, x160, x161], d⟩ [103, 104, 105, 106, 107, 108, 109, 110, 111, 112, 113, 114, 115] u = ⟨#[x0, x1, x2, x3, x4, x5, x6, x7, x8, x9, x10, x11, x12, x13, x14, x15, x16, x17, x18, x19, x20, x21, x22, x23, x24, x25, x26, x27, x28, x29, x30, x31, x32, x33, x34, x35, x36, x37, x38, x39, x40, x41, x42, x43, x44, x45, x46, x47, x48, x49, x50, x51, x52, x53, x54, x55, x56, x57, x58, x59, x60, x61, x62, x63, x64, x65, x66, x67, x68, x69, x70, x71, x72, x73, x74, x75, x76, x77, x78, x79, x80, x81, x82, x83, x84, x85, x86, x87, x88, x89, x90, x91, x92, x93, x94, x95, x96, x97, x98, x99, x100, x101, x102, u 103, u 104, u 105, u 106, u 107, u 108, u 109, u 110, u 111, u 112, u 113, u 114, u 115, x116, x117, x118, x119, x120, x121, x122, x123, x124, x125, x126, x127, x128, x129, x130, x131, x132, x133, x134, x135, x136, x137, x138, x139, x140, x141, x142, x143, x144, x145, x146, x147, x148, x149, x150, x151, x152, x153, x154, x155, x156, x157, x158, x159, x160, x161], d⟩ := by kernel_rfl

def mdoT (BK b : Nat) (L Z n : Nat) (v : Value) (xs : List Value) (f : Nat → Bool) (d : Nat) (v' : Value) (W : World) : Prop :=
  match d with
  | 153 => v' = .pointer (some ⟨BK, 18, none⟩)
  | 154 => f 5 = true ∨ (v' = v ∧ W.ownsRow L 66 10 v n xs)
  | 155 => v' = .pointer (some ⟨b, 0, none⟩)
  | 156 => ∃ (S1 : Option Addr) (m1 : Nat) (d1 : Nat) (S2 : Option Addr) (m2 : Nat) (d2 : Nat) (S3 : Option Addr) (m3 : Nat) (d3 : Nat) (S4 : Option Addr) (m4 : Nat) (d4 : Nat) (S5 : Option Addr) (m5 : Nat) (d5 : Nat) (S6 : Option Addr) (m6 : Nat) (d6 : Nat) (S7 : Option Addr) (m7 : Nat) (d7 : Nat) (S8 : Option Addr) (m8 : Nat) (d8 : Nat), v' = .agg #[.string ⟨#[97, 117, 100, 105, 111]⟩, .int .i64 1, .slice S1 m1 d1, .slice S2 m2 d2, .slice S3 m3 d3, .slice S4 m4 d4, .slice S5 m5 d5, .slice S6 m6 d6, .slice S7 m7 d7, .slice S8 m8 d8]
  | 157 => f 5 = true ∨ ∃ (k : Nat) (S1 : Option Addr) (m1 : Nat) (d1 : Nat) (S2 : Option Addr) (m2 : Nat) (d2 : Nat) (S3 : Option Addr) (m3 : Nat) (d3 : Nat) (S4 : Option Addr) (m4 : Nat) (d4 : Nat) (S5 : Option Addr) (m5 : Nat) (d5 : Nat) (S6 : Option Addr) (m6 : Nat) (d6 : Nat) (S7 : Option Addr) (m7 : Nat) (d7 : Nat) (S8 : Option Addr) (m8 : Nat) (d8 : Nat), v' = .slice (some ⟨k, 0, none⟩) 1 1 ∧ W.heap[k]? = some (.cells #[.string ⟨#[97, 117, 100, 105, 111]⟩, .int .i64 1, .slice S1 m1 d1, .slice S2 m2 d2, .slice S3 m3 d3, .slice S4 m4 d4, .slice S5 m5 d5, .slice S6 m6 d6, .slice S7 m7 d7, .slice S8 m8 d8] 66 (0, 0))
  | 158 => f 5 = true ∧ (∃ (S1 : Option Addr) (m1 : Nat) (d1 : Nat) (S2 : Option Addr) (m2 : Nat) (d2 : Nat) (S3 : Option Addr) (m3 : Nat) (d3 : Nat) (S4 : Option Addr) (m4 : Nat) (d4 : Nat) (S5 : Option Addr) (m5 : Nat) (d5 : Nat) (S6 : Option Addr) (m6 : Nat) (d6 : Nat) (S7 : Option Addr) (m7 : Nat) (d7 : Nat) (S8 : Option Addr) (m8 : Nat) (d8 : Nat), W.ownsRow L 66 10 v' (n + 1) (xs ++ [.string ⟨#[97, 117, 100, 105, 111]⟩, .int .i64 1, .slice S1 m1 d1, .slice S2 m2 d2, .slice S3 m3 d3, .slice S4 m4 d4, .slice S5 m5 d5, .slice S6 m6 d6, .slice S7 m7 d7, .slice S8 m8 d8]) ∧ lies v Z v')
  | 159 => v' = .pointer (some ⟨BK, 18, none⟩)
  | _ => True
theorem mdo_stay {BK b : Nat} {L Z n : Nat} {v : Value} {xs : List Value} {f : Nat → Bool} {i d : Nat} {x : Value} {W W' : World} (hc : Ch (fun _ => False) W W') (h : mdoT BK b L Z n v xs f d x W) : mdoT BK b L Z n v xs (upd f i) d x W' := by
  unfold mdoT at h ⊢
  split at h
  · exact h
  · exact h.elim (fun h => .inl (by unfold upd; split <;> first | rfl | exact h)) (fun h => .inr ⟨h.1, own_ch h.2 hc⟩)
  · exact h
  · exact h
  · rcases h with h | ⟨k, S1, m1, d1, S2, m2, d2, S3, m3, d3, S4, m4, d4, S5, m5, d5, S6, m6, d6, S7, m7, d7, S8, m8, d8, e, hk⟩
    · exact .inl (by unfold upd; split <;> first | rfl | exact h)
    · exact .inr ⟨k, S1, m1, d1, S2, m2, d2, S3, m3, d3, S4, m4, d4, S5, m5, d5, S6, m6, d6, S7, m7, d7, S8, m8, d8, e, (hc.block _ (blk_lt hk) id).trans hk⟩
  · obtain ⟨h, S1, m1, d1, S2, m2, d2, S3, m3, d3, S4, m4, d4, S5, m5, d5, S6, m6, d6, S7, m7, d7, S8, m8, d8, ho, hz⟩ := h
    exact ⟨(by unfold upd; split <;> first | rfl | exact h), S1, m1, d1, S2, m2, d2, S3, m3, d3, S4, m4, d4, S5, m5, d5, S6, m6, d6, S7, m7, d7, S8, m8, d8, own_ch ho hc, hz⟩
  · exact h
  · trivial
theorem mdo_stayA {BK b : Nat} {L Z n : Nat} {v : Value} {xs : List Value} {f : Nat → Bool} {d : Nat} {x : Value} {W W' : World} (hd : d ≠ 158) (_hQ : W.ownsRow L 66 10 v n xs) (_hc : Ch (fun j => v.ownBlock = some j) W W') (h : mdoT BK b L Z n v xs f d x W) : mdoT BK b L Z n v xs (upd f 5) d x W' := by
  unfold mdoT at h ⊢
  split at h
  · exact h
  · exact .inl (by simp [upd])
  · exact h
  · exact h
  · exact .inl (by simp [upd])
  · exact absurd rfl hd
  · exact h
  · trivial
set_option maxRecDepth 100000 in
theorem mdo_frame (x0 x1 x2 x3 x4 x5 x6 x7 x8 x9 x10 x11 x12 x13 x14 x15 x16 x17 x18 x19 x20 x21 x22 x23 x24 x25 x26 x27 x28 x29 x30 x31 x32 x33 x34 x35 x36 x37 x38 x39 x40 x41 x42 x43 x44 x45 x46 x47 x48 x49 x50 x51 x52 x53 x54 x55 x56 x57 x58 x59 x60 x61 x62 x63 x64 x65 x66 x67 x68 x69 x70 x71 x72 x73 x74 x75 x76 x77 x78 x79 x80 x81 x82 x83 x84 x85 x86 x87 x88 x89 x90 x91 x92 x93 x94 x95 x96 x97 x98 x99 x100 x101 x102 x103 x104 x105 x106 x107 x108 x109 x110 x111 x112 x113 x114 x115 x116 x117 x118 x119 x120 x121 x122 x123 x124 x125 x126 x127 x128 x129 x130 x131 x132 x133 x134 x135 x136 x137 x138 x139 x140 x141 x142 x143 x144 x145 x146 x147 x148 x149 x150 x151 x152 x153 x154 x155 x156 x157 x158 x159 x160 x161 : Value) (d : List Deferred) (u : Nat → Value) : frameOf ⟨#[x0, x1, x2, x3, x4, x5, x6, x7, x8, x9, x10, x11, x12, x13, x14, x15, x16, x17, x18, x19, x20, x21, x22, x23, x24, x25, x26, x27, x28, x29, x30, x31, x32, x33, x34, x35, x36, x37, x38, x39, x40, x41, x42, x43, x44, x45, x46, x47, x48, x49, x50, x51, x52, x53, x54, x55, x56, x57, x58, x59, x60, x61, x62, x63, x64, x65, x66, x67, x68, x69, x70, x71, x72, x73, x74, x75, x76, x77, x78, x79, x80, x81, x82, x83, x84, x85, x86, x87, x88, x89, x90, x91, x92, x93, x94, x95, x96, x97, x98, x99, x100, x101, x102, x103, x104, x105, x106, x107, x108, x109, x110, x111, x112, x113, x114, x115, x116, x117, x118, x119, x120, x121, x122, x123, x124, x125, x126, x127, x128, x129, x130, x131, x132, x133, x134, x135, x136, x137, x138, x139, x140, x141, x142, x143, x144, x145, x146, x147, x148, x149, x150, x151, x152, x153, x154, x155, x156, x157, x158, x159, x160, x161], d⟩ [153, 154, 155, 156, 157, 158, 159] u = ⟨#[x0, x1, x2, x3, x4, x5, x6, x7, x8, x9, x10, x11, x12, x13, x14, x15, x16, x17, x18, x19, x20, x21, x22, x23, x24, x25, x26, x27, x28, x29, x30, x31, x32, x33, x34, x35, x36, x37, x38, x39, x40, x41, x42, x43, x44, x45, x46, x47, x48, x49, x50, x51, x52, x53, x54, x55, x56, x57, x58, x59, x60, x61, x62, x63, x64, x65, x66, x67, x68, x69, x70, x71, x72, x73, x74, x75, x76, x77, x78, x79, x80, x81, x82, x83, x84, x85, x86, x87, x88, x89, x90, x91, x92, x93, x94, x95, x96, x97, x98, x99, x100, x101, x102, x103, x104, x105, x106, x107, x108, x109, x110, x111, x112, x113, x114, x115, x116, x117, x118, x119, x120, x121, x122, x123, x124, x125, x126, x127, x128, x129, x130, x131, x132, x133, x134, x135, x136, x137, x138, x139, x140, x141, x142, x143, x144, x145, x146, x147, x148, x149, x150, x151, x152, u 153, u 154, u 155, u 156, u 157, u 158, u 159, x160, x161], d⟩ := by kernel_rfl

/-- A session's cells. -/
structure Ses (cs : Array Value) : Prop where
  size : cs.size = 19
  one : ∀ x ∈ cs, x.oneCell' = true
theorem Ses.set {cs : Array Value} (h : Ses cs) (j : Nat) (S : Option Addr) (m d : Nat) : Ses (cs.setIfInBounds j (.slice S m d)) := by
  refine ⟨by simp [h.size], fun x hx => ?_⟩
  rcases Array.mem_or_eq_of_mem_setIfInBounds hx with h1 | rfl
  · exact h.one x h1
  · rfl
theorem Ses.all {cs : Array Value} (h : Ses cs) : cs.all (·.oneCell') = true := by
  rw [Array.all_eq_true']
  exact h.one
theorem ses_of {cs : Array Value} (h1 : cs.size = 19) (h2 : cs.all (·.oneCell') = true) : Ses cs := ⟨h1, by rwa [Array.all_eq_true'] at h2⟩
theorem set_ne' {cs : Array Value} {i j : Nat} {v : Value} (h : i ≠ j) : (cs.setIfInBounds i v)[j]? = cs[j]? := by
  rw [Array.getElem?_setIfInBounds]
  simp [h]
theorem set_eq' {cs : Array Value} {i : Nat} {v : Value} (h : i < cs.size) : (cs.setIfInBounds i v)[i]? = some v := Array.getElem?_setIfInBounds_self_of_lt h
theorem info201_l : (Tryz.prog.info? 201).map (fun i => (i.zero, i.size, i.bytes)) = some (some (.agg #[.int .i64 0, .int .i64 0, .slice none 0 0]), 3, 40) := by kernel_rfl
theorem info204_l : (Tryz.prog.info? 204).map (fun i => (i.zero, i.size, i.bytes)) = some (some (.agg #[.int .u64 0, .int .i64 0]), 2, 16) := by kernel_rfl
theorem info66_l : (Tryz.prog.info? 66).map (fun i => (i.zero, i.size, i.bytes)) = some (some (.agg #[.string ⟨#[]⟩, .int .i64 0, .slice none 0 0, .slice none 0 0, .slice none 0 0, .slice none 0 0, .slice none 0 0, .slice none 0 0, .slice none 0 0, .slice none 0 0]), 10, 216) := by kernel_rfl

theorem notF (W : World) (T : TypeId) : NotT W (fun _ => False) T := fun _ _ _ h => h.elim
theorem RepsRd.ch {v : Value} {w w' : World} (h : RepsRd v w) (hc : Ch (fun _ => False) w w') : RepsRd v w' := h.keeps (notF _ _) (notF _ _) w' hc
theorem MedRdy.ch {b : Nat} {w w' : World} (h : MedRdy b w) (hc : Ch (fun _ => False) w w') : MedRdy b w' := by
  obtain ⟨q2, v3, v4, q5, q6, v7, q8, v9, h1, h2, h3, h4⟩ := h
  exact ⟨q2, v3, v4, q5, q6, v7, q8, v9, (hc.block b (blk_lt h1) id).trans h1, h2.keeps (notF _ _) (notF _ _) (notF _ _) (notF _ _) (notF _ _) (notF _ _) w' hc, h3.keeps (notF _ _) w' hc, h4.keeps (fun _ h => h.elim) w' hc⟩
theorem MedRdy.smed {b : Nat} {w : World} (h : MedRdy b w) : ∃ (lf : List ByteArray) (la : List (ByteArray × ByteArray)) (cs : List Value), At w b cs ∧ sMedia ⟨#[97, 117, 100, 105, 111]⟩ 1 lf la w cs := by
  obtain ⟨q2, v3, v4, q5, q6, v7, q8, v9, h1, h2, h3, h4⟩ := h
  obtain ⟨l3, hl3, ho3⟩ := h2.b3
  obtain ⟨l4, hl4, ho4⟩ := h2.b4
  obtain ⟨lb, hlb, hob⟩ := h3
  obtain ⟨la, hla, hoa⟩ := h4
  obtain ⟨A3, c3, rfl⟩ := own_sl ho3
  obtain ⟨A4, c4, rfl⟩ := own_sl ho4
  obtain ⟨A7, c7, rfl⟩ := own_sl hob
  obtain ⟨A9, c9, rfl⟩ := own_sl hoa
  exact ⟨l4, la, _, At.of h1, q2, q5, q6, q8, A3, A4, A7, A9, c3, c4, c7, c9, l3, lb, rfl, ⟨by omega, by omega, by omega, by omega⟩, h2.a2, h2.a5, h2.a6, h2.a8, Lst.of_slice (f := strC) (fun _ => rfl) ho3 rfl, Lst.of_slice (f := strC) (fun _ => rfl) ho4 rfl, Lst.of_slice (f := bandC) (fun _ => rfl) hob rfl, Lst.of_slice (f := attrC) (fun _ => rfl) hoa rfl⟩

set_option maxRecDepth 100000 in
set_option maxHeartbeats 16000000 in
theorem plain_any {D : Nat} {w0 w : World} (h : DescOk D w0 w) :
    Calls Tryz.prog 47 #[.pointer (some ⟨D, 0, none⟩)] w fun e w' => ∃ cs, e = .returned (.agg cs) ∧ Ses cs ∧ Ch (fun _ => False) w w' := by
  obtain ⟨p8, p9, p10, p11, p12, v13, v14, v15, p16, v17, v18, bs, hd, hses, h17, hbs, h18, hmed, _⟩ := h
  obtain ⟨lb, hlb0, ho13⟩ := hses.b13
  obtain ⟨A13, c13, rfl⟩ := own_sl ho13
  obtain ⟨la, hla0, ho17⟩ := h17
  obtain ⟨A17, c17, rfl⟩ := own_sl ho17
  obtain ⟨ts, hts, ho14, hreps⟩ := hses.b14
  obtain ⟨lz, hlz, ho15⟩ := hses.b15
  obtain ⟨A14, c14, rfl⟩ := own_sl ho14
  obtain ⟨A15, c15, rfl⟩ := own_sl ho15
  obtain ⟨A18, c18, rfl⟩ := own_sl h18
  have HA8 := Lib.hid hses.pf.a8
  have HA9 := Lib.hid hses.pf.a9
  have HA10 := Lib.hid hses.pf.a10
  have HA11 := Lib.hid hses.pf.a11
  have HA12 := Lib.hid hses.pf.a12
  have HA16 := Lib.hid hses.a16
  have H3 := Lib.hid (Lst.of_slice (f := bandC) (fun _ => rfl) ho13 rfl)
  have H4 := Lib.hid (Lst.of_slice (f := attrC) (fun _ => rfl) ho17 rfl)
  have hlb : lb.length ≤ 2147483647 := by omega
  have hla : la.length ≤ 2147483647 := by omega
  have c0 : w.cell? ⟨D, 0, none⟩ = some (.int .i64 0) := blk_cell hd rfl
  have c1 : w.cell? ⟨D, 1, none⟩ = some (.string ⟨#[45]⟩) := blk_cell hd rfl
  have c2 : w.cell? ⟨D, 2, none⟩ = some (.int .u64 1) := blk_cell hd rfl
  have c3 : w.cell? ⟨D, 3, none⟩ = some (.int .u64 1) := blk_cell hd rfl
  have c4 : w.cell? ⟨D, 4, none⟩ = some (.string ⟨#[73, 78]⟩) := blk_cell hd rfl
  have c5 : w.cell? ⟨D, 5, none⟩ = some (.string ⟨#[73, 80, 52]⟩) := blk_cell hd rfl
  have c6 : w.cell? ⟨D, 6, none⟩ = some (.string ⟨#[97]⟩) := blk_cell hd rfl
  have HD := Lib.hid hd
  have HT14 := Lib.hid (Lst.of_slice (f := timC) (fun _ => rfl) ho14 rfl)
  have HREPS := Lib.hid hreps
  have HZ15 := Lib.hid (Lst.of_slice (f := zonC) (fun _ => rfl) ho15 rfl)
  have HM18 := Lib.hid (Lst.of_slice (f := ptrC) (fun _ => rfl) h18 rfl)
  have HMED := Lib.hid hmed
  have hDw : D < w.heap.size := blk_lt hd
  have hDne : ¬ (w.heap.size = D) := by omega
  clear hd hses h18 hmed ho13 ho14 ho15 ho17 hreps
  go_enter Tryz.func47, Tryz.ntmps47
  go_upto_region 2 with fail
  have hO1 := heap_alloc_new (w.alloc (.cells #[.int .i64 0, .string ⟨#[]⟩, .int .u64 0, .int .u64 0, .string ⟨#[]⟩, .string ⟨#[]⟩, .string ⟨#[]⟩, .string ⟨#[]⟩, .slice none 0 0, .slice none 0 0, .slice none 0 0, .slice none 0 0, .slice none 0 0, .slice none 0 0, .slice none 0 0, .slice none 0 0, .slice none 0 0, .slice none 0 0, .slice none 0 0] 36)) (.cells #[.string ⟨#[45]⟩, .int .u64 1, .int .u64 1, .string ⟨#[73, 78]⟩, .string ⟨#[73, 80, 52]⟩, .string ⟨#[97]⟩] 94)
  rw [show (w.alloc (.cells #[.int .i64 0, .string ⟨#[]⟩, .int .u64 0, .int .u64 0, .string ⟨#[]⟩, .string ⟨#[]⟩, .string ⟨#[]⟩, .string ⟨#[]⟩, .slice none 0 0, .slice none 0 0, .slice none 0 0, .slice none 0 0, .slice none 0 0, .slice none 0 0, .slice none 0 0, .slice none 0 0, .slice none 0 0, .slice none 0 0, .slice none 0 0] 36)).heap.size = w.heap.size + 1 from by simp] at hO1
  have hc1 : Ch (fun _ => False) w ((w.alloc (.cells #[.int .i64 0, .string ⟨#[]⟩, .int .u64 0, .int .u64 0, .string ⟨#[]⟩, .string ⟨#[]⟩, .string ⟨#[]⟩, .string ⟨#[]⟩, .slice none 0 0, .slice none 0 0, .slice none 0 0, .slice none 0 0, .slice none 0 0, .slice none 0 0, .slice none 0 0, .slice none 0 0, .slice none 0 0, .slice none 0 0, .slice none 0 0] 36)).alloc (.cells #[.string ⟨#[45]⟩, .int .u64 1, .int .u64 1, .string ⟨#[73, 78]⟩, .string ⟨#[73, 80, 52]⟩, .string ⟨#[97]⟩] 94)) :=
    (Ch.grown (World.grownBy_alloc _ _ none) (by simp)).trans (Ch.grown (World.grownBy_alloc _ _ none) (by simp))
  have hR1 : ((w.alloc (.cells #[.int .i64 0, .string ⟨#[]⟩, .int .u64 0, .int .u64 0, .string ⟨#[]⟩, .string ⟨#[]⟩, .string ⟨#[]⟩, .string ⟨#[]⟩, .slice none 0 0, .slice none 0 0, .slice none 0 0, .slice none 0 0, .slice none 0 0, .slice none 0 0, .slice none 0 0, .slice none 0 0, .slice none 0 0, .slice none 0 0, .slice none 0 0] 36)).alloc (.cells #[.string ⟨#[45]⟩, .int .u64 1, .int .u64 1, .string ⟨#[73, 78]⟩, .string ⟨#[73, 80, 52]⟩, .string ⟨#[97]⟩] 94)).heap[w.heap.size]? = some (.cells #[.int .i64 0, .string ⟨#[]⟩, .int .u64 0, .int .u64 0, .string ⟨#[]⟩, .string ⟨#[]⟩, .string ⟨#[]⟩, .string ⟨#[]⟩, .slice none 0 0, .slice none 0 0, .slice none 0 0, .slice none 0 0, .slice none 0 0, .slice none 0 0, .slice none 0 0, .slice none 0 0, .slice none 0 0, .slice none 0 0, .slice none 0 0] 36 (0, 0)) :=
    (Below.heap_alloc _ _ _ (by simp)).trans (heap_alloc_new w _)
  have HO1 := Lib.hid hO1
  have HC1 := Lib.hid hc1
  have HR1 := Lib.hid hR1
  clear hO1 hc1 hR1
  generalize (w.alloc (.cells #[.int .i64 0, .string ⟨#[]⟩, .int .u64 0, .int .u64 0, .string ⟨#[]⟩, .string ⟨#[]⟩, .string ⟨#[]⟩, .string ⟨#[]⟩, .slice none 0 0, .slice none 0 0, .slice none 0 0, .slice none 0 0, .slice none 0 0, .slice none 0 0, .slice none 0 0, .slice none 0 0, .slice none 0 0, .slice none 0 0, .slice none 0 0] 36)).alloc (.cells #[.string ⟨#[45]⟩, .int .u64 1, .int .u64 1, .string ⟨#[73, 78]⟩, .string ⟨#[73, 80, 52]⟩, .string ⟨#[97]⟩] 94) = W0 at *
  obtain ⟨R0, hR0⟩ : ∃ R0, w.heap.size = R0 := ⟨_, rfl⟩
  have HR0 := Lib.hid hR0
  rw [hR0] at HO1 HR1 ⊢
  obtain ⟨N, hN⟩ : ∃ N, R0 + 1 = N := ⟨_, rfl⟩
  rw [hN] at HO1 ⊢
  obtain ⟨Z, hZ⟩ : ∃ Z, W0.heap.size = Z := ⟨_, rfl⟩
  have HZ := Lib.hid hZ
  have HNZ := Lib.hid (show R0 < Z from by rw [← hZ]; exact blk_lt HR1.out)
  clear hR0 hN hZ c0 c1 c2 c3 c4 c5 c6 hDne
  refine wp_region_ops (by kernel_rfl) [18, 19, 20, 21, 22, 23, 24, 25, 26, 27, 28, 29, 30, 31, 32, 33, 34, 35, 36, 37, 38, 39, 40, 41, 42, 43, 44, 45, 46, 47, 48, 49, 50, 51, 52, 53, 54, 55, 56, 57, 58, 59, 60, 61, 62, 63, 64, 65, 66, 67, 68, 69, 70, 71, 72, 73, 74, 75, 76, 77, 78, 79, 4] 63 (by kernel_rfl) (by kernel_rfl) (by kernel_rfl) (plgT D N Z p8 p9 p10 p11 p12 p16 A13 A17 c13 c17 lb la) (Ch (fun _ => False)) (Ch.refl _) (fun _ _ _ => Ch.trans) (fun _ _ _ _ => plgT_stays) ?_ ?_
  · intro i oo hi ho A W' hR hr hx K hK
    have hR0 := (Ch.of_heap (Ch.refl _ W0) (w' := W0.drew) rfl rfl rfl rfl).trans hR
    have hRw := HC1.out.trans hR0
    have hD : W'.heap[D]? = some (.cells (dE p8 p9 p10 p11 p12 (.slice A13 lb.length c13) (.slice A14 ts.length c14) (.slice A15 lz.length c15) p16 (.slice A17 la.length c17) (.slice A18 bs.length c18)) 108 (0, 0)) := (hRw.block D hDw id).trans HD.out
    have hN : W'.heap[N]? = some (.cells #[.string ⟨#[45]⟩, .int .u64 1, .int .u64 1, .string ⟨#[73, 78]⟩, .string ⟨#[73, 80, 52]⟩, .string ⟨#[97]⟩] 94 (0, 0)) := (hR0.block N (blk_lt HO1.out) id).trans HO1.out
    have hZW : Z ≤ W'.heap.size := by rw [← HZ.out]; exact hR0.size
    have ha8 := HA8.out.ch hRw
    have ha9 := HA9.out.ch hRw
    have ha10 := HA10.out.ch hRw
    have ha11 := HA11.out.ch hRw
    have ha12 := (HA12.out.ch hRw).mono fun _ k => sConn.ch k hRw
    have ha16 := HA16.out.ch hRw
    have hl3 := H3.out.ch hRw
    have hl4 := H4.out.ch hRw
    clear hR hR0 hRw
    exact match i, hi, ho with
      | 0, _, ho => by
        obtain rfl := Option.some.inj ho
        have e0 : A.tmps[0]?.getD undef = .pointer (some ⟨D, 0, none⟩) := (eval_getD A 0).symm.trans (hx 0 (by decide))
        unfold Oper.wp execOp
        go_simp
        exact hK _ _ (fun d hd => by cases hd; exact rfl) (Ch.refl _ _)
      | 1, _, ho => by
        obtain rfl := Option.some.inj ho
        have e18 : A.tmps[18]?.getD undef = .pointer (some ⟨D, 0, none⟩) := (eval_getD A 18).symm.trans (hr 18 (by decide) (by decide))
        unfold Oper.wp execOp
        go_simp
        exact hK _ _ (fun d hd => by cases hd; exact rfl) (Ch.refl _ _)
      | 2, _, ho => by
        obtain rfl := Option.some.inj ho
        have e19 : A.tmps[19]?.getD undef = .pointer (some ⟨D, 0, none⟩) := (eval_getD A 19).symm.trans (hr 19 (by decide) (by decide))
        unfold Oper.wp execOp
        go_simp
        exact hK _ _ (fun d hd => by cases hd; exact rfl) (Ch.refl _ _)
      | 3, _, ho => by
        obtain rfl := Option.some.inj ho
        have e20 : A.tmps[20]?.getD undef = .pointer (some ⟨D, 0, none⟩) := (eval_getD A 20).symm.trans (hr 20 (by decide) (by decide))
        have l0 : W'.cell? ⟨D, 0, none⟩ = some (.int .i64 0) := blk_cell hD rfl
        unfold Oper.wp execOp
        go_simp
        exact hK _ _ (fun d hd => by cases hd; exact rfl) (Ch.refl _ _)
      | 4, _, ho => by
        obtain rfl := Option.some.inj ho
        have e3 : A.tmps[3]?.getD undef = .pointer (some ⟨N, 0, none⟩) := (eval_getD A 3).symm.trans (hx 3 (by decide))
        unfold Oper.wp execOp
        go_simp
        exact hK _ _ (fun d hd => by cases hd; exact rfl) (Ch.refl _ _)
      | 5, _, ho => by
        obtain rfl := Option.some.inj ho
        have e22 : A.tmps[22]?.getD undef = .pointer (some ⟨N, 0, none⟩) := (eval_getD A 22).symm.trans (hr 22 (by decide) (by decide))
        have l0 : W'.cell? ⟨N, 0, none⟩ = some (.string ⟨#[45]⟩) := blk_cell hN rfl
        unfold Oper.wp execOp
        go_simp
        exact hK _ _ (fun d hd => by cases hd; exact rfl) (Ch.refl _ _)
      | 6, _, ho => by
        obtain rfl := Option.some.inj ho
        have e3 : A.tmps[3]?.getD undef = .pointer (some ⟨N, 0, none⟩) := (eval_getD A 3).symm.trans (hx 3 (by decide))
        unfold Oper.wp execOp
        go_simp
        exact hK _ _ (fun d hd => by cases hd; exact rfl) (Ch.refl _ _)
      | 7, _, ho => by
        obtain rfl := Option.some.inj ho
        have e24 : A.tmps[24]?.getD undef = .pointer (some ⟨N, 1, none⟩) := (eval_getD A 24).symm.trans (hr 24 (by decide) (by decide))
        have l0 : W'.cell? ⟨N, 1, none⟩ = some (.int .u64 1) := blk_cell hN rfl
        unfold Oper.wp execOp
        go_simp
        exact hK _ _ (fun d hd => by cases hd; exact rfl) (Ch.refl _ _)
      | 8, _, ho => by
        obtain rfl := Option.some.inj ho
        have e3 : A.tmps[3]?.getD undef = .pointer (some ⟨N, 0, none⟩) := (eval_getD A 3).symm.trans (hx 3 (by decide))
        unfold Oper.wp execOp
        go_simp
        exact hK _ _ (fun d hd => by cases hd; exact rfl) (Ch.refl _ _)
      | 9, _, ho => by
        obtain rfl := Option.some.inj ho
        have e26 : A.tmps[26]?.getD undef = .pointer (some ⟨N, 2, none⟩) := (eval_getD A 26).symm.trans (hr 26 (by decide) (by decide))
        have l0 : W'.cell? ⟨N, 2, none⟩ = some (.int .u64 1) := blk_cell hN rfl
        unfold Oper.wp execOp
        go_simp
        exact hK _ _ (fun d hd => by cases hd; exact rfl) (Ch.refl _ _)
      | 10, _, ho => by
        obtain rfl := Option.some.inj ho
        have e3 : A.tmps[3]?.getD undef = .pointer (some ⟨N, 0, none⟩) := (eval_getD A 3).symm.trans (hx 3 (by decide))
        unfold Oper.wp execOp
        go_simp
        exact hK _ _ (fun d hd => by cases hd; exact rfl) (Ch.refl _ _)
      | 11, _, ho => by
        obtain rfl := Option.some.inj ho
        have e28 : A.tmps[28]?.getD undef = .pointer (some ⟨N, 3, none⟩) := (eval_getD A 28).symm.trans (hr 28 (by decide) (by decide))
        have l0 : W'.cell? ⟨N, 3, none⟩ = some (.string ⟨#[73, 78]⟩) := blk_cell hN rfl
        unfold Oper.wp execOp
        go_simp
        exact hK _ _ (fun d hd => by cases hd; exact rfl) (Ch.refl _ _)
      | 12, _, ho => by
        obtain rfl := Option.some.inj ho
        have e3 : A.tmps[3]?.getD undef = .pointer (some ⟨N, 0, none⟩) := (eval_getD A 3).symm.trans (hx 3 (by decide))
        unfold Oper.wp execOp
        go_simp
        exact hK _ _ (fun d hd => by cases hd; exact rfl) (Ch.refl _ _)
      | 13, _, ho => by
        obtain rfl := Option.some.inj ho
        have e30 : A.tmps[30]?.getD undef = .pointer (some ⟨N, 4, none⟩) := (eval_getD A 30).symm.trans (hr 30 (by decide) (by decide))
        have l0 : W'.cell? ⟨N, 4, none⟩ = some (.string ⟨#[73, 80, 52]⟩) := blk_cell hN rfl
        unfold Oper.wp execOp
        go_simp
        exact hK _ _ (fun d hd => by cases hd; exact rfl) (Ch.refl _ _)
      | 14, _, ho => by
        obtain rfl := Option.some.inj ho
        have e3 : A.tmps[3]?.getD undef = .pointer (some ⟨N, 0, none⟩) := (eval_getD A 3).symm.trans (hx 3 (by decide))
        unfold Oper.wp execOp
        go_simp
        exact hK _ _ (fun d hd => by cases hd; exact rfl) (Ch.refl _ _)
      | 15, _, ho => by
        obtain rfl := Option.some.inj ho
        have e32 : A.tmps[32]?.getD undef = .pointer (some ⟨N, 5, none⟩) := (eval_getD A 32).symm.trans (hr 32 (by decide) (by decide))
        have l0 : W'.cell? ⟨N, 5, none⟩ = some (.string ⟨#[97]⟩) := blk_cell hN rfl
        unfold Oper.wp execOp
        go_simp
        exact hK _ _ (fun d hd => by cases hd; exact rfl) (Ch.refl _ _)
      | 16, _, ho => by
        obtain rfl := Option.some.inj ho
        have e23 : A.tmps[23]?.getD undef = .string ⟨#[45]⟩ := (eval_getD A 23).symm.trans (hr 23 (by decide) (by decide))
        have e25 : A.tmps[25]?.getD undef = .int .u64 1 := (eval_getD A 25).symm.trans (hr 25 (by decide) (by decide))
        have e27 : A.tmps[27]?.getD undef = .int .u64 1 := (eval_getD A 27).symm.trans (hr 27 (by decide) (by decide))
        have e29 : A.tmps[29]?.getD undef = .string ⟨#[73, 78]⟩ := (eval_getD A 29).symm.trans (hr 29 (by decide) (by decide))
        have e31 : A.tmps[31]?.getD undef = .string ⟨#[73, 80, 52]⟩ := (eval_getD A 31).symm.trans (hr 31 (by decide) (by decide))
        have e33 : A.tmps[33]?.getD undef = .string ⟨#[97]⟩ := (eval_getD A 33).symm.trans (hr 33 (by decide) (by decide))
        unfold Oper.wp execOp
        go_simp
        exact hK _ _ (fun d hd => by cases hd; exact rfl) (Ch.refl _ _)
      | 17, _, ho => by
        obtain rfl := Option.some.inj ho
        have e0 : A.tmps[0]?.getD undef = .pointer (some ⟨D, 0, none⟩) := (eval_getD A 0).symm.trans (hx 0 (by decide))
        unfold Oper.wp execOp
        go_simp
        exact hK _ _ (fun d hd => by cases hd; exact rfl) (Ch.refl _ _)
      | 18, _, ho => by
        obtain rfl := Option.some.inj ho
        have e35 : A.tmps[35]?.getD undef = .pointer (some ⟨D, 0, none⟩) := (eval_getD A 35).symm.trans (hr 35 (by decide) (by decide))
        unfold Oper.wp execOp
        go_simp
        exact hK _ _ (fun d hd => by cases hd; exact rfl) (Ch.refl _ _)
      | 19, _, ho => by
        obtain rfl := Option.some.inj ho
        have e36 : A.tmps[36]?.getD undef = .pointer (some ⟨D, 0, none⟩) := (eval_getD A 36).symm.trans (hr 36 (by decide) (by decide))
        unfold Oper.wp execOp
        go_simp
        exact hK _ _ (fun d hd => by cases hd; exact rfl) (Ch.refl _ _)
      | 20, _, ho => by
        obtain rfl := Option.some.inj ho
        have e37 : A.tmps[37]?.getD undef = .pointer (some ⟨D, 7, none⟩) := (eval_getD A 37).symm.trans (hr 37 (by decide) (by decide))
        have l0 : W'.cell? ⟨D, 7, none⟩ = some (.string ⟨#[120]⟩) := blk_cell hD rfl
        unfold Oper.wp execOp
        go_simp
        exact hK _ _ (fun d hd => by cases hd; exact rfl) (Ch.refl _ _)
      | 21, _, ho => by
        obtain rfl := Option.some.inj ho
        have e0 : A.tmps[0]?.getD undef = .pointer (some ⟨D, 0, none⟩) := (eval_getD A 0).symm.trans (hx 0 (by decide))
        unfold Oper.wp execOp
        go_simp
        exact hK _ _ (fun d hd => by cases hd; exact rfl) (Ch.refl _ _)
      | 22, _, ho => by
        obtain rfl := Option.some.inj ho
        have e39 : A.tmps[39]?.getD undef = .pointer (some ⟨D, 0, none⟩) := (eval_getD A 39).symm.trans (hr 39 (by decide) (by decide))
        unfold Oper.wp execOp
        go_simp
        exact hK _ _ (fun d hd => by cases hd; exact rfl) (Ch.refl _ _)
      | 23, _, ho => by
        obtain rfl := Option.some.inj ho
        have e40 : A.tmps[40]?.getD undef = .pointer (some ⟨D, 0, none⟩) := (eval_getD A 40).symm.trans (hr 40 (by decide) (by decide))
        unfold Oper.wp execOp
        go_simp
        exact hK _ _ (fun d hd => by cases hd; exact rfl) (Ch.refl _ _)
      | 24, _, ho => by
        obtain rfl := Option.some.inj ho
        have e41 : A.tmps[41]?.getD undef = .pointer (some ⟨D, 8, none⟩) := (eval_getD A 41).symm.trans (hr 41 (by decide) (by decide))
        have l0 : W'.cell? ⟨D, 8, none⟩ = some (.pointer p8) := blk_cell hD rfl
        unfold Oper.wp execOp
        go_simp
        exact hK _ _ (fun d hd => by cases hd; exact rfl) (Ch.refl _ _)
      | 25, _, ho => by
        obtain rfl := Option.some.inj ho
        have e42 : A.tmps[42]?.getD undef = .pointer p8 := (eval_getD A 42).symm.trans (hr 42 (by decide) (by decide))
        unfold Oper.wp execOp
        go_simp
        (go_at_call 89; refine (back_f89 ha8).mono ?_; rintro e W2 ⟨_, _, _, rfl, hcp⟩)
        exact hK _ _ (fun d hd => by cases hd; exact ⟨_, _, _, rfl⟩) (hcp)
      | 26, _, ho => by
        obtain rfl := Option.some.inj ho
        have e0 : A.tmps[0]?.getD undef = .pointer (some ⟨D, 0, none⟩) := (eval_getD A 0).symm.trans (hx 0 (by decide))
        unfold Oper.wp execOp
        go_simp
        exact hK _ _ (fun d hd => by cases hd; exact rfl) (Ch.refl _ _)
      | 27, _, ho => by
        obtain rfl := Option.some.inj ho
        have e44 : A.tmps[44]?.getD undef = .pointer (some ⟨D, 0, none⟩) := (eval_getD A 44).symm.trans (hr 44 (by decide) (by decide))
        unfold Oper.wp execOp
        go_simp
        exact hK _ _ (fun d hd => by cases hd; exact rfl) (Ch.refl _ _)
      | 28, _, ho => by
        obtain rfl := Option.some.inj ho
        have e45 : A.tmps[45]?.getD undef = .pointer (some ⟨D, 0, none⟩) := (eval_getD A 45).symm.trans (hr 45 (by decide) (by decide))
        unfold Oper.wp execOp
        go_simp
        exact hK _ _ (fun d hd => by cases hd; exact rfl) (Ch.refl _ _)
      | 29, _, ho => by
        obtain rfl := Option.some.inj ho
        have e46 : A.tmps[46]?.getD undef = .pointer (some ⟨D, 9, none⟩) := (eval_getD A 46).symm.trans (hr 46 (by decide) (by decide))
        have l0 : W'.cell? ⟨D, 9, none⟩ = some (.pointer p9) := blk_cell hD rfl
        unfold Oper.wp execOp
        go_simp
        exact hK _ _ (fun d hd => by cases hd; exact rfl) (Ch.refl _ _)
      | 30, _, ho => by
        obtain rfl := Option.some.inj ho
        have e47 : A.tmps[47]?.getD undef = .pointer p9 := (eval_getD A 47).symm.trans (hr 47 (by decide) (by decide))
        unfold Oper.wp execOp
        go_simp
        (go_at_call 78; refine (back_f78 ha9).mono ?_; rintro e W2 ⟨_, _, _, rfl, hcp⟩)
        exact hK _ _ (fun d hd => by cases hd; exact ⟨_, _, _, rfl⟩) (hcp)
      | 31, _, ho => by
        obtain rfl := Option.some.inj ho
        have e0 : A.tmps[0]?.getD undef = .pointer (some ⟨D, 0, none⟩) := (eval_getD A 0).symm.trans (hx 0 (by decide))
        unfold Oper.wp execOp
        go_simp
        exact hK _ _ (fun d hd => by cases hd; exact rfl) (Ch.refl _ _)
      | 32, _, ho => by
        obtain rfl := Option.some.inj ho
        have e49 : A.tmps[49]?.getD undef = .pointer (some ⟨D, 0, none⟩) := (eval_getD A 49).symm.trans (hr 49 (by decide) (by decide))
        unfold Oper.wp execOp
        go_simp
        exact hK _ _ (fun d hd => by cases hd; exact rfl) (Ch.refl _ _)
      | 33, _, ho => by
        obtain rfl := Option.some.inj ho
        have e50 : A.tmps[50]?.getD undef = .pointer (some ⟨D, 0, none⟩) := (eval_getD A 50).symm.trans (hr 50 (by decide) (by decide))
        unfold Oper.wp execOp
        go_simp
        exact hK _ _ (fun d hd => by cases hd; exact rfl) (Ch.refl _ _)
      | 34, _, ho => by
        obtain rfl := Option.some.inj ho
        have e51 : A.tmps[51]?.getD undef = .pointer (some ⟨D, 10, none⟩) := (eval_getD A 51).symm.trans (hr 51 (by decide) (by decide))
        have l0 : W'.cell? ⟨D, 10, none⟩ = some (.pointer p10) := blk_cell hD rfl
        unfold Oper.wp execOp
        go_simp
        exact hK _ _ (fun d hd => by cases hd; exact rfl) (Ch.refl _ _)
      | 35, _, ho => by
        obtain rfl := Option.some.inj ho
        have e52 : A.tmps[52]?.getD undef = .pointer p10 := (eval_getD A 52).symm.trans (hr 52 (by decide) (by decide))
        unfold Oper.wp execOp
        go_simp
        (go_at_call 90; refine (back_f90 ha10).mono ?_; rintro e W2 ⟨_, _, _, rfl, hcp⟩)
        exact hK _ _ (fun d hd => by cases hd; exact ⟨_, _, _, rfl⟩) (hcp)
      | 36, _, ho => by
        obtain rfl := Option.some.inj ho
        have e0 : A.tmps[0]?.getD undef = .pointer (some ⟨D, 0, none⟩) := (eval_getD A 0).symm.trans (hx 0 (by decide))
        unfold Oper.wp execOp
        go_simp
        exact hK _ _ (fun d hd => by cases hd; exact rfl) (Ch.refl _ _)
      | 37, _, ho => by
        obtain rfl := Option.some.inj ho
        have e54 : A.tmps[54]?.getD undef = .pointer (some ⟨D, 0, none⟩) := (eval_getD A 54).symm.trans (hr 54 (by decide) (by decide))
        unfold Oper.wp execOp
        go_simp
        exact hK _ _ (fun d hd => by cases hd; exact rfl) (Ch.refl _ _)
      | 38, _, ho => by
        obtain rfl := Option.some.inj ho
        have e55 : A.tmps[55]?.getD undef = .pointer (some ⟨D, 0, none⟩) := (eval_getD A 55).symm.trans (hr 55 (by decide) (by decide))
        unfold Oper.wp execOp
        go_simp
        exact hK _ _ (fun d hd => by cases hd; exact rfl) (Ch.refl _ _)
      | 39, _, ho => by
        obtain rfl := Option.some.inj ho
        have e56 : A.tmps[56]?.getD undef = .pointer (some ⟨D, 11, none⟩) := (eval_getD A 56).symm.trans (hr 56 (by decide) (by decide))
        have l0 : W'.cell? ⟨D, 11, none⟩ = some (.pointer p11) := blk_cell hD rfl
        unfold Oper.wp execOp
        go_simp
        exact hK _ _ (fun d hd => by cases hd; exact rfl) (Ch.refl _ _)
      | 40, _, ho => by
        obtain rfl := Option.some.inj ho
        have e57 : A.tmps[57]?.getD undef = .pointer p11 := (eval_getD A 57).symm.trans (hr 57 (by decide) (by decide))
        unfold Oper.wp execOp
        go_simp
        (go_at_call 91; refine (back_f91 ha11).mono ?_; rintro e W2 ⟨_, _, _, rfl, hcp⟩)
        exact hK _ _ (fun d hd => by cases hd; exact ⟨_, _, _, rfl⟩) (hcp)
      | 41, _, ho => by
        obtain rfl := Option.some.inj ho
        have e0 : A.tmps[0]?.getD undef = .pointer (some ⟨D, 0, none⟩) := (eval_getD A 0).symm.trans (hx 0 (by decide))
        unfold Oper.wp execOp
        go_simp
        exact hK _ _ (fun d hd => by cases hd; exact rfl) (Ch.refl _ _)
      | 42, _, ho => by
        obtain rfl := Option.some.inj ho
        have e59 : A.tmps[59]?.getD undef = .pointer (some ⟨D, 0, none⟩) := (eval_getD A 59).symm.trans (hr 59 (by decide) (by decide))
        unfold Oper.wp execOp
        go_simp
        exact hK _ _ (fun d hd => by cases hd; exact rfl) (Ch.refl _ _)
      | 43, _, ho => by
        obtain rfl := Option.some.inj ho
        have e60 : A.tmps[60]?.getD undef = .pointer (some ⟨D, 0, none⟩) := (eval_getD A 60).symm.trans (hr 60 (by decide) (by decide))
        unfold Oper.wp execOp
        go_simp
        exact hK _ _ (fun d hd => by cases hd; exact rfl) (Ch.refl _ _)
      | 44, _, ho => by
        obtain rfl := Option.some.inj ho
        have e61 : A.tmps[61]?.getD undef = .pointer (some ⟨D, 12, none⟩) := (eval_getD A 61).symm.trans (hr 61 (by decide) (by decide))
        have l0 : W'.cell? ⟨D, 12, none⟩ = some (.pointer p12) := blk_cell hD rfl
        unfold Oper.wp execOp
        go_simp
        exact hK _ _ (fun d hd => by cases hd; exact rfl) (Ch.refl _ _)
      | 45, _, ho => by
        obtain rfl := Option.some.inj ho
        have e62 : A.tmps[62]?.getD undef = .pointer p12 := (eval_getD A 62).symm.trans (hr 62 (by decide) (by decide))
        unfold Oper.wp execOp
        go_simp
        (go_at_call 92; refine (connections_any ha12).mono ?_; rintro e W2 ⟨_, _, _, rfl, hcp⟩)
        exact hK _ _ (fun d hd => by cases hd; exact ⟨_, _, _, rfl⟩) (hcp)
      | 46, _, ho => by
        obtain rfl := Option.some.inj ho
        have e0 : A.tmps[0]?.getD undef = .pointer (some ⟨D, 0, none⟩) := (eval_getD A 0).symm.trans (hx 0 (by decide))
        unfold Oper.wp execOp
        go_simp
        exact hK _ _ (fun d hd => by cases hd; exact rfl) (Ch.refl _ _)
      | 47, _, ho => by
        obtain rfl := Option.some.inj ho
        have e64 : A.tmps[64]?.getD undef = .pointer (some ⟨D, 0, none⟩) := (eval_getD A 64).symm.trans (hr 64 (by decide) (by decide))
        unfold Oper.wp execOp
        go_simp
        exact hK _ _ (fun d hd => by cases hd; exact rfl) (Ch.refl _ _)
      | 48, _, ho => by
        obtain rfl := Option.some.inj ho
        have e65 : A.tmps[65]?.getD undef = .pointer (some ⟨D, 0, none⟩) := (eval_getD A 65).symm.trans (hr 65 (by decide) (by decide))
        unfold Oper.wp execOp
        go_simp
        exact hK _ _ (fun d hd => by cases hd; exact rfl) (Ch.refl _ _)
      | 49, _, ho => by
        obtain rfl := Option.some.inj ho
        have e66 : A.tmps[66]?.getD undef = .pointer (some ⟨D, 13, none⟩) := (eval_getD A 66).symm.trans (hr 66 (by decide) (by decide))
        have l0 : W'.cell? ⟨D, 13, none⟩ = some (.slice A13 lb.length c13) := blk_cell hD rfl
        unfold Oper.wp execOp
        go_simp
        exact hK _ _ (fun d hd => by cases hd; exact rfl) (Ch.refl _ _)
      | 50, _, ho => by
        obtain rfl := Option.some.inj ho
        have e67 : A.tmps[67]?.getD undef = .slice A13 lb.length c13 := (eval_getD A 67).symm.trans (hr 67 (by decide) (by decide))
        unfold Oper.wp execOp
        go_simp
        (go_at_call 93; refine (bandwidthsOf_any hlb hl3).mono ?_; rintro e W2 ⟨v, rfl, ho, hcp⟩; obtain ⟨SA, c, rfl, _, _⟩ := Lst.of_own (f := bandC) (fun _ => rfl) ho rfl)
        exact hK _ _ (fun d hd => by cases hd; exact ⟨_, _, _, rfl⟩) (hcp)
      | 51, _, ho => by
        obtain rfl := Option.some.inj ho
        have e0 : A.tmps[0]?.getD undef = .pointer (some ⟨D, 0, none⟩) := (eval_getD A 0).symm.trans (hx 0 (by decide))
        unfold Oper.wp execOp
        go_simp
        exact hK _ _ (fun d hd => by cases hd; exact rfl) (Ch.refl _ _)
      | 52, _, ho => by
        obtain rfl := Option.some.inj ho
        have e69 : A.tmps[69]?.getD undef = .pointer (some ⟨D, 0, none⟩) := (eval_getD A 69).symm.trans (hr 69 (by decide) (by decide))
        unfold Oper.wp execOp
        go_simp
        exact hK _ _ (fun d hd => by cases hd; exact rfl) (Ch.refl _ _)
      | 53, _, ho => by
        obtain rfl := Option.some.inj ho
        have e70 : A.tmps[70]?.getD undef = .pointer (some ⟨D, 0, none⟩) := (eval_getD A 70).symm.trans (hr 70 (by decide) (by decide))
        unfold Oper.wp execOp
        go_simp
        exact hK _ _ (fun d hd => by cases hd; exact rfl) (Ch.refl _ _)
      | 54, _, ho => by
        obtain rfl := Option.some.inj ho
        have e71 : A.tmps[71]?.getD undef = .pointer (some ⟨D, 16, none⟩) := (eval_getD A 71).symm.trans (hr 71 (by decide) (by decide))
        have l0 : W'.cell? ⟨D, 16, none⟩ = some (.pointer p16) := blk_cell hD rfl
        unfold Oper.wp execOp
        go_simp
        exact hK _ _ (fun d hd => by cases hd; exact rfl) (Ch.refl _ _)
      | 55, _, ho => by
        obtain rfl := Option.some.inj ho
        have e72 : A.tmps[72]?.getD undef = .pointer p16 := (eval_getD A 72).symm.trans (hr 72 (by decide) (by decide))
        unfold Oper.wp execOp
        go_simp
        (go_at_call 94; refine (back_f94 ha16).mono ?_; rintro e W2 ⟨_, _, _, rfl, hcp⟩)
        exact hK _ _ (fun d hd => by cases hd; exact ⟨_, _, _, rfl⟩) (hcp)
      | 56, _, ho => by
        obtain rfl := Option.some.inj ho
        have e0 : A.tmps[0]?.getD undef = .pointer (some ⟨D, 0, none⟩) := (eval_getD A 0).symm.trans (hx 0 (by decide))
        unfold Oper.wp execOp
        go_simp
        exact hK _ _ (fun d hd => by cases hd; exact rfl) (Ch.refl _ _)
      | 57, _, ho => by
        obtain rfl := Option.some.inj ho
        have e74 : A.tmps[74]?.getD undef = .pointer (some ⟨D, 0, none⟩) := (eval_getD A 74).symm.trans (hr 74 (by decide) (by decide))
        unfold Oper.wp execOp
        go_simp
        exact hK _ _ (fun d hd => by cases hd; exact rfl) (Ch.refl _ _)
      | 58, _, ho => by
        obtain rfl := Option.some.inj ho
        have e75 : A.tmps[75]?.getD undef = .pointer (some ⟨D, 0, none⟩) := (eval_getD A 75).symm.trans (hr 75 (by decide) (by decide))
        unfold Oper.wp execOp
        go_simp
        exact hK _ _ (fun d hd => by cases hd; exact rfl) (Ch.refl _ _)
      | 59, _, ho => by
        obtain rfl := Option.some.inj ho
        have e76 : A.tmps[76]?.getD undef = .pointer (some ⟨D, 17, none⟩) := (eval_getD A 76).symm.trans (hr 76 (by decide) (by decide))
        have l0 : W'.cell? ⟨D, 17, none⟩ = some (.slice A17 la.length c17) := blk_cell hD rfl
        unfold Oper.wp execOp
        go_simp
        exact hK _ _ (fun d hd => by cases hd; exact rfl) (Ch.refl _ _)
      | 60, _, ho => by
        obtain rfl := Option.some.inj ho
        have e77 : A.tmps[77]?.getD undef = .slice A17 la.length c17 := (eval_getD A 77).symm.trans (hr 77 (by decide) (by decide))
        unfold Oper.wp execOp
        go_simp
        (go_at_call 95; refine (attributesOf_any hla hl4).mono ?_; rintro e W2 ⟨v, rfl, ho, hcp⟩; obtain ⟨SA, c, rfl, _, _⟩ := Lst.of_own (f := attrC) (fun _ => rfl) ho rfl)
        exact hK _ _ (fun d hd => by cases hd; exact ⟨_, _, _, rfl⟩) (hcp)
      | 61, _, ho => by
        obtain rfl := Option.some.inj ho
        have e21 : A.tmps[21]?.getD undef = .int .i64 0 := (eval_getD A 21).symm.trans (hr 21 (by decide) (by decide))
        have e34 : A.tmps[34]?.getD undef = .agg #[.string ⟨#[45]⟩, .int .u64 1, .int .u64 1, .string ⟨#[73, 78]⟩, .string ⟨#[73, 80, 52]⟩, .string ⟨#[97]⟩] := (eval_getD A 34).symm.trans (hr 34 (by decide) (by decide))
        have e38 : A.tmps[38]?.getD undef = .string ⟨#[120]⟩ := (eval_getD A 38).symm.trans (hr 38 (by decide) (by decide))
        obtain ⟨SA43, n43, c43, eq43_⟩ : ∃ (SA : Option Addr) (n : Nat) (c : Nat), A.eval (.tmp 43) = .slice SA n c := hr 43 (by decide) (by decide)
        have e43 : A.tmps[43]?.getD undef = .slice SA43 n43 c43 := (eval_getD A 43).symm.trans eq43_
        obtain ⟨SA48, n48, c48, eq48_⟩ : ∃ (SA : Option Addr) (n : Nat) (c : Nat), A.eval (.tmp 48) = .slice SA n c := hr 48 (by decide) (by decide)
        have e48 : A.tmps[48]?.getD undef = .slice SA48 n48 c48 := (eval_getD A 48).symm.trans eq48_
        obtain ⟨SA53, n53, c53, eq53_⟩ : ∃ (SA : Option Addr) (n : Nat) (c : Nat), A.eval (.tmp 53) = .slice SA n c := hr 53 (by decide) (by decide)
        have e53 : A.tmps[53]?.getD undef = .slice SA53 n53 c53 := (eval_getD A 53).symm.trans eq53_
        obtain ⟨SA58, n58, c58, eq58_⟩ : ∃ (SA : Option Addr) (n : Nat) (c : Nat), A.eval (.tmp 58) = .slice SA n c := hr 58 (by decide) (by decide)
        have e58 : A.tmps[58]?.getD undef = .slice SA58 n58 c58 := (eval_getD A 58).symm.trans eq58_
        obtain ⟨SA63, n63, c63, eq63_⟩ : ∃ (SA : Option Addr) (n : Nat) (c : Nat), A.eval (.tmp 63) = .slice SA n c := hr 63 (by decide) (by decide)
        have e63 : A.tmps[63]?.getD undef = .slice SA63 n63 c63 := (eval_getD A 63).symm.trans eq63_
        obtain ⟨SA68, n68, c68, eq68_⟩ : ∃ (SA : Option Addr) (n : Nat) (c : Nat), A.eval (.tmp 68) = .slice SA n c := hr 68 (by decide) (by decide)
        have e68 : A.tmps[68]?.getD undef = .slice SA68 n68 c68 := (eval_getD A 68).symm.trans eq68_
        obtain ⟨SA73, n73, c73, eq73_⟩ : ∃ (SA : Option Addr) (n : Nat) (c : Nat), A.eval (.tmp 73) = .slice SA n c := hr 73 (by decide) (by decide)
        have e73 : A.tmps[73]?.getD undef = .slice SA73 n73 c73 := (eval_getD A 73).symm.trans eq73_
        obtain ⟨SA78, n78, c78, eq78_⟩ : ∃ (SA : Option Addr) (n : Nat) (c : Nat), A.eval (.tmp 78) = .slice SA n c := hr 78 (by decide) (by decide)
        have e78 : A.tmps[78]?.getD undef = .slice SA78 n78 c78 := (eval_getD A 78).symm.trans eq78_
        unfold Oper.wp execOp
        go_simp
        exact hK _ _ (fun d hd => by cases hd; exact ⟨SA43, n43, c43, SA48, n48, c48, SA53, n53, c53, SA58, n58, c58, SA63, n63, c63, SA68, n68, c68, SA73, n73, c73, SA78, n78, c78, rfl⟩) (Ch.refl _ _)
      | 62, _, ho => by
        obtain rfl := Option.some.inj ho
        unfold Oper.wp execOp
        go_simp
        exact hK _ _ (fun d hd => by cases hd; exact ⟨_, rfl, hZW, heap_alloc_new _ _⟩) (Ch.grown (World.grownBy_alloc _ _ none) (by simp))
      | n + 63, hi, _ => absurd hi (by omega)

  · intro oo ho u W1 hR hu
    obtain rfl := Option.some.inj ho
    obtain ⟨BK, hv4, hKZ, hK0⟩ : ∃ (k : Nat), u 4 = .pointer (some ⟨k, 0, none⟩) ∧ Z ≤ k ∧ W1.heap[k]? = some (.cells #[.int .i64 0, .string ⟨#[]⟩, .int .u64 0, .int .u64 0, .string ⟨#[]⟩, .string ⟨#[]⟩, .string ⟨#[]⟩, .string ⟨#[]⟩, .slice none 0 0, .slice none 0 0, .slice none 0 0, .slice none 0 0, .slice none 0 0, .slice none 0 0, .slice none 0 0, .slice none 0 0, .slice none 0 0, .slice none 0 0, .slice none 0 0] 36 (0, 0)) := hu 4 (by decide)
    obtain ⟨S1, m1, d1, S2, m2, d2, S3, m3, d3, S4, m4, d4, S5, m5, d5, S6, m6, d6, S7, m7, d7, S8, m8, d8, hv79⟩ : ∃ (S1 : Option Addr) (m1 : Nat) (d1 : Nat) (S2 : Option Addr) (m2 : Nat) (d2 : Nat) (S3 : Option Addr) (m3 : Nat) (d3 : Nat) (S4 : Option Addr) (m4 : Nat) (d4 : Nat) (S5 : Option Addr) (m5 : Nat) (d5 : Nat) (S6 : Option Addr) (m6 : Nat) (d6 : Nat) (S7 : Option Addr) (m7 : Nat) (d7 : Nat) (S8 : Option Addr) (m8 : Nat) (d8 : Nat), u 79 = .agg #[.int .i64 0, .string ⟨#[45]⟩, .int .u64 1, .int .u64 1, .string ⟨#[73, 78]⟩, .string ⟨#[73, 80, 52]⟩, .string ⟨#[97]⟩, .string ⟨#[120]⟩, .slice S1 m1 d1, .slice S2 m2 d2, .slice S3 m3 d3, .slice S4 m4 d4, .slice S5 m5 d5, .slice S6 m6 d6, .slice none 0 0, .slice none 0 0, .slice S7 m7 d7, .slice S8 m8 d8, .slice none 0 0] := hu 79 (by decide)
    have hR0 := (Ch.of_heap (Ch.refl _ W0) (w' := W0.drew) rfl rfl rfl rfl).trans hR
    rw [plg_frame, hv4]
    refine wp_store_row 36 (.tmp 4) (.tmp 79) rfl BK #[.int .i64 0, .string ⟨#[45]⟩, .int .u64 1, .int .u64 1, .string ⟨#[73, 78]⟩, .string ⟨#[73, 80, 52]⟩, .string ⟨#[97]⟩, .string ⟨#[120]⟩, .slice S1 m1 d1, .slice S2 m2 d2, .slice S3 m3 d3, .slice S4 m4 d4, .slice S5 m5 d5, .slice S6 m6 d6, .slice none 0 0, .slice none 0 0, .slice S7 m7 d7, .slice S8 m8 d8, .slice none 0 0] _ 36 rfl (by simpa [Act.eval] using hv79) hK0 Tryz.size36 rfl (by kernel_rfl) ?_
    have hb2 := setRow_heap W1 BK _ #[.int .i64 0, .string ⟨#[45]⟩, .int .u64 1, .int .u64 1, .string ⟨#[73, 78]⟩, .string ⟨#[73, 80, 52]⟩, .string ⟨#[97]⟩, .string ⟨#[120]⟩, .slice S1 m1 d1, .slice S2 m2 d2, .slice S3 m3 d3, .slice S4 m4 d4, .slice S5 m5 d5, .slice S6 m6 d6, .slice none 0 0, .slice none 0 0, .slice S7 m7 d7, .slice S8 m8 d8, .slice none 0 0] 36 (0, 0) hK0
    have hc2 : Ch (fun _ => False) w (W1.setRow BK #[.int .i64 0, .string ⟨#[45]⟩, .int .u64 1, .int .u64 1, .string ⟨#[73, 78]⟩, .string ⟨#[73, 80, 52]⟩, .string ⟨#[97]⟩, .string ⟨#[120]⟩, .slice S1 m1 d1, .slice S2 m2 d2, .slice S3 m3 d3, .slice S4 m4 d4, .slice S5 m5 d5, .slice S6 m6 d6, .slice none 0 0, .slice none 0 0, .slice S7 m7 d7, .slice S8 m8 d8, .slice none 0 0]) := (HC1.out.trans hR0).setRow (.inl (by have := HR0.out; have := HNZ.out; omega)) _
    have hr2 : (W1.setRow BK #[.int .i64 0, .string ⟨#[45]⟩, .int .u64 1, .int .u64 1, .string ⟨#[73, 78]⟩, .string ⟨#[73, 80, 52]⟩, .string ⟨#[97]⟩, .string ⟨#[120]⟩, .slice S1 m1 d1, .slice S2 m2 d2, .slice S3 m3 d3, .slice S4 m4 d4, .slice S5 m5 d5, .slice S6 m6 d6, .slice none 0 0, .slice none 0 0, .slice S7 m7 d7, .slice S8 m8 d8, .slice none 0 0]).heap[R0]? = some (.cells #[.int .i64 0, .string ⟨#[]⟩, .int .u64 0, .int .u64 0, .string ⟨#[]⟩, .string ⟨#[]⟩, .string ⟨#[]⟩, .string ⟨#[]⟩, .slice none 0 0, .slice none 0 0, .slice none 0 0, .slice none 0 0, .slice none 0 0, .slice none 0 0, .slice none 0 0, .slice none 0 0, .slice none 0 0, .slice none 0 0, .slice none 0 0] 36 (0, 0)) := (setRow_other _ _ _ _ (by have := HNZ.out; omega)).trans ((hR0.block R0 (blk_lt HR1.out) id).trans HR1.out)
    have HKR := Lib.hid (show R0 < BK by have := HNZ.out; omega)
    have HK := Lib.hid hb2
    have HC2 := Lib.hid hc2
    have HR2 := Lib.hid hr2
    have HSES := Lib.hid (show Ses #[.int .i64 0, .string ⟨#[45]⟩, .int .u64 1, .int .u64 1, .string ⟨#[73, 78]⟩, .string ⟨#[73, 80, 52]⟩, .string ⟨#[97]⟩, .string ⟨#[120]⟩, .slice S1 m1 d1, .slice S2 m2 d2, .slice S3 m3 d3, .slice S4 m4 d4, .slice S5 m5 d5, .slice S6 m6 d6, .slice none 0 0, .slice none 0 0, .slice S7 m7 d7, .slice S8 m8 d8, .slice none 0 0] from ses_of rfl (by kernel_rfl))
    obtain ⟨cs, hcs⟩ : ∃ cs : Array Value, #[.int .i64 0, .string ⟨#[45]⟩, .int .u64 1, .int .u64 1, .string ⟨#[73, 78]⟩, .string ⟨#[73, 80, 52]⟩, .string ⟨#[97]⟩, .string ⟨#[120]⟩, .slice S1 m1 d1, .slice S2 m2 d2, .slice S3 m3 d3, .slice S4 m4 d4, .slice S5 m5 d5, .slice S6 m6 d6, .slice none 0 0, .slice none 0 0, .slice S7 m7 d7, .slice S8 m8 d8, .slice none 0 0] = cs := ⟨_, rfl⟩
    have HCS := Lib.hid (show cs[14]? = some (.slice none 0 0) ∧ cs[15]? = some (.slice none 0 0) ∧ cs[18]? = some (.slice none 0 0) by rw [← hcs]; exact ⟨rfl, rfl, rfl⟩)
    rw [hcs] at HK HC2 HR2 HSES ⊢
    clear hR hu hR0 hb2 hc2 hr2 hv4 hv79 hK0 hcs HO1 HC1 HR1 H3 H4 HA8 HA9 HA10 HA11 HA12 HA16
    generalize W1.setRow BK cs = W2 at *
    dsimp only [Act.put, Exit.then]
    have HDX := Lib.hid (show W2.heap[D]? = some (.cells (dE p8 p9 p10 p11 p12 (.slice A13 lb.length c13) (.slice A14 ts.length c14) (.slice A15 lz.length c15) p16 (.slice A17 la.length c17) (.slice A18 bs.length c18)) 108 (0, 0)) from (HC2.out.block D hDw id).trans HD.out)
    obtain ⟨L, hL⟩ : ∃ L, W2.heap.size = L := ⟨_, rfl⟩
    have HLS := Lib.hid hL
    obtain ⟨n14, hn14⟩ : ∃ n, ts.length = n := ⟨_, rfl⟩
    have HN14 := Lib.hid hn14
    obtain ⟨n15, hn15⟩ : ∃ n, lz.length = n := ⟨_, rfl⟩
    have HN15 := Lib.hid hn15
    obtain ⟨n18, hn18⟩ : ∃ n, bs.length = n := ⟨_, rfl⟩
    have HN18 := Lib.hid hn18
    rw [hn14] at hts
    rw [hn15] at hlz
    rw [hn18] at hbs
    have q14 : W2.cell? ⟨D, 14, none⟩ = some (.slice A14 n14 c14) := blk_cell HDX.out (by rw [← hn14]; rfl)
    have HWK := Lib.hid (show w.heap.size ≤ BK by have := HR0.out; have := HKR.out; omega)
    clear hL hn14 hn15 hn18
    go_wp2_with fail
    clear q14
    go_loopg [6, 7, 9, 85] n14 (fun g _ _ _ x wr => ∃ j : Nat, g = n14 - j ∧ j ≤ n14 ∧ x = .int .i64 j ∧ ∃ (cs : Array Value) (v : Value) (xs : List Value), wr.heap[BK]? = some (.cells cs 36 (0, 0)) ∧ Ses cs ∧ (cs[14]? = some v ∧ cs[15]? = some (.slice none 0 0) ∧ cs[18]? = some (.slice none 0 0)) ∧ wr.ownsRow L 196 3 v j xs ∧ Ch (fun k => k = BK) W2 wr)
    case atStart => exact ⟨0, rfl, Nat.zero_le _, rfl, cs, _, [], HK.out, HSES.out, HCS.out, World.ownsRow_nil _ _ _ _, Ch.refl _ _⟩
    case round =>
      clear HK HSES HCS
      obtain ⟨j, hg, hj, rfl, cs, v, xs, hK, hses, hcs, hown, hch⟩ := hrel
      have HG := Lib.hid hg
      have HK := Lib.hid hK
      have HSES := Lib.hid hses
      have HV := Lib.hid hcs
      have HOWN1 := Lib.hid hown
      have HCH := Lib.hid hch
      clear hg hK hses hcs hown hch
      have HCW := Lib.hid (show Ch (fun _ => False) w wr from HC2.out.fresh HCH.out (fun i hi => .inl (by rw [hi]; exact HWK.out)))
      by_cases hlt : j < n14
      · obtain ⟨t, ht⟩ : ∃ t, ts[j]? = some t := ⟨_, List.getElem?_eq_getElem (by rw [HN14.out]; exact hlt)⟩
        obtain ⟨b, o, hA14, hc⟩ := HT14.out j t ht
        obtain ⟨os, hos, hor, hoff⟩ := HREPS.out t (List.mem_of_getElem? ht)
        obtain ⟨A1, c1, htv⟩ := own_sl hor
        subst htv
        subst hA14
        have hlr := Lst.of_slice (f := repC) (fun _ => rfl) hor rfl
        obtain ⟨m1, hm1⟩ : ∃ m, os.length = m := ⟨_, rfl⟩
        have HM1 := Lib.hid hm1
        have k0 : wr.cell? _ = _ := HCW.out.cell0 (hc 0 _ rfl)
        have k1 : wr.cell? _ = _ := HCW.out.cell0 (hc 1 _ rfl)
        have k2 : wr.cell? _ = _ := HCW.out.cell0 (hc 2 _ rfl)
        rw [hm1] at k2 hos
        rw [Nat.add_zero] at k0
        rw [← Nat.add_assoc] at k1 k2
        have hcA : Ch (fun _ => False) wr (wr.alloc (.cells #[.int .u64 0, .int .u64 0, .slice A1 m1 c1] 193)) := Ch.grown (World.grownBy_alloc _ _ none) (by simp)
        have hcB : Ch (fun _ => False) (wr.alloc (.cells #[.int .u64 0, .int .u64 0, .slice A1 m1 c1] 193)) ((wr.alloc (.cells #[.int .u64 0, .int .u64 0, .slice A1 m1 c1] 193)).alloc (.cells #[.int .u64 0, .int .u64 0, .slice none 0 0] 196)) := Ch.grown (World.grownBy_alloc _ _ none) (by simp)
        have hn5 : (wr.alloc (.cells #[.int .u64 0, .int .u64 0, .slice A1 m1 c1] 193)).heap[wr.heap.size]? = some (.cells #[.int .u64 0, .int .u64 0, .slice A1 m1 c1] 193 (0, 0)) := heap_alloc_new _ _
        have hn6 : ((wr.alloc (.cells #[.int .u64 0, .int .u64 0, .slice A1 m1 c1] 193)).alloc (.cells #[.int .u64 0, .int .u64 0, .slice none 0 0] 196)).heap[wr.heap.size + 1]? = some (.cells #[.int .u64 0, .int .u64 0, .slice none 0 0] 196 (0, 0)) := by
          have h1 := heap_alloc_new (wr.alloc (.cells #[.int .u64 0, .int .u64 0, .slice A1 m1 c1] 193)) (.cells #[.int .u64 0, .int .u64 0, .slice none 0 0] 196)
          rw [World.size_alloc] at h1
          exact h1
        have f0 : (wr.alloc (.cells #[.int .u64 0, .int .u64 0, .slice A1 m1 c1] 193)).cell? ⟨wr.heap.size, 0, none⟩ = some (.int .u64 0) := blk_cell hn5 rfl
        have f1 : (wr.alloc (.cells #[.int .u64 0, .int .u64 0, .slice A1 m1 c1] 193)).cell? ⟨wr.heap.size, 1, none⟩ = some (.int .u64 0) := blk_cell hn5 rfl
        have f2 : ((wr.alloc (.cells #[.int .u64 0, .int .u64 0, .slice A1 m1 c1] 193)).alloc (.cells #[.int .u64 0, .int .u64 0, .slice none 0 0] 196)).cell? ⟨wr.heap.size, 2, none⟩ = some (.slice A1 m1 c1) := hcB.cell0 (blk_cell hn5 rfl)
        have HCB := Lib.hid (hcA.trans hcB)
        have HN6 := Lib.hid hn6
        have HLR := Lib.hid hlr
        have HOFF := Lib.hid hoff
        clear hc hcA hcB hn5 hn6 hlr hoff hor ht hm1
        go_wp2_with fail
        clear k0 k1 k2 f0 f1 f2
        generalize ((wr.alloc (.cells #[.int .u64 0, .int .u64 0, .slice A1 m1 c1] 193)).alloc (.cells #[.int .u64 0, .int .u64 0, .slice none 0 0] 196)) = W3 at *
        obtain ⟨T7, hT7⟩ : ∃ T7, wr.heap.size + 1 = T7 := ⟨_, rfl⟩
        have HTS := Lib.hid hT7
        rw [hT7] at HN6 ⊢
        clear hT7
        obtain ⟨L2, hL2⟩ : ∃ L2, W3.heap.size = L2 := ⟨_, rfl⟩
        have HLS2 := Lib.hid hL2
        clear hL2
        have HKW3 := Lib.hid ((HCB.out.block _ (blk_lt HK.out) id).trans HK.out)
        have HOW3 := Lib.hid (own_ch HOWN1.out HCB.out)
        have HKT7 := Lib.hid (show BK ≠ T7 by have := blk_lt HK.out; have := HTS.out; omega)
        have HOT7 := Lib.hid (show ∀ k, v.ownBlock = some k → k ≠ T7 from fun k hk => by have := (HOWN1.out.lt k hk).2; have := HTS.out; omega)
        have HC3 := Lib.hid (HCW.out.trans HCB.out)
        have HT7L := Lib.hid (show w.heap.size ≤ T7 ∧ W2.heap.size ≤ T7 by have := HCW.out.size; have := HCH.out.size; have := HTS.out; omega)
        have HCH3 := Lib.hid (HCH.out.trans (HCB.out.mono (fun _ h => h.elim)))
        generalize wr = Wo at *
        go_loopg [9, 99] m1 (fun g _ x wr => ∃ j2 : Nat, g = m1 - j2 ∧ j2 ≤ m1 ∧ x = .int .i64 j2 ∧ ∃ (v2 : Value) (xs2 : List Value), wr.heap[T7]? = some (.cells #[.int .u64 0, .int .u64 0, v2] 196 (0, 0)) ∧ wr.ownsRow L2 201 3 v2 j2 xs2 ∧ Ch (fun k => k = T7) W3 wr)
        case atStart => exact ⟨0, rfl, Nat.zero_le _, rfl, _, [], HN6.out, World.ownsRow_nil _ _ _ _, Ch.refl _ _⟩
        case round =>
          obtain ⟨j2, hg2, hj2, rfl, v2, xs2, hB7, hown2, hch2⟩ := hrel
          have HG2 := Lib.hid hg2
          have HB7 := Lib.hid hB7
          have HOWN2 := Lib.hid hown2
          have HCH2 := Lib.hid hch2
          clear hg2 hB7 hown2 hch2
          have HCI := Lib.hid (show Ch (fun _ => False) w wr from HC3.out.fresh HCH2.out (fun i hi => .inl (by rw [hi]; exact HT7L.out.1)))
          by_cases hlt2 : j2 < m1
          · obtain ⟨ov, hov⟩ : ∃ t, os[j2]? = some t := ⟨_, List.getElem?_eq_getElem (by rw [HM1.out]; exact hlt2)⟩
            obtain ⟨b2, o2, hA1, hc⟩ := HLR.out j2 ov hov
            obtain ⟨ls, hls, hol⟩ := HOFF.out ov (List.mem_of_getElem? hov)
            obtain ⟨A2, c2, hovv⟩ := own_sl hol
            subst hovv
            subst hA1
            have hints0 : Els w 1 isInt A2 ls.length := els_own (f := intC) (fun _ => rfl) (fun n => ⟨n, rfl⟩) hol rfl
            obtain ⟨m2, hm2e⟩ : ∃ m, ls.length = m := ⟨_, rfl⟩
            rw [hm2e] at hls hints0
            have hm2 : m2 ≤ 2147483647 := by omega
            have k0 : wr.cell? _ = _ := HCI.out.cell0 (hc 0 _ rfl)
            have k1 : wr.cell? _ = _ := HCI.out.cell0 (hc 1 _ rfl)
            have k2 : wr.cell? _ = _ := HCI.out.cell0 (hc 2 _ rfl)
            rw [hm2e] at k2
            rw [Nat.add_zero] at k0
            rw [← Nat.add_assoc] at k1 k2
            have hcA : Ch (fun _ => False) wr (wr.alloc (.cells #[.int .i64 1, .int .i64 1, .slice A2 m2 c2] 199)) := Ch.grown (World.grownBy_alloc _ _ none) (by simp)
            have HN9 := Lib.hid (show (wr.alloc (.cells #[.int .i64 1, .int .i64 1, .slice A2 m2 c2] 199)).heap[wr.heap.size]? = some (.cells #[.int .i64 1, .int .i64 1, .slice A2 m2 c2] 199 (0, 0)) from heap_alloc_new _ _)
            have HCA := Lib.hid hcA
            have HIN := Lib.hid hints0
            clear hc hcA hints0 hol hov hm2e
            go_upto_region 10 with fail
            clear k0 k1 k2
            have HOWN := Lib.hid (own_ch HOWN2.out HCA.out)
            have HB73 := Lib.hid ((HCA.out.block _ (blk_lt HB7.out) id).trans HB7.out)
            have HLW := Lib.hid (show L2 ≤ (wr.alloc (.cells #[.int .i64 1, .int .i64 1, .slice A2 m2 c2] 199)).heap.size by rw [← HLS2.out]; exact Nat.le_trans HCH2.out.size HCA.out.size)
            generalize (wr.alloc (.cells #[.int .i64 1, .int .i64 1, .slice A2 m2 c2] 199)) = W3' at *
            obtain ⟨T9, hT9⟩ : ∃ T9, wr.heap.size = T9 := ⟨_, rfl⟩
            rw [hT9] at HN9 ⊢
            clear hT9
            have HZW := Lib.hid (Nat.zero_le W3'.heap.size)
            have HTB := Lib.hid (show v2.ownBlock ≠ some T7 from own_not HOWN.out HB73.out (by decide))
            have HVC := Lib.hid (show (#[.int .u64 0, .int .u64 0, v2] : Array Value)[2]? = some v2 from rfl)
            have HTBK := Lib.hid (show v2.ownBlock ≠ some T9 from own_not HOWN.out HN9.out (by decide))
            have HOL := Lib.hid (show ∀ i, v2.ownBlock = some i → w.heap.size ≤ i ∧ W3.heap.size ≤ i from fun i hi => by have h1 := (HOWN.out.lt i hi).1; have := HLS2.out; have := HC3.out.size; omega)
            generalize W3 = Wq at *
            refine wp_region_ops8 (by kernel_rfl) [103, 104, 105, 106, 107, 108, 109, 110, 111, 112, 113, 114, 115] 13 [] (by kernel_rfl) (by kernel_rfl) (by kernel_rfl) (rep2T T7 T9 A2 m2 c2 L2 0 j2 v2 xs2) (appR L2 201 3 j2 v2 xs2 11 W3') ⟨Ch.of_heap (Ch.refl _ W3') rfl rfl rfl rfl, .inr HOWN.out⟩ (fun q hq => by cases hq) ?_ ?_
            · intro i oo hi ho A f W' hf hdep hcl hR hr hx K hK
              have hRc := hR.1
              have hLW : L2 ≤ W'.heap.size := Nat.le_trans HLW.out hRc.size
              have hZW : 0 ≤ W'.heap.size := Nat.le_trans HZW.out hRc.size
              have hT7 : W'.heap[T7]? = some (.cells #[.int .u64 0, .int .u64 0, v2] 196 (0, 0)) := (hRc.block T7 (blk_lt HB73.out) HTB.out).trans HB73.out
              have hT9 : W'.heap[T9]? = some (.cells #[.int .i64 1, .int .i64 1, .slice A2 m2 c2] 199 (0, 0)) := (hRc.block T9 (blk_lt HN9.out) HTBK.out).trans HN9.out
              have hints : Els W' 1 isInt A2 m2 := HIN.out.ch ((HCI.out.trans HCA.out).fresh hRc (fun i hi => .inl (HOL.out i hi).1))
              exact match i, hi, ho with
                  | 0, _, ho => by
                    obtain rfl := Option.some.inj ho
                    have e7 : A.tmps[7]?.getD undef = .pointer (some ⟨T7, 0, none⟩) := (eval_getD A 7).symm.trans (hx 7 (by decide))
                    unfold Oper.wp execOp
                    go_simp
                    have hcc : Ch (fun _ => False) W' _ := Ch.refl _ _
                    exact hK _ _ (fun d hd => by cases hd; exact rfl) (appR_step (by decide) hcc hR) (fun d _ _ h => rep2_stay hcc h)
                  | 1, _, ho => by
                    obtain rfl := Option.some.inj ho
                    have e103 : A.tmps[103]?.getD undef = .pointer (some ⟨T7, 2, none⟩) := (eval_getD A 103).symm.trans (hr 103 (by decide) (by decide))
                    have hl0 := blk_cell (j := 2) hT7 rfl
                    unfold Oper.wp execOp
                    go_simp
                    have hfa : f 11 = false := Bool.eq_false_iff.2 (fun h => by have h1 := hcl 11 h 1 (by decide); rw [hf] at h1; cases h1)
                    have hcc : Ch (fun _ => False) W' _ := Ch.refl _ _
                    exact hK _ _ (fun d hd => by cases hd; exact .inr ⟨rfl, hR.2.resolve_left (by rw [hfa]; decide)⟩) (appR_step (by decide) hcc hR) (fun d _ _ h => rep2_stay hcc h)
                  | 2, _, ho => by
                    obtain rfl := Option.some.inj ho
                    have e9 : A.tmps[9]?.getD undef = .pointer (some ⟨T9, 0, none⟩) := (eval_getD A 9).symm.trans (hx 9 (by decide))
                    unfold Oper.wp execOp
                    go_simp
                    have hcc : Ch (fun _ => False) W' _ := Ch.refl _ _
                    exact hK _ _ (fun d hd => by cases hd; exact rfl) (appR_step (by decide) hcc hR) (fun d _ _ h => rep2_stay hcc h)
                  | 3, _, ho => by
                    obtain rfl := Option.some.inj ho
                    have e105 : A.tmps[105]?.getD undef = .pointer (some ⟨T9, 0, none⟩) := (eval_getD A 105).symm.trans (hr 105 (by decide) (by decide))
                    have l0 : W'.cell? ⟨T9, 0, none⟩ = some (.int .i64 1) := blk_cell hT9 rfl
                    unfold Oper.wp execOp
                    go_simp
                    have hcc : Ch (fun _ => False) W' _ := Ch.refl _ _
                    exact hK _ _ (fun d hd => by cases hd; exact rfl) (appR_step (by decide) hcc hR) (fun d _ _ h => rep2_stay hcc h)
                  | 4, _, ho => by
                    obtain rfl := Option.some.inj ho
                    have e9 : A.tmps[9]?.getD undef = .pointer (some ⟨T9, 0, none⟩) := (eval_getD A 9).symm.trans (hx 9 (by decide))
                    unfold Oper.wp execOp
                    go_simp
                    have hcc : Ch (fun _ => False) W' _ := Ch.refl _ _
                    exact hK _ _ (fun d hd => by cases hd; exact rfl) (appR_step (by decide) hcc hR) (fun d _ _ h => rep2_stay hcc h)
                  | 5, _, ho => by
                    obtain rfl := Option.some.inj ho
                    have e107 : A.tmps[107]?.getD undef = .pointer (some ⟨T9, 1, none⟩) := (eval_getD A 107).symm.trans (hr 107 (by decide) (by decide))
                    have l0 : W'.cell? ⟨T9, 1, none⟩ = some (.int .i64 1) := blk_cell hT9 rfl
                    unfold Oper.wp execOp
                    go_simp
                    have hcc : Ch (fun _ => False) W' _ := Ch.refl _ _
                    exact hK _ _ (fun d hd => by cases hd; exact rfl) (appR_step (by decide) hcc hR) (fun d _ _ h => rep2_stay hcc h)
                  | 6, _, ho => by
                    obtain rfl := Option.some.inj ho
                    have e9 : A.tmps[9]?.getD undef = .pointer (some ⟨T9, 0, none⟩) := (eval_getD A 9).symm.trans (hx 9 (by decide))
                    unfold Oper.wp execOp
                    go_simp
                    have hcc : Ch (fun _ => False) W' _ := Ch.refl _ _
                    exact hK _ _ (fun d hd => by cases hd; exact rfl) (appR_step (by decide) hcc hR) (fun d _ _ h => rep2_stay hcc h)
                  | 7, _, ho => by
                    obtain rfl := Option.some.inj ho
                    have e109 : A.tmps[109]?.getD undef = .pointer (some ⟨T9, 2, none⟩) := (eval_getD A 109).symm.trans (hr 109 (by decide) (by decide))
                    have l0 : W'.cell? ⟨T9, 2, none⟩ = some (.slice A2 m2 c2) := blk_cell hT9 rfl
                    unfold Oper.wp execOp
                    go_simp
                    have hcc : Ch (fun _ => False) W' _ := Ch.refl _ _
                    exact hK _ _ (fun d hd => by cases hd; exact rfl) (appR_step (by decide) hcc hR) (fun d _ _ h => rep2_stay hcc h)
                  | 8, _, ho => by
                    obtain rfl := Option.some.inj ho
                    have e110 : A.tmps[110]?.getD undef = .slice A2 m2 c2 := (eval_getD A 110).symm.trans (hr 110 (by decide) (by decide))
                    unfold Oper.wp execOp
                    go_simp
                    (go_at_call 96; refine (cloneInts_any hm2 hints).mono ?_; rintro e W2 ⟨S, m, c, rfl, hcp⟩)
                    have hcc : Ch (fun _ => False) W' _ := hcp
                    exact hK _ _ (fun d hd => by cases hd; exact ⟨_, _, _, rfl⟩) (appR_step (by decide) hcc hR) (fun d _ _ h => rep2_stay hcc h)
                  | 9, _, ho => by
                    obtain rfl := Option.some.inj ho
                    have e106 : A.tmps[106]?.getD undef = .int .i64 1 := (eval_getD A 106).symm.trans (hr 106 (by decide) (by decide))
                    have e108 : A.tmps[108]?.getD undef = .int .i64 1 := (eval_getD A 108).symm.trans (hr 108 (by decide) (by decide))
                    obtain ⟨S111, m111, c111, eq111_⟩ : ∃ (S : Option Addr) (m : Nat) (c : Nat), A.eval (.tmp 111) = .slice S m c := hr 111 (by decide) (by decide)
                    have e111 : A.tmps[111]?.getD undef = .slice S111 m111 c111 := (eval_getD A 111).symm.trans eq111_
                    unfold Oper.wp execOp
                    go_simp
                    have hcc : Ch (fun _ => False) W' _ := Ch.refl _ _
                    exact hK _ _ (fun d hd => by cases hd; exact ⟨_, _, _, rfl⟩) (appR_step (by decide) hcc hR) (fun d _ _ h => rep2_stay hcc h)
                  | 10, _, ho => by
                    obtain rfl := Option.some.inj ho
                    obtain ⟨S112, m112, c112, eq112_⟩ : ∃ (S : Option Addr) (m : Nat) (c : Nat), A.eval (.tmp 112) = .agg #[.int .i64 1, .int .i64 1, .slice S m c] := hr 112 (by decide) (by decide)
                    have e112 : A.tmps[112]?.getD undef = .agg #[.int .i64 1, .int .i64 1, .slice S112 m112 c112] := (eval_getD A 112).symm.trans eq112_
                    unfold Oper.wp execOp
                    go_simp
                    have hcc : Ch (fun _ => False) W' (W'.alloc (.cells #[.int .i64 1, .int .i64 1, .slice S112 m112 c112] 201)) := Ch.grown (World.grownBy_alloc _ _ none) (by simp)
                    exact hK _ _ (fun d hd => by cases hd; exact .inr ⟨_, S112, m112, c112, rfl, heap_alloc_new _ _⟩) (appR_step (by decide) hcc hR) (fun d _ _ h => rep2_stay hcc h)
                  | 11, _, ho => by
                    obtain rfl := Option.some.inj ho
                    have hls : f 11 = true ∨ (A.eval (.tmp 104) = v2 ∧ W'.ownsRow L2 201 3 v2 j2 xs2) := hr 104 (by decide) (by decide)
                    obtain ⟨els, hown⟩ := hls.resolve_left (by rw [hf]; decide)
                    have hbs : f 11 = true ∨ ∃ (k : Nat) (S : Option Addr) (m : Nat) (c : Nat), A.eval (.tmp 113) = .slice (some ⟨k, 0, none⟩) 1 1 ∧ W'.heap[k]? = some (.cells #[.int .i64 1, .int .i64 1, .slice S m c] 201 (0, 0)) := hr 113 (by decide) (by decide)
                    obtain ⟨k, S, m, c, ebs, hk⟩ := hbs.resolve_left (by rw [hf]; decide)
                    obtain ⟨i0, hi0, hz0, hz1, hz2⟩ := info_parts info201_l
                    refine wp_append_lies _ (.tmp 104) (.tmp 113) 194 rfl L2 201 i0 _ 3 40 Tryz.underlying194 hi0 hz0 hz1 hz2 rfl (by decide) v2 j2 xs2 els hown ⟨k, 0, none⟩ 1 1 [.int .i64 1, .int .i64 1, .slice S m c] ebs rfl (World.news_of_block hk) (by simp [Value.oneCell']) (by decide) (by unfold maxLen; omega) (by omega) hLW _ rfl ?_
                    intro g cap W2 hown2 hgrow2 hat hlt
                    have hco : Ch (fun j => v2.ownBlock = some j) W' W2 := Ch.grown hgrow2 (fun j hj => hj)
                    exact hK _ _ (fun d hd => by cases hd; exact ⟨by simp [upd], S, m, c, hown2, lies_at hat hZW⟩) (appR_app hco hR) (fun d _ hne h => rep2_stayA (fun e => hne (by subst e; rfl)) hown hco h)
                  | 12, _, ho => by
                    obtain rfl := Option.some.inj ho
                    have e7 : A.tmps[7]?.getD undef = .pointer (some ⟨T7, 0, none⟩) := (eval_getD A 7).symm.trans (hx 7 (by decide))
                    unfold Oper.wp execOp
                    go_simp
                    have hcc : Ch (fun _ => False) W' _ := Ch.refl _ _
                    exact hK _ _ (fun d hd => by cases hd; exact rfl) (appR_step (by decide) hcc hR) (fun d _ _ h => rep2_stay hcc h)
                  | j2 + 13, hi, _ => absurd hi (by omega)
            · intro oo ho u f W3 hfa hR hu
              obtain rfl := Option.some.inj ho
              have hap : f 11 = true ∧ (∃ (S : Option Addr) (m : Nat) (c : Nat), W3.ownsRow L2 201 3 (u 114) (j2 + 1) (xs2 ++ [.int .i64 1, .int .i64 1, .slice S m c]) ∧ lies v2 0 ((u 114))) := hu 114 (by decide)
              have hRc := hR.1
              have hv1 : u 115 = .pointer (some ⟨T7, 2, none⟩) := hu 115 (by decide)
              have hb3 : W3.heap[T7]? = some (.cells #[.int .u64 0, .int .u64 0, v2] 196 (0, 0)) := (hRc.block T7 (blk_lt HB73.out) HTB.out).trans HB73.out
              have hf3 : W3.frozen? ⟨T7, 2, none⟩ = false := blk_frozen hb3
              have hc3 : W3.cell? ⟨T7, 2, none⟩ = some v2 := blk_cell hb3 HVC.out
              have HB3 := Lib.hid hb3
              have HRC := Lib.hid hRc
              obtain ⟨S, m, c, ho9, _⟩ := hap.2
              obtain ⟨g9, cap9, hvn⟩ := own_form ho9
              rw [hvn] at ho9
              have HO9a := Lib.hid ho9
              clear hR hu hfa hb3 hRc hap ho9
              rw [rep2_frame, hv1, hvn]
              unfold Oper.wp execOp
              go_simp
              clear hv1 hf3 hc3 hvn
              have ho9 := HO9a.out
              have hset := blk_set (j := 2) (.slice (some ⟨g9, 0, none⟩) (j2 + 1) cap9) HB3.out
              have hne9 := own_not ho9 HB3.out (by decide)
              have ho9' := owns_same (w' := W3.setCell ⟨T7, 2, none⟩ (.slice (some ⟨g9, 0, none⟩) (j2 + 1) cap9)) ho9 (fun k hk => blk_set_other _ (fun e => hne9 (by rw [hk, e])))
              have hch9 : Ch (fun k => k = T7) Wq (W3.setCell ⟨T7, 2, none⟩ (.slice (some ⟨g9, 0, none⟩) (j2 + 1) cap9)) := (((HCH2.out.trans (HCA.out.mono (fun _ h => h.elim))).fresh HRC.out (fun i hi => .inl (HOL.out i hi).2)).trans (Ch.set (S := fun k => k = T7) (k := T7) _ rfl _))
              have HSET := Lib.hid hset
              have HO9 := Lib.hid ho9'
              have HCH9 := Lib.hid hch9
              clear hset ho9 ho9' hch9 hne9
              go_wp2_with fail
              go_roundg (m1 - (j2 + 1))
              case measure => have := HG2.out; omega
              case rel => exact ⟨j2 + 1, rfl, by omega, by simp, _, _, HSET.out, HO9.out, HCH9.out⟩
          · obtain ⟨S2, d2, hv2⟩ := own_slice HOWN2.out
            subst hv2
            obtain ⟨i0, hi0, hz0, hz1, hz2⟩ := info_parts Tryz.info196
            have hKx := (HCH2.out.block _ (blk_lt HKW3.out) HKT7.out).trans HKW3.out
            have HKX := Lib.hid hKx
            have kv : wr.cell? ⟨BK, 14, none⟩ = some v := blk_cell hKx HV.out.1
            have t0 : wr.cell? ⟨T7, 0, none⟩ = some (.int .u64 0) := blk_cell HB7.out rfl
            have t1 : wr.cell? ⟨T7, 1, none⟩ = some (.int .u64 0) := blk_cell HB7.out rfl
            have t2 : wr.cell? ⟨T7, 2, none⟩ = some (.slice S2 j2 d2) := blk_cell HB7.out rfl
            have HOX := Lib.hid (owns_same HOW3.out (fun k hk => HCH2.out.block k (HOW3.out.lt k hk).2 (HOT7.out k hk)))
            have hcA : Ch (fun _ => False) wr (wr.alloc (.cells #[.int .u64 0, .int .u64 0, .slice S2 j2 d2] 196)) := Ch.grown (World.grownBy_alloc _ _ none) (by simp)
            have HNW := Lib.hid (show (wr.alloc (.cells #[.int .u64 0, .int .u64 0, .slice S2 j2 d2] 196)).heap[wr.heap.size]? = some (.cells #[.int .u64 0, .int .u64 0, .slice S2 j2 d2] 196 (0, 0)) from heap_alloc_new _ _)
            have HOA := Lib.hid (own_ch HOX.out hcA)
            have HKA := Lib.hid ((hcA.block _ (blk_lt hKx) id).trans hKx)
            have hchA := Ch.fresh HCH3.out HCH2.out (fun i hi => .inl (by rw [hi]; exact HT7L.out.2))
            have HLW := Lib.hid (show L ≤ (wr.alloc (.cells #[.int .u64 0, .int .u64 0, .slice S2 j2 d2] 196)).heap.size by rw [← HLS.out]; exact Nat.le_trans hchA.size hcA.size)
            have HCHA := Lib.hid (hchA.trans (hcA.mono fun _ h => h.elim))
            have HOL := Lib.hid (show ∀ i, v.ownBlock = some i → W2.heap.size ≤ i from fun i hi => by have h1 := (HOA.out.lt i hi).1; have := HLS.out; omega)
            have HKV := Lib.hid (show v.ownBlock ≠ some BK from own_not HOA.out HKA.out (by decide))
            clear hKx hcA hchA
            go_wp2_with (at_builtin; refine wpList_append_lies _ rfl (.tmp 118) (.tmp 120) 31 rfl L 196 i0 _ 3 40 Tryz.underlying31 hi0 hz0 hz1 hz2 rfl (by decide) v j xs rfl HOA.out ⟨wr.heap.size, 0, none⟩ 1 1 [.int .u64 0, .int .u64 0, .slice S2 j2 d2] rfl rfl (World.news_of_block HNW.out) (by simp [Value.oneCell']) (by decide) (by unfold maxLen; omega) (by omega) HLW.out _ rfl ?_; intro g4 cap4 W4 hown4 hgrow4 hat4 hlt4; have hK4 := (hgrow4.block BK (blk_lt HKA.out) (Ne.symm HKV.out)).trans HKA.out; have k4 : W4.cell? ⟨BK, 14, none⟩ = some v := blk_cell hK4 HV.out.1; have z4 : W4.frozen? ⟨BK, 14, none⟩ = false := blk_frozen hK4; have HK4 := Lib.hid hK4; have HO4 := Lib.hid hown4; have HG4 := Lib.hid (HCHA.out.old hgrow4 (fun k hk => .inl (HOL.out k hk))); clear hK4 hown4 hgrow4 hat4 hlt4)
            have HK5 := Lib.hid (blk_set (j := 14) (.slice (some ⟨g4, 0, none⟩) (j + 1) cap4) HK4.out)
            have HO5 := Lib.hid (own_tb (k := 14) (x := .slice (some ⟨g4, 0, none⟩) (j + 1) cap4) HK4.out HO4.out (by decide))
            have HCH5 := Lib.hid (HG4.out.trans (Ch.set (S := fun k => k = BK) (k := BK) (j := 14) W4 rfl (.slice (some ⟨g4, 0, none⟩) (j + 1) cap4)))
            clear kv t0 t1 t2 k4 z4 hi0 hz0 hz1 hz2
            go_roundg (n14 - (j + 1))
            case measure => have := HG.out; omega
            case rel => exact ⟨j + 1, rfl, by omega, by simp, _, .slice (some ⟨g4, 0, none⟩) (j + 1) cap4, _, HK5.out, HSES.out.set 14 _ _ _, ⟨set_eq' (by rw [HSES.out.size]; decide), (set_ne' (by decide)).trans HV.out.2.1, (set_ne' (by decide)).trans HV.out.2.2⟩, HO5.out, HCH5.out⟩
      · generalize wr = Wt at *
        have hDt := (HCW.out.block D hDw id).trans HD.out
        have q15 : Wt.cell? ⟨D, 15, none⟩ = some (.slice A15 n15 c15) := blk_cell hDt (by rw [← HN15.out]; rfl)
        have HDT := Lib.hid hDt
        obtain ⟨Lz, hLz⟩ : ∃ L, Wt.heap.size = L := ⟨_, rfl⟩
        have HLSz := Lib.hid hLz
        clear hDt hLz HG HOWN1
        go_wp2_with fail
        clear q15
        go_loopg [11, 129] n15 (fun g _ x wr => ∃ j : Nat, g = n15 - j ∧ j ≤ n15 ∧ x = .int .i64 j ∧ ∃ (cs : Array Value) (v : Value) (xs : List Value), wr.heap[BK]? = some (.cells cs 36 (0, 0)) ∧ Ses cs ∧ (cs[15]? = some v ∧ cs[18]? = some (.slice none 0 0)) ∧ wr.ownsRow Lz 204 2 v j xs ∧ Ch (fun k => k = BK) Wt wr)
        case atStart => exact ⟨0, rfl, Nat.zero_le _, rfl, cs, _, [], HK.out, HSES.out, HV.out.2, World.ownsRow_nil _ _ _ _, Ch.refl _ _⟩
        case round =>
          clear HK HSES HV
          obtain ⟨j3, hg, hj3, rfl, cs, v, xs, hK, hses, hcs, hown, hch⟩ := hrel
          have HG := Lib.hid hg
          have HK := Lib.hid hK
          have HSES := Lib.hid hses
          have HV := Lib.hid hcs
          have HOWN1 := Lib.hid hown
          have HCH2 := Lib.hid hch
          clear hg hK hses hcs hown hch
          have HCW2 := Lib.hid (show Ch (fun _ => False) w wr from HCW.out.fresh HCH2.out (fun i hi => .inl (by rw [hi]; exact HWK.out)))
          by_cases hlt3 : j3 < n15
          · obtain ⟨p, hp⟩ : ∃ t, lz[j3]? = some t := ⟨_, List.getElem?_eq_getElem (by rw [HN15.out]; exact hlt3)⟩
            obtain ⟨b, o, hA15, hc⟩ := HZ15.out j3 p hp
            subst hA15
            obtain ⟨i0, hi0, hz0, hz1, hz2⟩ := info_parts info204_l
            have k0 : wr.cell? _ = _ := HCW2.out.cell0 (hc 0 _ rfl)
            have k1 : wr.cell? _ = _ := HCW2.out.cell0 (hc 1 _ rfl)
            rw [Nat.add_zero] at k0
            rw [← Nat.add_assoc] at k1
            have hcA : Ch (fun _ => False) wr (wr.alloc (.cells #[.int .u64 p.1, .int .i64 p.2] 203)) := Ch.grown (World.grownBy_alloc _ _ none) (by simp)
            have hcB : Ch (fun _ => False) (wr.alloc (.cells #[.int .u64 p.1, .int .i64 p.2] 203)) ((wr.alloc (.cells #[.int .u64 p.1, .int .i64 p.2] 203)).alloc (.cells #[.int .u64 p.1, .int .i64 p.2] 204)) := Ch.grown (World.grownBy_alloc _ _ none) (by simp)
            have hn5 : (wr.alloc (.cells #[.int .u64 p.1, .int .i64 p.2] 203)).heap[wr.heap.size]? = some (.cells #[.int .u64 p.1, .int .i64 p.2] 203 (0, 0)) := heap_alloc_new _ _
            have hn6 : ((wr.alloc (.cells #[.int .u64 p.1, .int .i64 p.2] 203)).alloc (.cells #[.int .u64 p.1, .int .i64 p.2] 204)).heap[wr.heap.size + 1]? = some (.cells #[.int .u64 p.1, .int .i64 p.2] 204 (0, 0)) := by
              have h1 := heap_alloc_new (wr.alloc (.cells #[.int .u64 p.1, .int .i64 p.2] 203)) (.cells #[.int .u64 p.1, .int .i64 p.2] 204)
              rw [World.size_alloc] at h1
              exact h1
            have f0 : (wr.alloc (.cells #[.int .u64 p.1, .int .i64 p.2] 203)).cell? ⟨wr.heap.size, 0, none⟩ = some (.int .u64 p.1) := blk_cell hn5 rfl
            have f1 : (wr.alloc (.cells #[.int .u64 p.1, .int .i64 p.2] 203)).cell? ⟨wr.heap.size, 1, none⟩ = some (.int .i64 p.2) := blk_cell hn5 rfl
            have hKA := (hcA.block _ (blk_lt HK.out) id).trans HK.out
            have kv : (wr.alloc (.cells #[.int .u64 p.1, .int .i64 p.2] 203)).cell? ⟨BK, 15, none⟩ = some v := blk_cell hKA HV.out.1
            have HNW := Lib.hid hn6
            have HOA := Lib.hid (own_ch HOWN1.out (hcA.trans hcB))
            have HKB := Lib.hid ((hcB.block _ (blk_lt hKA) id).trans hKA)
            have HCHA := Lib.hid (HCH2.out.trans ((hcA.trans hcB).mono fun _ h => h.elim))
            have HLW := Lib.hid (show Lz ≤ ((wr.alloc (.cells #[.int .u64 p.1, .int .i64 p.2] 203)).alloc (.cells #[.int .u64 p.1, .int .i64 p.2] 204)).heap.size by rw [← HLSz.out]; exact HCHA.out.size)
            have HOL := Lib.hid (show ∀ i, v.ownBlock = some i → Wt.heap.size ≤ i from fun i hi => by have h1 := (HOA.out.lt i hi).1; have := HLSz.out; omega)
            have HKV := Lib.hid (show v.ownBlock ≠ some BK from own_not HOA.out HKB.out (by decide))
            clear hcA hcB hn5 hn6 hKA hc hp
            go_wp2_with (at_builtin; refine wpList_append_lies _ rfl (.tmp 134) (.tmp 140) 32 rfl Lz 204 i0 _ 2 16 Tryz.underlying32 hi0 hz0 hz1 hz2 rfl (by decide) v j3 xs rfl HOA.out ⟨wr.heap.size + 1, 0, none⟩ 1 1 [.int .u64 p.1, .int .i64 p.2] rfl rfl (World.news_of_block HNW.out) (by simp [Value.oneCell']) (by decide) (by unfold maxLen; omega) (by omega) HLW.out _ rfl ?_; intro g4 cap4 W4 hown4 hgrow4 hat4 hlt4; have hK4 := (hgrow4.block BK (blk_lt HKB.out) (Ne.symm HKV.out)).trans HKB.out; have k4 : W4.cell? ⟨BK, 15, none⟩ = some v := blk_cell hK4 HV.out.1; have z4 : W4.frozen? ⟨BK, 15, none⟩ = false := blk_frozen hK4; have HK4 := Lib.hid hK4; have HO4 := Lib.hid hown4; have HG4 := Lib.hid (HCHA.out.old hgrow4 (fun k hk => .inl (HOL.out k hk))); clear hK4 hown4 hgrow4 hat4 hlt4)
            have HK5 := Lib.hid (blk_set (j := 15) (.slice (some ⟨g4, 0, none⟩) (j3 + 1) cap4) HK4.out)
            have HO5 := Lib.hid (own_tb (k := 15) (x := .slice (some ⟨g4, 0, none⟩) (j3 + 1) cap4) HK4.out HO4.out (by decide))
            have HCH5 := Lib.hid (HG4.out.trans (Ch.set (S := fun k => k = BK) (k := BK) (j := 15) W4 rfl (.slice (some ⟨g4, 0, none⟩) (j3 + 1) cap4)))
            clear kv k0 k1 f0 f1 k4 z4 hi0 hz0 hz1 hz2
            go_roundg (n15 - (j3 + 1))
            case measure => have := HG.out; omega
            case rel => exact ⟨j3 + 1, rfl, by omega, by simp, _, .slice (some ⟨g4, 0, none⟩) (j3 + 1) cap4, _, HK5.out, HSES.out.set 15 _ _ _, ⟨set_eq' (by rw [HSES.out.size]; decide), (set_ne' (by decide)).trans HV.out.2⟩, HO5.out, HCH5.out⟩
          · generalize wr = Wz at *
            have hDt := (HCW2.out.block D hDw id).trans HD.out
            have q18 : Wz.cell? ⟨D, 18, none⟩ = some (.slice A18 n18 c18) := blk_cell hDt (by rw [← HN18.out]; rfl)
            have HDZ := Lib.hid hDt
            obtain ⟨Lm, hLm⟩ : ∃ L, Wz.heap.size = L := ⟨_, rfl⟩
            have HLSm := Lib.hid hLm
            clear hDt hLm HG HOWN1
            go_wp2_with fail
            clear q18
            go_loopg [13, 149] n18 (fun g _ x wr => ∃ j : Nat, g = n18 - j ∧ j ≤ n18 ∧ x = .int .i64 j ∧ ∃ (cs : Array Value) (v : Value) (xs : List Value), wr.heap[BK]? = some (.cells cs 36 (0, 0)) ∧ Ses cs ∧ cs[18]? = some v ∧ wr.ownsRow Lm 66 10 v j xs ∧ Ch (fun k => k = BK) Wz wr)
            case atStart => exact ⟨0, rfl, Nat.zero_le _, rfl, cs, _, [], HK.out, HSES.out, HV.out.2, World.ownsRow_nil _ _ _ _, Ch.refl _ _⟩
            case round =>
              clear HK HSES HV
              obtain ⟨j4, hg, hj4, rfl, cs, v, xs, hK, hses, hcs, hown, hch⟩ := hrel
              have HG := Lib.hid hg
              have HK := Lib.hid hK
              have HSES := Lib.hid hses
              have HVC := Lib.hid hcs
              have HOWN := Lib.hid hown
              have HCH3 := Lib.hid hch
              clear hg hK hses hcs hown hch
              have HCW3 := Lib.hid (show Ch (fun _ => False) w wr from HCW2.out.fresh HCH3.out (fun i hi => .inl (by rw [hi]; exact HWK.out)))
              by_cases hlt4 : j4 < n18
              · obtain ⟨b, hb⟩ : ∃ t, bs[j4]? = some t := ⟨_, List.getElem?_eq_getElem (by rw [HN18.out]; exact hlt4)⟩
                obtain ⟨b0, o0, hA18, hc⟩ := HM18.out j4 b hb
                subst hA18
                have HMR := Lib.hid (HMED.out b (List.mem_of_getElem? hb))
                have k0 : wr.cell? _ = _ := HCW3.out.cell0 (hc 0 _ rfl)
                rw [Nat.add_zero, Nat.mul_one] at k0
                clear hc hb
                go_upto_region 22 with fail
                clear k0
                have HZW := Lib.hid (Nat.zero_le wr.heap.size)
                have HLW := Lib.hid (show Lm ≤ wr.heap.size by rw [← HLSm.out]; exact HCH3.out.size)
                have HKBK := Lib.hid (show v.ownBlock ≠ some BK from own_not HOWN.out HK.out (by decide))
                have HOL := Lib.hid (show ∀ i, v.ownBlock = some i → w.heap.size ≤ i ∧ Wz.heap.size ≤ i from fun i hi => by have h1 := (HOWN.out.lt i hi).1; have := HLSm.out; have := HCW2.out.size; omega)
                refine wp_region_ops8 (by kernel_rfl) [153, 154, 155, 156, 157, 158, 159] 7 [] (by kernel_rfl) (by kernel_rfl) (by kernel_rfl) (mdoT BK b Lm 0 j4 v xs) (appR Lm 66 10 j4 v xs 5 wr) ⟨Ch.of_heap (Ch.refl _ wr) rfl rfl rfl rfl, .inr HOWN.out⟩ (fun q hq => by cases hq) ?_ ?_
                · intro i oo hi ho A f W' hf hdep hcl hR hr hx K hK
                  have hRc := hR.1
                  have hLW : Lm ≤ W'.heap.size := Nat.le_trans HLW.out hRc.size
                  have hZW : 0 ≤ W'.heap.size := Nat.le_trans HZW.out hRc.size
                  have hKB : W'.heap[BK]? = some (.cells cs 36 (0, 0)) := (hRc.block BK (blk_lt HK.out) HKBK.out).trans HK.out
                  have hKv := HVC.out
                  obtain ⟨lfm, lam, csm, hA, hS⟩ := (HMR.out.ch (HCW3.out.fresh hRc (fun i hi => .inl (HOL.out i hi).1))).smed
                  exact match i, hi, ho with
                      | 0, _, ho => by
                        obtain rfl := Option.some.inj ho
                        have e4 : A.tmps[4]?.getD undef = .pointer (some ⟨BK, 0, none⟩) := (eval_getD A 4).symm.trans (hx 4 (by decide))
                        unfold Oper.wp execOp
                        go_simp
                        have hcc : Ch (fun _ => False) W' _ := Ch.refl _ _
                        exact hK _ _ (fun d hd => by cases hd; exact rfl) (appR_step (by decide) hcc hR) (fun d _ _ h => mdo_stay hcc h)
                      | 1, _, ho => by
                        obtain rfl := Option.some.inj ho
                        have e153 : A.tmps[153]?.getD undef = .pointer (some ⟨BK, 18, none⟩) := (eval_getD A 153).symm.trans (hr 153 (by decide) (by decide))
                        have hl0 := blk_cell hKB hKv
                        unfold Oper.wp execOp
                        go_simp
                        have hfa : f 5 = false := Bool.eq_false_iff.2 (fun h => by have h1 := hcl 5 h 1 (by decide); rw [hf] at h1; cases h1)
                        have hcc : Ch (fun _ => False) W' _ := Ch.refl _ _
                        exact hK _ _ (fun d hd => by cases hd; exact .inr ⟨rfl, hR.2.resolve_left (by rw [hfa]; decide)⟩) (appR_step (by decide) hcc hR) (fun d _ _ h => mdo_stay hcc h)
                      | 2, _, ho => by
                        obtain rfl := Option.some.inj ho
                        have e13 : A.tmps[13]?.getD undef = .pointer (some ⟨b, 0, none⟩) := (eval_getD A 13).symm.trans (hx 13 (by decide))
                        unfold Oper.wp execOp
                        go_simp
                        have hcc : Ch (fun _ => False) W' _ := Ch.refl _ _
                        exact hK _ _ (fun d hd => by cases hd; exact rfl) (appR_step (by decide) hcc hR) (fun d _ _ h => mdo_stay hcc h)
                      | 3, _, ho => by
                        obtain rfl := Option.some.inj ho
                        have e155 : A.tmps[155]?.getD undef = .pointer (some ⟨b, 0, none⟩) := (eval_getD A 155).symm.trans (hr 155 (by decide) (by decide))
                        unfold Oper.wp execOp
                        go_simp
                        (go_at_call 64; refine (mediaOf_any hA hS).mono ?_; rintro e W2 ⟨S1, m1, d1, S2, d2, S3, d3, S4, m4, d4, S5, m5, d5, S6, d6, S7, m7, d7, S8, d8, m2, m6, rfl, -, -, hcp⟩)
                        have hcc : Ch (fun _ => False) W' _ := hcp
                        exact hK _ _ (fun d hd => by cases hd; exact ⟨_, _, _, _, _, _, _, _, _, _, _, _, _, _, _, _, _, _, _, _, _, _, _, _, rfl⟩) (appR_step (by decide) hcc hR) (fun d _ _ h => mdo_stay hcc h)
                      | 4, _, ho => by
                        obtain rfl := Option.some.inj ho
                        obtain ⟨S1156, m1156, d1156, S2156, m2156, d2156, S3156, m3156, d3156, S4156, m4156, d4156, S5156, m5156, d5156, S6156, m6156, d6156, S7156, m7156, d7156, S8156, m8156, d8156, eq156_⟩ : ∃ (S1 : Option Addr) (m1 : Nat) (d1 : Nat) (S2 : Option Addr) (m2 : Nat) (d2 : Nat) (S3 : Option Addr) (m3 : Nat) (d3 : Nat) (S4 : Option Addr) (m4 : Nat) (d4 : Nat) (S5 : Option Addr) (m5 : Nat) (d5 : Nat) (S6 : Option Addr) (m6 : Nat) (d6 : Nat) (S7 : Option Addr) (m7 : Nat) (d7 : Nat) (S8 : Option Addr) (m8 : Nat) (d8 : Nat), A.eval (.tmp 156) = .agg #[.string ⟨#[97, 117, 100, 105, 111]⟩, .int .i64 1, .slice S1 m1 d1, .slice S2 m2 d2, .slice S3 m3 d3, .slice S4 m4 d4, .slice S5 m5 d5, .slice S6 m6 d6, .slice S7 m7 d7, .slice S8 m8 d8] := hr 156 (by decide) (by decide)
                        have e156 : A.tmps[156]?.getD undef = .agg #[.string ⟨#[97, 117, 100, 105, 111]⟩, .int .i64 1, .slice S1156 m1156 d1156, .slice S2156 m2156 d2156, .slice S3156 m3156 d3156, .slice S4156 m4156 d4156, .slice S5156 m5156 d5156, .slice S6156 m6156 d6156, .slice S7156 m7156 d7156, .slice S8156 m8156 d8156] := (eval_getD A 156).symm.trans eq156_
                        unfold Oper.wp execOp
                        go_simp
                        have hcc : Ch (fun _ => False) W' (W'.alloc (.cells #[.string ⟨#[97, 117, 100, 105, 111]⟩, .int .i64 1, .slice S1156 m1156 d1156, .slice S2156 m2156 d2156, .slice S3156 m3156 d3156, .slice S4156 m4156 d4156, .slice S5156 m5156 d5156, .slice S6156 m6156 d6156, .slice S7156 m7156 d7156, .slice S8156 m8156 d8156] 66)) := Ch.grown (World.grownBy_alloc _ _ none) (by simp)
                        exact hK _ _ (fun d hd => by cases hd; exact .inr ⟨_, S1156, m1156, d1156, S2156, m2156, d2156, S3156, m3156, d3156, S4156, m4156, d4156, S5156, m5156, d5156, S6156, m6156, d6156, S7156, m7156, d7156, S8156, m8156, d8156, rfl, heap_alloc_new _ _⟩) (appR_step (by decide) hcc hR) (fun d _ _ h => mdo_stay hcc h)
                      | 5, _, ho => by
                        obtain rfl := Option.some.inj ho
                        have hls : f 5 = true ∨ (A.eval (.tmp 154) = v ∧ W'.ownsRow Lm 66 10 v j4 xs) := hr 154 (by decide) (by decide)
                        obtain ⟨els, hown⟩ := hls.resolve_left (by rw [hf]; decide)
                        have hbs : f 5 = true ∨ ∃ (k : Nat) (S1 : Option Addr) (m1 : Nat) (d1 : Nat) (S2 : Option Addr) (m2 : Nat) (d2 : Nat) (S3 : Option Addr) (m3 : Nat) (d3 : Nat) (S4 : Option Addr) (m4 : Nat) (d4 : Nat) (S5 : Option Addr) (m5 : Nat) (d5 : Nat) (S6 : Option Addr) (m6 : Nat) (d6 : Nat) (S7 : Option Addr) (m7 : Nat) (d7 : Nat) (S8 : Option Addr) (m8 : Nat) (d8 : Nat), A.eval (.tmp 157) = .slice (some ⟨k, 0, none⟩) 1 1 ∧ W'.heap[k]? = some (.cells #[.string ⟨#[97, 117, 100, 105, 111]⟩, .int .i64 1, .slice S1 m1 d1, .slice S2 m2 d2, .slice S3 m3 d3, .slice S4 m4 d4, .slice S5 m5 d5, .slice S6 m6 d6, .slice S7 m7 d7, .slice S8 m8 d8] 66 (0, 0)) := hr 157 (by decide) (by decide)
                        obtain ⟨k, S1, m1, d1, S2, m2, d2, S3, m3, d3, S4, m4, d4, S5, m5, d5, S6, m6, d6, S7, m7, d7, S8, m8, d8, ebs, hk⟩ := hbs.resolve_left (by rw [hf]; decide)
                        obtain ⟨i0, hi0, hz0, hz1, hz2⟩ := info_parts info66_l
                        refine wp_append_lies _ (.tmp 154) (.tmp 157) 34 rfl Lm 66 i0 _ 10 216 Tryz.underlying34 hi0 hz0 hz1 hz2 rfl (by decide) v j4 xs els hown ⟨k, 0, none⟩ 1 1 [.string ⟨#[97, 117, 100, 105, 111]⟩, .int .i64 1, .slice S1 m1 d1, .slice S2 m2 d2, .slice S3 m3 d3, .slice S4 m4 d4, .slice S5 m5 d5, .slice S6 m6 d6, .slice S7 m7 d7, .slice S8 m8 d8] ebs rfl (World.news_of_block hk) (by simp [Value.oneCell']) (by decide) (by unfold maxLen; omega) (by omega) hLW _ rfl ?_
                        intro g cap W2 hown2 hgrow2 hat hlt
                        have hco : Ch (fun j => v.ownBlock = some j) W' W2 := Ch.grown hgrow2 (fun j hj => hj)
                        exact hK _ _ (fun d hd => by cases hd; exact ⟨by simp [upd], S1, m1, d1, S2, m2, d2, S3, m3, d3, S4, m4, d4, S5, m5, d5, S6, m6, d6, S7, m7, d7, S8, m8, d8, hown2, lies_at hat hZW⟩) (appR_app hco hR) (fun d _ hne h => mdo_stayA (fun e => hne (by subst e; rfl)) hown hco h)
                      | 6, _, ho => by
                        obtain rfl := Option.some.inj ho
                        have e4 : A.tmps[4]?.getD undef = .pointer (some ⟨BK, 0, none⟩) := (eval_getD A 4).symm.trans (hx 4 (by decide))
                        unfold Oper.wp execOp
                        go_simp
                        have hcc : Ch (fun _ => False) W' _ := Ch.refl _ _
                        exact hK _ _ (fun d hd => by cases hd; exact rfl) (appR_step (by decide) hcc hR) (fun d _ _ h => mdo_stay hcc h)
                      | j4 + 7, hi, _ => absurd hi (by omega)
                · intro oo ho u f W3 hfa hR hu
                  obtain rfl := Option.some.inj ho
                  have hap : f 5 = true ∧ (∃ (S1 : Option Addr) (m1 : Nat) (d1 : Nat) (S2 : Option Addr) (m2 : Nat) (d2 : Nat) (S3 : Option Addr) (m3 : Nat) (d3 : Nat) (S4 : Option Addr) (m4 : Nat) (d4 : Nat) (S5 : Option Addr) (m5 : Nat) (d5 : Nat) (S6 : Option Addr) (m6 : Nat) (d6 : Nat) (S7 : Option Addr) (m7 : Nat) (d7 : Nat) (S8 : Option Addr) (m8 : Nat) (d8 : Nat), W3.ownsRow Lm 66 10 (u 158) (j4 + 1) (xs ++ [.string ⟨#[97, 117, 100, 105, 111]⟩, .int .i64 1, .slice S1 m1 d1, .slice S2 m2 d2, .slice S3 m3 d3, .slice S4 m4 d4, .slice S5 m5 d5, .slice S6 m6 d6, .slice S7 m7 d7, .slice S8 m8 d8]) ∧ lies v 0 ((u 158))) := hu 158 (by decide)
                  have hRc := hR.1
                  have hv1 : u 159 = .pointer (some ⟨BK, 18, none⟩) := hu 159 (by decide)
                  have hb3 : W3.heap[BK]? = some (.cells cs 36 (0, 0)) := (hRc.block BK (blk_lt HK.out) HKBK.out).trans HK.out
                  have hf3 : W3.frozen? ⟨BK, 18, none⟩ = false := blk_frozen hb3
                  have hc3 : W3.cell? ⟨BK, 18, none⟩ = some v := blk_cell hb3 HVC.out
                  have HB3 := Lib.hid hb3
                  have HRC := Lib.hid hRc
                  obtain ⟨S1, m1, d1, S2, m2, d2, S3, m3, d3, S4, m4, d4, S5, m5, d5, S6, m6, d6, S7, m7, d7, S8, m8, d8, ho9, _⟩ := hap.2
                  obtain ⟨g9, cap9, hvn⟩ := own_form ho9
                  rw [hvn] at ho9
                  have HO9a := Lib.hid ho9
                  clear hR hu hfa hb3 hRc hap ho9
                  rw [mdo_frame, hv1, hvn]
                  unfold Oper.wp execOp
                  go_simp
                  clear hv1 hf3 hc3 hvn
                  have ho9 := HO9a.out
                  have hset := blk_set (j := 18) (.slice (some ⟨g9, 0, none⟩) (j4 + 1) cap9) HB3.out
                  have hne9 := own_not ho9 HB3.out (by decide)
                  have ho9' := owns_same (w' := W3.setCell ⟨BK, 18, none⟩ (.slice (some ⟨g9, 0, none⟩) (j4 + 1) cap9)) ho9 (fun k hk => blk_set_other _ (fun e => hne9 (by rw [hk, e])))
                  have hch9 : Ch (fun k => k = BK) Wz (W3.setCell ⟨BK, 18, none⟩ (.slice (some ⟨g9, 0, none⟩) (j4 + 1) cap9)) := (HCH3.out.fresh HRC.out (fun i hi => .inl (HOL.out i hi).2)).trans (Ch.set (S := fun k => k = BK) (k := BK) _ rfl _)
                  have HSET := Lib.hid hset
                  have HO9 := Lib.hid ho9'
                  have HCH9 := Lib.hid hch9
                  clear hset ho9 ho9' hch9 hne9
                  go_wp2_with fail
                  go_roundg (n18 - (j4 + 1))
                  case measure => have := HG.out; omega
                  case rel => exact ⟨j4 + 1, rfl, by omega, by simp, _, .slice (some ⟨g9, 0, none⟩) (j4 + 1) cap9, _, HSET.out, HSES.out.set 18 _ _ _, set_eq' (by rw [HSES.out.size]; decide), HO9.out, HCH9.out⟩
              · have HRX := Lib.hid (((((HCH.out.trans HCH2.out).trans HCH3.out).block R0 (blk_lt HR2.out) (by have := HKR.out; omega))).trans HR2.out)
                have hz14 := HSES.out.all
                have hz19 := HSES.out.size
                go_wp2_with (first | (refine wpList_load_row rfl 36 (.tmp 4) rfl BK rfl 36 cs (0, 0) _ HK.out Tryz.underlying36 rfl (by rw [hz19]; exact Tryz.size36) ?_) | (refine wpList_store_row rfl 36 (.tmp 2) (.tmp 161) rfl R0 cs #[.int .i64 0, .string ⟨#[]⟩, .int .u64 0, .int .u64 0, .string ⟨#[]⟩, .string ⟨#[]⟩, .string ⟨#[]⟩, .string ⟨#[]⟩, .slice none 0 0, .slice none 0 0, .slice none 0 0, .slice none 0 0, .slice none 0 0, .slice none 0 0, .slice none 0 0, .slice none 0 0, .slice none 0 0, .slice none 0 0, .slice none 0 0] 36 rfl rfl HRX.out (by rw [hz19]; exact Tryz.size36) (by rw [hz19]; rfl) hz14 ?_))
                have hR6 : (wr.setRow R0 cs).heap[R0]? = some (.cells cs 36 (0, 0)) := setRow_heap _ _ _ _ _ _ HRX.out
                refine bodyPost_ret (v := .agg cs) (results_cell_row Tryz.results47 _ _ R0 36 _ (0, 0) _ rfl hR6 Tryz.underlying36 rfl (by rw [hz19]; exact Tryz.size36)) rfl ?_
                exact ⟨cs, rfl, HSES.out, HCW3.out.setRow (.inl (by have := HR0.out; omega)) _⟩

end Go.Proofs.YtimonhimfioohaaGreatDoor
