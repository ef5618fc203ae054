/- The parts of an extension's reading and printing. -/
import Derived.Test.YtimonhimfioohaaGreatDoorFieldsW
import Derived.Test.YtimonhimfioohaaGreatDoorExtA
import Derived.Test.YtimonhimfioohaaGreatDoorExtLaw
import Derived.Test.YtimonhimfioohaaGreatDoorSplit
import Derived.Test.YtimonhimfioohaaGreatDoorSourceLaw
import Derived.Test.YtimonhimfioohaaGreatDoorDirection
namespace Go.Proofs.YtimonhimfioohaaGreatDoor
open Go.RowKit

set_option maxRecDepth 100000 in
set_option maxHeartbeats 1600000 in
theorem index_wide {s : ByteArray} {c : UInt8} {k : Nat} (hs : s.size ≤ 8589934592) (hk : k < s.size) (hc : s[k] = c) (hn : ∀ (j : Nat) (h : j < s.size), j < k → s[j] ≠ c) (w : World) :
    Calls Tryz.prog 141 #[.string s, .string ⟨#[c]⟩] w fun e w' => e = .returned (.int .i64 k) ∧ w = w' := by
  have HN := Lib.hid hn
  clear hn
  go_enter Tryz.func141, Tryz.ntmps141
  go_wp2
  go_loopg [5] (s.size + 1) (fun g x wr => ∃ j : Nat, g = s.size + 1 - j ∧ j ≤ k ∧ x = .int .i64 j ∧ wr = w)
  case atStart => exact ⟨0, rfl, Nat.zero_le _, rfl, rfl⟩
  case round =>
    obtain ⟨j, hg, hj, rfl, rfl⟩ := hrel
    have HG := Lib.hid hg
    clear hg
    have hx := one_byte (s := s) (j := j) (by omega)
    by_cases he : j = k
    · subst he
      rw [hc] at hx
      go_wp2
      go_ret
      exact ⟨rfl, rfl⟩
    · have hne := HN.out j (by omega) (by omega)
      go_wp2_with fail
      · exact absurd (eq_of_beq (by assumption)) hne
      · go_roundg (s.size + 1 - (j + 1))
        case measure => have := HG.out; omega
        case rel => exact ⟨j + 1, rfl, by omega, by simp, rfl⟩

theorem lst_cell {w : World} {g k : Nat} {l : List ByteArray} {a : ByteArray} (h : Lst w 1 strC (some ⟨g, 0, none⟩) l) (hk : l[k]? = some a) : w.cell? ⟨g, k, none⟩ = some (.string a) := by
  obtain ⟨b, o, he, hc⟩ := h k a hk
  cases he
  have := hc 0 _ rfl
  simpa using this
def sptT (s : ByteArray) (c : UInt8) (k : Nat) (d : Nat) (v : Value) (W : World) : Prop :=
  match d with
  | 13 => v = .string s
  | 14 => v = .int .i64 k
  | 15 => v = .string (s.extract 0 k)
  | 16 => v = .string s
  | 17 => v = .int .i64 k
  | 18 => v = .string ⟨#[c]⟩
  | 19 => v = .int .i64 1
  | 20 => v = .int .i64 ((k : Int) + 1)
  | 21 => v = .string (s.extract (k + 1) s.size)
  | 22 => ∃ (g : Nat), v = .slice (some ⟨g, 0, none⟩) 2 2 ∧ W.heap[g]? = some (.cells #[.string (s.extract 0 k), .string (s.extract (k + 1) s.size)] 9 (0, 0))
  | _ => True

theorem sptT_stays {s : ByteArray} {c : UInt8} {k : Nat} {d : Nat} {v : Value} {W W' : World} (h : sptT s c k d v W) (hc : Ch (fun _ => False) W W') : sptT s c k d v W' := by
  unfold sptT at h ⊢
  split at h
  · exact h
  · exact h
  · exact h
  · exact h
  · exact h
  · exact h
  · exact h
  · exact h
  · exact h
  · obtain ⟨g, eq_, p0⟩ := h
    exact ⟨g, eq_, (hc.block _ (blk_lt p0) id).trans p0⟩
  · trivial

set_option maxRecDepth 100000 in
theorem spt_frame (x0 x1 x2 x3 x4 x5 x6 x7 x8 x9 x10 x11 x12 x13 x14 x15 x16 x17 x18 x19 x20 x21 x22 : Value) (d : List Deferred) (u : Nat → Value) : frameOf ⟨#[x0, x1, x2, x3, x4, x5, x6, x7, x8, x9, x10, x11, x12, x13, x14, x15, x16, x17, x18, x19, x20, x21, x22], d⟩ [13, 14, 15, 16, 17, 18, 19, 20, 21, 22] u = ⟨#[x0, x1, x2, x3, x4, x5, x6, x7, x8, x9, x10, x11, x12, u 13, u 14, u 15, u 16, u 17, u 18, u 19, u 20, u 21, u 22], d⟩ := by kernel_rfl

set_option maxRecDepth 100000 in
set_option maxHeartbeats 4000000 in
theorem splitTwo_at {s : ByteArray} {A B : List UInt8} {c : UInt8} (hs : s.size ≤ 8589934592) (h : s.data.toList = A ++ c :: B) (hA : c ∉ A) (w : World) :
    Calls Tryz.prog 118 #[.string s, .string ⟨#[c]⟩] w fun e w' => ∃ g, e = .returned (.slice (some ⟨g, 0, none⟩) 2 2) ∧ Lst w' 1 strC (some ⟨g, 0, none⟩) [⟨A.toArray⟩, ⟨B.toArray⟩] ∧ Ch (fun _ => False) w w' := by
  obtain ⟨h1, h2, h3, h4, h5⟩ := split_at h
  have HF := Lib.hid (index_wide hs h1 (h2 h1) (fun j hj hlt => fun e => hA (by rw [← e]; exact byte_before h hlt hj)) w)
  have hS1 : s.extract 0 A.length = ⟨A.toArray⟩ := by
    apply ByteArray.ext
    apply Array.ext'
    rw [h3]
  have hS2 : s.extract (A.length + 1) s.size = ⟨B.toArray⟩ := by
    apply ByteArray.ext
    apply Array.ext'
    rw [h4]
  have HS1 := Lib.hid hS1
  have HS2 := Lib.hid hS2
  clear h2 h3 h4 h hA hS1 hS2 h5
  obtain ⟨k, hk⟩ : ∃ k, A.length = k := ⟨_, rfl⟩
  rw [hk] at h1 HF HS1 HS2
  clear hk
  go_enter Tryz.func118, Tryz.ntmps118
  go_wp2_with (go_at_call 141; refine HF.out.mono ?_; rintro e w1 ⟨rfl, rfl⟩)
  go_upto_region 4 with fail
  refine wp_region_ops (by kernel_rfl) [13, 14, 15, 16, 17, 18, 19, 20, 21, 22] 10 (by kernel_rfl) (by kernel_rfl) (by kernel_rfl) (sptT s c k) (Ch (fun _ => False)) (Ch.refl _) (fun _ _ _ => Ch.trans) (fun _ _ _ _ => sptT_stays) ?_ ?_
  · intro i oo hi ho A W' hR hr hx K hK
    have hk0 : k ≤ s.size := by omega
    have hk1 : (k : Int) + 1 ≤ s.size := by omega
    have hw1 : IntKind.i64.wrap ((k : Int) + 1) = (k : Int) + 1 := IntWalk.i64_in _ (by omega)
    exact match i, hi, ho with
      | 0, _, ho => by
        obtain rfl := Option.some.inj ho
        have e0 : A.tmps[0]?.getD undef = .string s := (eval_getD A 0).symm.trans (hx 0 (by decide))
        unfold Oper.wp execOp
        go_simp
        exact hK _ _ (fun d hd => by cases hd; exact rfl) (Ch.refl _ _)
      | 1, _, ho => by
        obtain rfl := Option.some.inj ho
        have e5 : A.tmps[5]?.getD undef = .int .i64 k := (eval_getD A 5).symm.trans (hx 5 (by decide))
        unfold Oper.wp execOp
        go_simp
        exact hK _ _ (fun d hd => by cases hd; exact rfl) (Ch.refl _ _)
      | 2, _, ho => by
        obtain rfl := Option.some.inj ho
        have e13 : A.tmps[13]?.getD undef = .string s := (eval_getD A 13).symm.trans (hr 13 (by decide) (by decide))
        have e14 : A.tmps[14]?.getD undef = .int .i64 k := (eval_getD A 14).symm.trans (hr 14 (by decide) (by decide))
        unfold Oper.wp execOp
        go_simp
        exact hK _ _ (fun d hd => by cases hd; exact rfl) (Ch.refl _ _)
      | 3, _, ho => by
        obtain rfl := Option.some.inj ho
        have e0 : A.tmps[0]?.getD undef = .string s := (eval_getD A 0).symm.trans (hx 0 (by decide))
        unfold Oper.wp execOp
        go_simp
        exact hK _ _ (fun d hd => by cases hd; exact rfl) (Ch.refl _ _)
      | 4, _, ho => by
        obtain rfl := Option.some.inj ho
        have e5 : A.tmps[5]?.getD undef = .int .i64 k := (eval_getD A 5).symm.trans (hx 5 (by decide))
        unfold Oper.wp execOp
        go_simp
        exact hK _ _ (fun d hd => by cases hd; exact rfl) (Ch.refl _ _)
      | 5, _, ho => by
        obtain rfl := Option.some.inj ho
        have e1 : A.tmps[1]?.getD undef = .string ⟨#[c]⟩ := (eval_getD A 1).symm.trans (hx 1 (by decide))
        unfold Oper.wp execOp
        go_simp
        exact hK _ _ (fun d hd => by cases hd; exact rfl) (Ch.refl _ _)
      | 6, _, ho => by
        obtain rfl := Option.some.inj ho
        have e18 : A.tmps[18]?.getD undef = .string ⟨#[c]⟩ := (eval_getD A 18).symm.trans (hr 18 (by decide) (by decide))
        unfold Oper.wp execOp
        go_simp
        exact hK _ _ (fun d hd => by cases hd; exact rfl) (Ch.refl _ _)
      | 7, _, ho => by
        obtain rfl := Option.some.inj ho
        have e17 : A.tmps[17]?.getD undef = .int .i64 k := (eval_getD A 17).symm.trans (hr 17 (by decide) (by decide))
        have e19 : A.tmps[19]?.getD undef = .int .i64 1 := (eval_getD A 19).symm.trans (hr 19 (by decide) (by decide))
        unfold Oper.wp execOp
        go_simp
        exact hK _ _ (fun d hd => by cases hd; exact rfl) (Ch.refl _ _)
      | 8, _, ho => by
        obtain rfl := Option.some.inj ho
        have e16 : A.tmps[16]?.getD undef = .string s := (eval_getD A 16).symm.trans (hr 16 (by decide) (by decide))
        have e20 : A.tmps[20]?.getD undef = .int .i64 ((k : Int) + 1) := (eval_getD A 20).symm.trans (hr 20 (by decide) (by decide))
        unfold Oper.wp execOp
        go_simp
        exact hK _ _ (fun d hd => by cases hd; exact rfl) (Ch.refl _ _)
      | 9, _, ho => by
        obtain rfl := Option.some.inj ho
        have e15 : A.tmps[15]?.getD undef = .string (s.extract 0 k) := (eval_getD A 15).symm.trans (hr 15 (by decide) (by decide))
        have e21 : A.tmps[21]?.getD undef = .string (s.extract (k + 1) s.size) := (eval_getD A 21).symm.trans (hr 21 (by decide) (by decide))
        unfold Oper.wp execOp
        go_simp
        exact hK _ _ (fun d hd => by cases hd; exact ⟨_, rfl, heap_alloc_new _ _⟩) (Ch.grown (World.grownBy_alloc _ _ none) (by simp))
      | n + 10, hi, _ => absurd hi (by omega)

  · intro oo ho u W3 hR hu
    obtain rfl := Option.some.inj ho
    obtain ⟨g, hv, hg⟩ : ∃ g : Nat, u 22 = .slice (some ⟨g, 0, none⟩) 2 2 ∧ W3.heap[g]? = some (.cells #[.string (s.extract 0 k), .string (s.extract (k + 1) s.size)] 9 (0, 0)) := hu 22 (by decide)
    have HC := Lib.hid ((Ch.of_heap (Ch.refl _ w) (w' := w.drew) rfl rfl rfl rfl).trans hR)
    have HG := Lib.hid hg
    clear hR hu hg
    rw [spt_frame, hv]
    unfold Oper.wp execOp
    go_simp
    clear hv
    go_wp2
    refine bodyPost_ret (v := .slice (some ⟨g, 0, none⟩) 2 2) (by simp [results, Tryz.results118]) rfl ?_
    refine ⟨g, rfl, ?_, HC.out⟩
    have hg := HG.out
    rw [HS1.out, HS2.out] at hg
    exact lst_block (size := 1) (f := strC) (fun _ => rfl) hg rfl

set_option maxRecDepth 100000 in
set_option maxHeartbeats 4000000 in
theorem split_none {s : ByteArray} {c : UInt8} (hs : s.size ≤ 4294967295) (hn : c ∉ s.data.toList) (w : World) :
    Calls Tryz.prog 120 #[.string s, .string ⟨#[c]⟩] w fun e w' => ∃ g cap, e = .returned (.slice (some ⟨g, 0, none⟩) 1 cap) ∧ Lst w' 1 strC (some ⟨g, 0, none⟩) [s] ∧ Ch (fun _ => False) w w' := by
  have HF := Lib.hid (index_none (c := c) hs (fun j hj e => hn (by rw [← e]; exact byte_in hj)) w)
  obtain ⟨i0, hi0, hz0, hz1, hz2⟩ := info_parts Tryz.info9
  have HB1 := Lib.hid (show (w.alloc (.cells #[.string s] 9)).heap[w.heap.size]? = some (.cells #[.string s] 9 (0, 0)) from heap_alloc_new w _)
  have HC1 := Lib.hid (show Ch (fun _ => False) w (w.alloc (.cells #[.string s] 9)) from Ch.grown (World.grownBy_alloc _ _ none) (by simp))
  have HSZ := Lib.hid (show w.heap.size ≤ (w.alloc (.cells #[.string s] 9)).heap.size by simp)
  clear hn
  go_enter Tryz.func120, Tryz.ntmps120
  go_wp2
  refine wp_loop_rounds 1 ?_
  rw [rounds_succ]
  go_wp2_with fail
  go_at_call 141
  refine HF.out.mono ?_
  rintro e w1 ⟨rfl, rfl⟩
  go_wp2_with (at_builtin; refine wpList_append_lies _ rfl (.tmp 12) (.tmp 14) 28 rfl w.heap.size 9 i0 _ 1 16 Tryz.underlying28 hi0 hz0 hz1 hz2 rfl (by decide) (.slice none 0 0) 0 [] rfl (World.ownsRow_nil _ _ _ _) ⟨w.heap.size, 0, none⟩ 1 1 [.string s] rfl rfl (World.news_of_block HB1.out) (by simp [Value.oneCell']) (by decide) (by unfold maxLen; omega) (by omega) HSZ.out _ rfl ?_; intro g cap W1 hown hgrow hat hlt; have HO := Lib.hid hown; have HC := Lib.hid (HC1.out.old hgrow (fun k hk => by cases hk)); clear hown hgrow hat hlt)
  refine bodyPost_ret (v := .slice (some ⟨g, 0, none⟩) 1 cap) (by simp [results, Tryz.results120]) rfl ?_
  exact ⟨g, cap, rfl, Lst.of_slice (f := strC) (l := [s]) (fun _ => rfl) HO.out rfl, HC.out⟩

theorem parse_small : ∀ v : Fin 256, (match Lib.parseIntB 64 (Lib.decDigits v.val) with | .ok u => u == (v.val : Int) | _ => false) = true := by decide +kernel
theorem parse_at {v : Nat} (hv : v ≤ 255) : Lib.parseIntB 64 (Lib.decDigits v) = .ok (v : Int) := by
  have h := parse_small ⟨v, by omega⟩
  dsimp only at h
  split at h
  · rename_i u hu
    rw [hu, eq_of_beq h]
  · cases h
theorem parseInt_at {v : Nat} (hv : v ≤ 255) (w : World) : Calls Tryz.prog 121 #[.string ⟨(Lib.decDigits v).toArray⟩, .int .i64 10, .int .i64 64] w fun e w' => e = .returned (.tuple #[.int .i64 v, .nilIface]) ∧ Ch (fun _ => False) w w' := by
  refine (Tryz.strconv_ParseInt_10_at64_ok ⟨(Lib.decDigits v).toArray⟩ ?_ v (by simpa using parse_at hv) w).mono ?_
  · have := dec_len 19 v (Nat.lt_of_le_of_lt hv (by decide))
    exact Nat.le_trans this (by decide)
  · rintro e w' ⟨rfl, hw⟩
    refine ⟨rfl, ?_⟩
    rcases hw with rfl | ⟨t, rfl⟩
    · exact Ch.refl _ _
    · exact Ch.of_below (Lib.bytesWorld_below w 5 t)

theorem parseURL_any (s : ByteArray) (w : World) : Calls Tryz.prog 122 #[.string s] w fun e w' => ∃ g, e = .returned (.tuple #[.pointer (some ⟨g, 0, none⟩), .nilIface]) ∧ w'.heap[g]? = some (.cells #[.string s] 249 (0, 0)) ∧ Ch (fun _ => False) w w' := by
  have HB := Lib.hid (show (w.alloc (.cells #[.string s] 249)).heap[w.heap.size]? = some (.cells #[.string s] 249 (0, 0)) from heap_alloc_new w _)
  have HC := Lib.hid (show Ch (fun _ => False) w (w.alloc (.cells #[.string s] 249)) from Ch.grown (World.grownBy_alloc _ _ none) (by simp))
  go_enter Tryz.func122, Tryz.ntmps122
  go_wp2
  refine bodyPost_ret (v := .tuple #[.pointer (some ⟨w.heap.size, 0, none⟩), .nilIface]) (by simp [results, Tryz.results122]) rfl ?_
  exact ⟨_, rfl, HB.out, HC.out⟩

/-- A pointer that is nil, or points to a new block with the one text. -/
def OptP (w : World) (T : TypeId) (p : Option Addr) (l : List ByteArray) : Prop := match l with
  | [] => p = none
  | s :: _ => ∃ b, p = some ⟨b, 0, none⟩ ∧ w.heap[b]? = some (.cells #[.string s] T (0, 0))
theorem OptP.ch {w w' : World} {T : TypeId} {p : Option Addr} {l : List ByteArray} (h : OptP w T p l) (hc : Ch (fun _ => False) w w') : OptP w' T p l := by
  unfold OptP at *
  split at h
  · exact h
  · obtain ⟨b, h1, h2⟩ := h
    exact ⟨b, h1, (hc.block b (blk_lt h2) id).trans h2⟩

theorem url_l {A : Option Addr} {c : Nat} {l : List ByteArray} {w : World} (h : Lst w 1 strC A l) (hl : l.length ≤ 1) : Calls Tryz.prog 112 #[.slice A l.length c] w fun e w' => ∃ p, e = .returned (.pointer p) ∧ OptP w' 249 p l ∧ Ch (fun _ => False) w w' := by
  match l, h, hl with
  | [], _, _ =>
    go_enter Tryz.func112, Tryz.ntmps112
    go_wp2
    refine bodyPost_ret (v := .pointer none) (by simp [results, Tryz.results112]) rfl ?_
    exact ⟨_, rfl, rfl, Ch.refl _ _⟩
  | [s], h, _ =>
    obtain ⟨b, o, rfl, hc⟩ := h 0 s rfl
    have c0 : w.cell? ⟨b, o, none⟩ = some (.string s) := by simpa using hc 0 _ rfl
    have hcx : Ch (fun _ => False) w (w.alloc (.cells #[.string s] 249)) := Ch.grown (World.grownBy_alloc _ _ none) (by simp)
    have hb : (w.alloc (.cells #[.string s] 249)).heap[w.heap.size]? = some (.cells #[.string s] 249 (0, 0)) := heap_alloc_new w _
    have HX := Lib.hid hcx
    have HB := Lib.hid hb
    clear h hc hcx hb
    go_enter Tryz.func112, Tryz.ntmps112
    go_wp2
    refine bodyPost_ret (v := .pointer (some ⟨w.heap.size, 0, none⟩)) (by simp [results, Tryz.results112]) rfl ?_
    exact ⟨_, rfl, ⟨_, rfl, HB.out⟩, HX.out⟩

theorem attr_l {A : Option Addr} {c : Nat} {l : List ByteArray} {w : World} (h : Lst w 1 strC A l) (hl : l.length ≤ 1) : Calls Tryz.prog 123 #[.slice A l.length c] w fun e w' => ∃ p, e = .returned (.pointer p) ∧ OptP w' 9 p l ∧ Ch (fun _ => False) w w' := by
  match l, h, hl with
  | [], _, _ =>
    go_enter Tryz.func123, Tryz.ntmps123
    go_wp2
    refine bodyPost_ret (v := .pointer none) (by simp [results, Tryz.results123]) rfl ?_
    exact ⟨_, rfl, rfl, Ch.refl _ _⟩
  | [s], h, _ =>
    obtain ⟨b, o, rfl, hc⟩ := h 0 s rfl
    have c0 : w.cell? ⟨b, o, none⟩ = some (.string s) := by simpa using hc 0 _ rfl
    have hcx : Ch (fun _ => False) w (w.alloc (.cells #[.string s] 9)) := Ch.grown (World.grownBy_alloc _ _ none) (by simp)
    have hb : (w.alloc (.cells #[.string s] 9)).heap[w.heap.size]? = some (.cells #[.string s] 9 (0, 0)) := heap_alloc_new w _
    have HX := Lib.hid hcx
    have HB := Lib.hid hb
    clear h hc hcx hb
    go_enter Tryz.func123, Tryz.ntmps123
    go_wp2
    refine bodyPost_ret (v := .pointer (some ⟨w.heap.size, 0, none⟩)) (by simp [results, Tryz.results123]) rfl ?_
    exact ⟨_, rfl, ⟨_, rfl, HB.out⟩, HX.out⟩

theorem urls_l {p : Option Addr} {l : List ByteArray} {w : World} (h : OptP w 249 p l) (hl : l.length ≤ 1) : Calls Tryz.prog 78 #[.pointer p] w fun e w' => ∃ A c, e = .returned (.slice A l.length c) ∧ Lst w' 1 strC A l ∧ (∀ a, A = some a → w.heap.size ≤ a.block) ∧ Ch (fun _ => False) w w' := by
  match l, h, hl with
  | [], h, _ =>
    obtain rfl : p = none := h
    go_enter Tryz.func78, Tryz.ntmps78
    go_wp2
    refine bodyPost_ret (v := .slice none 0 0) (by simp [results, Tryz.results78]) rfl ?_
    exact ⟨_, _, rfl, fun k a ha => (by simp at ha), fun a ha => (by cases ha), Ch.refl _ _⟩
  | [s], h, _ =>
    obtain ⟨b, rfl, hb⟩ := h
    have c0 : w.cell? ⟨b, 0, none⟩ = some (.string s) := blk_cell hb rfl
    have hcx : Ch (fun _ => False) w (w.alloc (.cells #[.string s] 9)) := Ch.grown (World.grownBy_alloc _ _ none) (by simp)
    have hn : (w.alloc (.cells #[.string s] 9)).heap[w.heap.size]? = some (.cells #[.string s] 9 (0, 0)) := heap_alloc_new w _
    have HX := Lib.hid hcx
    have HN := Lib.hid hn
    clear hb hcx hn h
    go_enter Tryz.func78, Tryz.ntmps78
    go_wp2
    refine bodyPost_ret (v := .slice (some ⟨w.heap.size, 0, none⟩) 1 1) (by simp [results, Tryz.results78]) rfl ?_
    exact ⟨_, _, rfl, lst_block (size := 1) (f := strC) (l := [s]) (fun _ => rfl) HN.out rfl, fun a ha => (by cases ha; exact Nat.le_refl _), HX.out⟩

theorem texts_l {p : Option Addr} {l : List ByteArray} {w : World} (h : OptP w 9 p l) (hl : l.length ≤ 1) : Calls Tryz.prog 79 #[.pointer p] w fun e w' => ∃ A c, e = .returned (.slice A l.length c) ∧ Lst w' 1 strC A l ∧ (∀ a, A = some a → w.heap.size ≤ a.block) ∧ Ch (fun _ => False) w w' := by
  match l, h, hl with
  | [], h, _ =>
    obtain rfl : p = none := h
    go_enter Tryz.func79, Tryz.ntmps79
    go_wp2
    refine bodyPost_ret (v := .slice none 0 0) (by simp [results, Tryz.results79]) rfl ?_
    exact ⟨_, _, rfl, fun k a ha => (by simp at ha), fun a ha => (by cases ha), Ch.refl _ _⟩
  | [s], h, _ =>
    obtain ⟨b, rfl, hb⟩ := h
    have c0 : w.cell? ⟨b, 0, none⟩ = some (.string s) := blk_cell hb rfl
    have hcx : Ch (fun _ => False) w (w.alloc (.cells #[.string s] 9)) := Ch.grown (World.grownBy_alloc _ _ none) (by simp)
    have hn : (w.alloc (.cells #[.string s] 9)).heap[w.heap.size]? = some (.cells #[.string s] 9 (0, 0)) := heap_alloc_new w _
    have HX := Lib.hid hcx
    have HN := Lib.hid hn
    clear hb hcx hn h
    go_enter Tryz.func79, Tryz.ntmps79
    go_wp2
    refine bodyPost_ret (v := .slice (some ⟨w.heap.size, 0, none⟩) 1 1) (by simp [results, Tryz.results79]) rfl ?_
    exact ⟨_, _, rfl, lst_block (size := 1) (f := strC) (l := [s]) (fun _ => rfl) HN.out rfl, fun a ha => (by cases ha; exact Nat.le_refl _), HX.out⟩

end Go.Proofs.YtimonhimfioohaaGreatDoor
