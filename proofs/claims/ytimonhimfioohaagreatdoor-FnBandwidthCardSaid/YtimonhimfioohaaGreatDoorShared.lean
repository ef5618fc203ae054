/- spec.shared at one bandwidth. -/
import Derived.Test.YtimonhimfioohaaGreatDoorLines
namespace Go.Proofs.YtimonhimfioohaaGreatDoor
open Go.RowKit

/-- What the region's slots hold. -/
def sharedT (B L : Nat) (pre t : ByteArray) (n : Nat) (d : Nat) (v : Value) (W : World) : Prop :=
  (d = 76 → v = .slice none 0 0) ∧ (d = 77 → v = .string pre) ∧ (d = 78 → v = .pointer (some ⟨B, 1, none⟩)) ∧ (d = 79 → v = .string t) ∧ (d = 80 → v = .string (pre ++ t)) ∧ (d = 81 → v = .string (pre ++ t ++ ⟨#[58]⟩)) ∧
  (d = 82 → v = .pointer (some ⟨B, 2, none⟩)) ∧ (d = 83 → v = .int .u64 n) ∧ (d = 84 → v = .string ⟨(Lib.decDigits n).toArray⟩) ∧ (d = 85 → v = .string (pre ++ t ++ ⟨#[58]⟩ ++ ⟨(Lib.decDigits n).toArray⟩)) ∧
  (d = 86 → ∃ k, v = .slice (some ⟨k, 0, none⟩) 1 1 ∧ L ≤ k ∧ W.heap[k]? = some (.cells #[.string (pre ++ t ++ ⟨#[58]⟩ ++ ⟨(Lib.decDigits n).toArray⟩)] 9 (0, 0))) ∧
  (d = 87 → ∃ h cap, v = .slice (some ⟨h, 0, none⟩) 1 cap ∧ W.ownsRow L 9 1 v 1 [.string (pre ++ t ++ ⟨#[58]⟩ ++ ⟨(Lib.decDigits n).toArray⟩)])

theorem owns_ch {w w' : World} {b e size n : Nat} {v : Value} {xs : List Value} (h : w.ownsRow b e size v n xs) (hc : Ch (fun _ => False) w w') : w'.ownsRow b e size v n xs := by
  refine ⟨h.1, h.2.imp id ?_⟩
  rintro ⟨g, cap, cur, h1, h2, h3, h4⟩
  exact ⟨g, cap, cur, h1, h2, (hc.block g (blk_lt h3) id).trans h3, h4⟩

theorem sharedT_stays {B L : Nat} {pre t : ByteArray} {n d : Nat} {v : Value} {W W' : World} (h : sharedT B L pre t n d v W) (hc : Ch (fun _ => False) W W') : sharedT B L pre t n d v W' := by
  obtain ⟨a1, a2, a3, a4, a5, a6, a7, a8, a9, a10, a11, a12⟩ := h
  refine ⟨a1, a2, a3, a4, a5, a6, a7, a8, a9, a10, fun hd => ?_, fun hd => ?_⟩
  · obtain ⟨k, h1, h2, h3⟩ := a11 hd
    exact ⟨k, h1, h2, (hc.block k (blk_lt h3) id).trans h3⟩
  · obtain ⟨h, cap, h1, h2⟩ := a12 hd
    exact ⟨h, cap, h1, owns_ch h2 hc⟩

set_option maxRecDepth 100000 in
theorem shared_frame (x0 x1 x2 x3 x4 x5 x6 x7 x8 x9 x10 x11 x12 x13 x14 x15 x16 x17 x18 x19 x20 x21 x22 x23 x24 x25 x26 x27 x28 x29 x30 x31 x32 x33 x34 x35 x36 x37 x38 x39 x40 x41 x42 x43 x44 x45 x46 x47 x48 x49 x50 x51 x52 x53 x54 x55 x56 x57 x58 x59 x60 x61 x62 x63 x64 x65 x66 x67 x68 x69 x70 x71 x72 x73 x74 x75 x76 x77 x78 x79 x80 x81 x82 x83 x84 x85 x86 x87 x88 x89 : Value) (d : List Deferred) (u : Nat → Value) : frameOf ⟨#[x0, x1, x2, x3, x4, x5, x6, x7, x8, x9, x10, x11, x12, x13, x14, x15, x16, x17, x18, x19, x20, x21, x22, x23, x24, x25, x26, x27, x28, x29, x30, x31, x32, x33, x34, x35, x36, x37, x38, x39, x40, x41, x42, x43, x44, x45, x46, x47, x48, x49, x50, x51, x52, x53, x54, x55, x56, x57, x58, x59, x60, x61, x62, x63, x64, x65, x66, x67, x68, x69, x70, x71, x72, x73, x74, x75, x76, x77, x78, x79, x80, x81, x82, x83, x84, x85, x86, x87, x88, x89], d⟩ [76, 77, 78, 79, 80, 81, 82, 83, 84, 85, 86, 87] u = ⟨#[x0, x1, x2, x3, x4, x5, x6, x7, x8, x9, x10, x11, x12, x13, x14, x15, x16, x17, x18, x19, x20, x21, x22, x23, x24, x25, x26, x27, x28, x29, x30, x31, x32, x33, x34, x35, x36, x37, x38, x39, x40, x41, x42, x43, x44, x45, x46, x47, x48, x49, x50, x51, x52, x53, x54, x55, x56, x57, x58, x59, x60, x61, x62, x63, x64, x65, x66, x67, x68, x69, x70, x71, x72, x73, x74, x75, u 76, u 77, u 78, u 79, u 80, u 81, u 82, u 83, u 84, u 85, u 86, u 87, x88, x89], d⟩ := by kernel_rfl

set_option maxRecDepth 100000 in
set_option maxHeartbeats 4000000 in
theorem shared_one {x : Bool} {t : ByteArray} {n g c : Nat} {w : World} (ht : t.size ≤ 4294967295) (hn : n < 1125899906842624) (hg : w.heap[g]? = some (.cells #[.bool x, .string t, .int .u64 n] 47 (0, 0))) :
    Calls Tryz.prog 53 #[.slice none 0 0, .slice (some ⟨g, 0, none⟩) 1 c] w fun e w' => ∃ h cap, e = .returned (.slice (some ⟨h, 0, none⟩) 1 cap) ∧ w'.ownsRow w.heap.size 9 1 (.slice (some ⟨h, 0, none⟩) 1 cap) 1 [.string ⟨(bandLine x t n).toArray⟩] ∧ Ch (fun _ => False) w w' := by
  have c0 : w.cell? ⟨g, 0, none⟩ = some (.bool x) := blk_cell hg rfl
  have c1 : w.cell? ⟨g, 1, none⟩ = some (.string t) := blk_cell hg rfl
  have c2 : w.cell? ⟨g, 2, none⟩ = some (.int .u64 n) := blk_cell hg rfl
  have hn64 := Lib.hid (show n < 18446744073709551616 by omega)
  clear hn
  go_enter Tryz.func53, Tryz.ntmps53
  go_wp2
  refine wp_loop_rounds 1 ?_
  rw [rounds_succ]
  go_wp2
  refine wp_loop_rounds 2 ?_
  rw [rounds_succ]
  have hBb0 : (w.alloc (.cells #[.bool x, .string t, .int .u64 n] 47)).heap[w.heap.size]? = some (.cells #[.bool x, .string t, .int .u64 n] 47 (0, 0)) := heap_alloc_new w _
  have hc0 : Ch (fun _ => False) w (w.alloc (.cells #[.bool x, .string t, .int .u64 n] 47)) := Ch.grown (World.grownBy_alloc _ _ none) (by simp)
  have HB0 := Lib.hid hBb0
  have HC0 := Lib.hid hc0
  clear hBb0 hc0
  cases x
  all_goals
    go_wp2_with fail
  · generalize hp : (ByteArray.mk #[98, 61]) = pre
    have hps : pre.size ≤ 4 := by rw [← hp]; decide
    generalize hB : w.heap.size = B at *
    generalize (w.alloc (.cells #[.bool false, .string t, .int .u64 n] 47)) = W1 at *
    refine wp_region_ops (by kernel_rfl) [76, 77, 78, 79, 80, 81, 82, 83, 84, 85, 86, 87] 12 (by kernel_rfl) (by kernel_rfl) (by kernel_rfl) (sharedT B B pre t n) (Ch (fun _ => False)) (Ch.refl _) (fun _ _ _ => Ch.trans) (fun _ _ _ _ => sharedT_stays) ?_ ?_
    · intro i o hi ho A W' hR hr hx K hK
      have hBb : W'.heap[B]? = some (.cells #[.bool false, .string t, .int .u64 n] 47 (0, 0)) := (hR.block B (blk_lt HB0.out) id).trans HB0.out
      have hLW : B ≤ W'.heap.size := Nat.le_of_lt (blk_lt hBb)
      clear hR
      have hlen : (Lib.decDigits n).length ≤ 20 := dec_len 19 n (Nat.lt_of_lt_of_le hn64.out (by decide))
      have z1 : (pre ++ t).size = pre.size + t.size := ByteArray.size_append
      have z2 : (pre ++ t ++ ⟨#[58]⟩).size = (pre ++ t).size + 1 := ByteArray.size_append
      have z3 : (pre ++ t ++ ⟨#[58]⟩ ++ ⟨(Lib.decDigits n).toArray⟩).size = (pre ++ t ++ ⟨#[58]⟩).size + (ByteArray.mk (Lib.decDigits n).toArray).size := ByteArray.size_append
      exact match i, hi, ho with
      | 0, _, ho => by
        obtain rfl := Option.some.inj ho
        have e5 : A.tmps[5]?.getD undef = .slice none 0 0 := (eval_getD A 5).symm.trans (hx 5 (by decide))
        unfold Oper.wp execOp
        go_simp
        exact hK _ _ (fun d hd => by cases hd; exact ⟨fun _ => rfl, fun h => absurd h (by decide), fun h => absurd h (by decide), fun h => absurd h (by decide), fun h => absurd h (by decide), fun h => absurd h (by decide), fun h => absurd h (by decide), fun h => absurd h (by decide), fun h => absurd h (by decide), fun h => absurd h (by decide), fun h => absurd h (by decide), fun h => absurd h (by decide)⟩) (Ch.refl _ _)
      | 1, _, ho => by
        obtain rfl := Option.some.inj ho
        have e15 : A.tmps[15]?.getD undef = .string pre := (eval_getD A 15).symm.trans (hx 15 (by decide))
        unfold Oper.wp execOp
        go_simp
        exact hK _ _ (fun d hd => by cases hd; exact ⟨fun h => absurd h (by decide), fun _ => rfl, fun h => absurd h (by decide), fun h => absurd h (by decide), fun h => absurd h (by decide), fun h => absurd h (by decide), fun h => absurd h (by decide), fun h => absurd h (by decide), fun h => absurd h (by decide), fun h => absurd h (by decide), fun h => absurd h (by decide), fun h => absurd h (by decide)⟩) (Ch.refl _ _)
      | 2, _, ho => by
        obtain rfl := Option.some.inj ho
        have e14 : A.tmps[14]?.getD undef = .pointer (some ⟨B, 0, none⟩) := (eval_getD A 14).symm.trans (hx 14 (by decide))
        unfold Oper.wp execOp
        go_simp
        exact hK _ _ (fun d hd => by cases hd; exact ⟨fun h => absurd h (by decide), fun h => absurd h (by decide), fun _ => rfl, fun h => absurd h (by decide), fun h => absurd h (by decide), fun h => absurd h (by decide), fun h => absurd h (by decide), fun h => absurd h (by decide), fun h => absurd h (by decide), fun h => absurd h (by decide), fun h => absurd h (by decide), fun h => absurd h (by decide)⟩) (Ch.refl _ _)
      | 3, _, ho => by
        obtain rfl := Option.some.inj ho
        have e78 : A.tmps[78]?.getD undef = .pointer (some ⟨B, 1, none⟩) := (eval_getD A 78).symm.trans ((hr 78 (by decide) (by decide)).2.2.1 rfl)
        have c : W'.cell? ⟨B, 1, none⟩ = some (.string t) := blk_cell hBb rfl
        unfold Oper.wp execOp
        go_simp
        exact hK _ _ (fun d hd => by cases hd; exact ⟨fun h => absurd h (by decide), fun h => absurd h (by decide), fun h => absurd h (by decide), fun _ => rfl, fun h => absurd h (by decide), fun h => absurd h (by decide), fun h => absurd h (by decide), fun h => absurd h (by decide), fun h => absurd h (by decide), fun h => absurd h (by decide), fun h => absurd h (by decide), fun h => absurd h (by decide)⟩) (Ch.refl _ _)
      | 4, _, ho => by
        obtain rfl := Option.some.inj ho
        have e77 : A.tmps[77]?.getD undef = .string pre := (eval_getD A 77).symm.trans ((hr 77 (by decide) (by decide)).2.1 rfl)
        have e79 : A.tmps[79]?.getD undef = .string t := (eval_getD A 79).symm.trans ((hr 79 (by decide) (by decide)).2.2.2.1 rfl)
        unfold Oper.wp execOp
        go_simp
        rw [if_neg (by omega)]
        exact hK _ _ (fun d hd => by cases hd; exact ⟨fun h => absurd h (by decide), fun h => absurd h (by decide), fun h => absurd h (by decide), fun h => absurd h (by decide), fun _ => rfl, fun h => absurd h (by decide), fun h => absurd h (by decide), fun h => absurd h (by decide), fun h => absurd h (by decide), fun h => absurd h (by decide), fun h => absurd h (by decide), fun h => absurd h (by decide)⟩) (Ch.refl _ _)
      | 5, _, ho => by
        obtain rfl := Option.some.inj ho
        have e80 : A.tmps[80]?.getD undef = .string (pre ++ t) := (eval_getD A 80).symm.trans ((hr 80 (by decide) (by decide)).2.2.2.2.1 rfl)
        unfold Oper.wp execOp
        go_simp
        rw [if_neg (by omega)]
        exact hK _ _ (fun d hd => by cases hd; exact ⟨fun h => absurd h (by decide), fun h => absurd h (by decide), fun h => absurd h (by decide), fun h => absurd h (by decide), fun h => absurd h (by decide), fun _ => rfl, fun h => absurd h (by decide), fun h => absurd h (by decide), fun h => absurd h (by decide), fun h => absurd h (by decide), fun h => absurd h (by decide), fun h => absurd h (by decide)⟩) (Ch.refl _ _)
      | 6, _, ho => by
        obtain rfl := Option.some.inj ho
        have e14 : A.tmps[14]?.getD undef = .pointer (some ⟨B, 0, none⟩) := (eval_getD A 14).symm.trans (hx 14 (by decide))
        unfold Oper.wp execOp
        go_simp
        exact hK _ _ (fun d hd => by cases hd; exact ⟨fun h => absurd h (by decide), fun h => absurd h (by decide), fun h => absurd h (by decide), fun h => absurd h (by decide), fun h => absurd h (by decide), fun h => absurd h (by decide), fun _ => rfl, fun h => absurd h (by decide), fun h => absurd h (by decide), fun h => absurd h (by decide), fun h => absurd h (by decide), fun h => absurd h (by decide)⟩) (Ch.refl _ _)
      | 7, _, ho => by
        obtain rfl := Option.some.inj ho
        have e82 : A.tmps[82]?.getD undef = .pointer (some ⟨B, 2, none⟩) := (eval_getD A 82).symm.trans ((hr 82 (by decide) (by decide)).2.2.2.2.2.2.1 rfl)
        have c : W'.cell? ⟨B, 2, none⟩ = some (.int .u64 n) := blk_cell hBb rfl
        unfold Oper.wp execOp
        go_simp
        exact hK _ _ (fun d hd => by cases hd; exact ⟨fun h => absurd h (by decide), fun h => absurd h (by decide), fun h => absurd h (by decide), fun h => absurd h (by decide), fun h => absurd h (by decide), fun h => absurd h (by decide), fun h => absurd h (by decide), fun _ => rfl, fun h => absurd h (by decide), fun h => absurd h (by decide), fun h => absurd h (by decide), fun h => absurd h (by decide)⟩) (Ch.refl _ _)
      | 8, _, ho => by
        obtain rfl := Option.some.inj ho
        have e83 : A.tmps[83]?.getD undef = .int .u64 n := (eval_getD A 83).symm.trans ((hr 83 (by decide) (by decide)).2.2.2.2.2.2.2.1 rfl)
        unfold Oper.wp execOp
        go_simp
        (go_at_call 29; refine (decimal_ok n hn64.out _).mono ?_; rintro e W2 ⟨rfl, hc2⟩)
        exact hK _ _ (fun d hd => by cases hd; exact ⟨fun h => absurd h (by decide), fun h => absurd h (by decide), fun h => absurd h (by decide), fun h => absurd h (by decide), fun h => absurd h (by decide), fun h => absurd h (by decide), fun h => absurd h (by decide), fun h => absurd h (by decide), fun _ => rfl, fun h => absurd h (by decide), fun h => absurd h (by decide), fun h => absurd h (by decide)⟩) hc2
      | 9, _, ho => by
        obtain rfl := Option.some.inj ho
        have e81 : A.tmps[81]?.getD undef = .string (pre ++ t ++ ⟨#[58]⟩) := (eval_getD A 81).symm.trans ((hr 81 (by decide) (by decide)).2.2.2.2.2.1 rfl)
        have e84 : A.tmps[84]?.getD undef = .string ⟨(Lib.decDigits n).toArray⟩ := (eval_getD A 84).symm.trans ((hr 84 (by decide) (by decide)).2.2.2.2.2.2.2.2.1 rfl)
        unfold Oper.wp execOp
        go_simp
        rw [if_neg (by omega)]
        exact hK _ _ (fun d hd => by cases hd; exact ⟨fun h => absurd h (by decide), fun h => absurd h (by decide), fun h => absurd h (by decide), fun h => absurd h (by decide), fun h => absurd h (by decide), fun h => absurd h (by decide), fun h => absurd h (by decide), fun h => absurd h (by decide), fun h => absurd h (by decide), fun _ => rfl, fun h => absurd h (by decide), fun h => absurd h (by decide)⟩) (Ch.refl _ _)
      | 10, _, ho => by
        obtain rfl := Option.some.inj ho
        have e85 : A.tmps[85]?.getD undef = .string (pre ++ t ++ ⟨#[58]⟩ ++ ⟨(Lib.decDigits n).toArray⟩) := (eval_getD A 85).symm.trans ((hr 85 (by decide) (by decide)).2.2.2.2.2.2.2.2.2.1 rfl)
        unfold Oper.wp execOp
        go_simp
        exact hK _ _ (fun d hd => by cases hd; exact ⟨fun h => absurd h (by decide), fun h => absurd h (by decide), fun h => absurd h (by decide), fun h => absurd h (by decide), fun h => absurd h (by decide), fun h => absurd h (by decide), fun h => absurd h (by decide), fun h => absurd h (by decide), fun h => absurd h (by decide), fun h => absurd h (by decide), fun _ => ⟨_, rfl, hLW, heap_alloc_new _ _⟩, fun h => absurd h (by decide)⟩) (Ch.grown (World.grownBy_alloc _ _ none) (by simp))
      | 11, _, ho => by
        obtain rfl := Option.some.inj ho
        obtain ⟨k, hk1, hk2, hk3⟩ := (hr 86 (by decide) (by decide)).2.2.2.2.2.2.2.2.2.2.1 rfl
        have h76 := (hr 76 (by decide) (by decide)).1 rfl
        obtain ⟨i0, hi0, hz0, hz1, hz2⟩ := info_parts Tryz.info9
        refine wp_append_lies _ (.tmp 76) (.tmp 86) 28 rfl B 9 i0 _ 1 16 Tryz.underlying28 hi0 hz0 hz1 hz2 rfl (by decide) (.slice none 0 0) 0 [] h76 (World.ownsRow_nil _ _ _ _) ⟨k, 0, none⟩ 1 1 [.string (pre ++ t ++ ⟨#[58]⟩ ++ ⟨(Lib.decDigits n).toArray⟩)] hk1 rfl (World.news_of_block hk3) (by simp [Value.oneCell']) (by decide) (by decide) (by decide) hLW _ rfl ?_
        intro g1 cap1 W2 hown1 hgrow1 hat1 hlt1
        exact hK _ _ (fun d hd => by cases hd; exact ⟨fun h => absurd h (by decide), fun h => absurd h (by decide), fun h => absurd h (by decide), fun h => absurd h (by decide), fun h => absurd h (by decide), fun h => absurd h (by decide), fun h => absurd h (by decide), fun h => absurd h (by decide), fun h => absurd h (by decide), fun h => absurd h (by decide), fun h => absurd h (by decide), fun _ => ⟨g1, cap1, rfl, hown1⟩⟩) (Ch.grown (S := fun _ => False) hgrow1 (by simp [Value.ownBlock]))
      | n + 12, hi, _ => absurd hi (by omega)
    · intro o ho u W' hR hu
      obtain rfl := Option.some.inj ho
      obtain ⟨h1, cap1, hv, hown⟩ := (hu 87 (by decide)).2.2.2.2.2.2.2.2.2.2.2 rfl
      have HCh := Lib.hid (HC0.out.trans ((Ch.of_heap (Ch.refl _ W1) (w' := W1.drew) rfl rfl rfl rfl).trans hR))
      have HO := Lib.hid (show W'.ownsRow B 9 1 (.slice (some ⟨h1, 0, none⟩) 1 cap1) 1 [.string ⟨(bandLine false t n).toArray⟩] by
        rw [hv] at hown
        have e : (pre ++ t ++ ⟨#[58]⟩ ++ ⟨(Lib.decDigits n).toArray⟩ : ByteArray) = ⟨(bandLine false t n).toArray⟩ := by
          rw [← hp]
          apply ByteArray.ext
          apply Array.ext'
          simp [bandLine, ByteArray.data_append]
        rw [e] at hown
        exact hown)
      clear hown hR hu
      rw [shared_frame, hv]
      unfold Oper.wp execOp
      go_simp
      go_wp2
      rw [rounds_succ]
      go_wp2
      refine bodyPost_ret (v := .slice (some ⟨h1, 0, none⟩) 1 cap1) (by simp [results, Tryz.results53]) rfl ?_
      refine ⟨h1, cap1, rfl, ?_, HCh.out⟩
      rw [hB]
      exact HO.out
  · generalize hp : (ByteArray.mk #[98, 61] ++ ByteArray.mk #[88, 45]) = pre
    have hps : pre.size ≤ 4 := by rw [← hp]; decide
    generalize hB : w.heap.size = B at *
    generalize (w.alloc (.cells #[.bool true, .string t, .int .u64 n] 47)) = W1 at *
    refine wp_region_ops (by kernel_rfl) [76, 77, 78, 79, 80, 81, 82, 83, 84, 85, 86, 87] 12 (by kernel_rfl) (by kernel_rfl) (by kernel_rfl) (sharedT B B pre t n) (Ch (fun _ => False)) (Ch.refl _) (fun _ _ _ => Ch.trans) (fun _ _ _ _ => sharedT_stays) ?_ ?_
    · intro i o hi ho A W' hR hr hx K hK
      have hBb : W'.heap[B]? = some (.cells #[.bool true, .string t, .int .u64 n] 47 (0, 0)) := (hR.block B (blk_lt HB0.out) id).trans HB0.out
      have hLW : B ≤ W'.heap.size := Nat.le_of_lt (blk_lt hBb)
      clear hR
      have hlen : (Lib.decDigits n).length ≤ 20 := dec_len 19 n (Nat.lt_of_lt_of_le hn64.out (by decide))
      have z1 : (pre ++ t).size = pre.size + t.size := ByteArray.size_append
      have z2 : (pre ++ t ++ ⟨#[58]⟩).size = (pre ++ t).size + 1 := ByteArray.size_append
      have z3 : (pre ++ t ++ ⟨#[58]⟩ ++ ⟨(Lib.decDigits n).toArray⟩).size = (pre ++ t ++ ⟨#[58]⟩).size + (ByteArray.mk (Lib.decDigits n).toArray).size := ByteArray.size_append
      exact match i, hi, ho with
      | 0, _, ho => by
        obtain rfl := Option.some.inj ho
        have e5 : A.tmps[5]?.getD undef = .slice none 0 0 := (eval_getD A 5).symm.trans (hx 5 (by decide))
        unfold Oper.wp execOp
        go_simp
        exact hK _ _ (fun d hd => by cases hd; exact ⟨fun _ => rfl, fun h => absurd h (by decide), fun h => absurd h (by decide), fun h => absurd h (by decide), fun h => absurd h (by decide), fun h => absurd h (by decide), fun h => absurd h (by decide), fun h => absurd h (by decide), fun h => absurd h (by decide), fun h => absurd h (by decide), fun h => absurd h (by decide), fun h => absurd h (by decide)⟩) (Ch.refl _ _)
      | 1, _, ho => by
        obtain rfl := Option.some.inj ho
        have e15 : A.tmps[15]?.getD undef = .string pre := (eval_getD A 15).symm.trans (hx 15 (by decide))
        unfold Oper.wp execOp
        go_simp
        exact hK _ _ (fun d hd => by cases hd; exact ⟨fun h => absurd h (by decide), fun _ => rfl, fun h => absurd h (by decide), fun h => absurd h (by decide), fun h => absurd h (by decide), fun h => absurd h (by decide), fun h => absurd h (by decide), fun h => absurd h (by decide), fun h => absurd h (by decide), fun h => absurd h (by decide), fun h => absurd h (by decide), fun h => absurd h (by decide)⟩) (Ch.refl _ _)
      | 2, _, ho => by
        obtain rfl := Option.some.inj ho
        have e14 : A.tmps[14]?.getD undef = .pointer (some ⟨B, 0, none⟩) := (eval_getD A 14).symm.trans (hx 14 (by decide))
        unfold Oper.wp execOp
        go_simp
        exact hK _ _ (fun d hd => by cases hd; exact ⟨fun h => absurd h (by decide), fun h => absurd h (by decide), fun _ => rfl, fun h => absurd h (by decide), fun h => absurd h (by decide), fun h => absurd h (by decide), fun h => absurd h (by decide), fun h => absurd h (by decide), fun h => absurd h (by decide), fun h => absurd h (by decide), fun h => absurd h (by decide), fun h => absurd h (by decide)⟩) (Ch.refl _ _)
      | 3, _, ho => by
        obtain rfl := Option.some.inj ho
        have e78 : A.tmps[78]?.getD undef = .pointer (some ⟨B, 1, none⟩) := (eval_getD A 78).symm.trans ((hr 78 (by decide) (by decide)).2.2.1 rfl)
        have c : W'.cell? ⟨B, 1, none⟩ = some (.string t) := blk_cell hBb rfl
        unfold Oper.wp execOp
        go_simp
        exact hK _ _ (fun d hd => by cases hd; exact ⟨fun h => absurd h (by decide), fun h => absurd h (by decide), fun h => absurd h (by decide), fun _ => rfl, fun h => absurd h (by decide), fun h => absurd h (by decide), fun h => absurd h (by decide), fun h => absurd h (by decide), fun h => absurd h (by decide), fun h => absurd h (by decide), fun h => absurd h (by decide), fun h => absurd h (by decide)⟩) (Ch.refl _ _)
      | 4, _, ho => by
        obtain rfl := Option.some.inj ho
        have e77 : A.tmps[77]?.getD undef = .string pre := (eval_getD A 77).symm.trans ((hr 77 (by decide) (by decide)).2.1 rfl)
        have e79 : A.tmps[79]?.getD undef = .string t := (eval_getD A 79).symm.trans ((hr 79 (by decide) (by decide)).2.2.2.1 rfl)
        unfold Oper.wp execOp
        go_simp
        rw [if_neg (by omega)]
        exact hK _ _ (fun d hd => by cases hd; exact ⟨fun h => absurd h (by decide), fun h => absurd h (by decide), fun h => absurd h (by decide), fun h => absurd h (by decide), fun _ => rfl, fun h => absurd h (by decide), fun h => absurd h (by decide), fun h => absurd h (by decide), fun h => absurd h (by decide), fun h => absurd h (by decide), fun h => absurd h (by decide), fun h => absurd h (by decide)⟩) (Ch.refl _ _)
      | 5, _, ho => by
        obtain rfl := Option.some.inj ho
        have e80 : A.tmps[80]?.getD undef = .string (pre ++ t) := (eval_getD A 80).symm.trans ((hr 80 (by decide) (by decide)).2.2.2.2.1 rfl)
        unfold Oper.wp execOp
        go_simp
        rw [if_neg (by omega)]
        exact hK _ _ (fun d hd => by cases hd; exact ⟨fun h => absurd h (by decide), fun h => absurd h (by decide), fun h => absurd h (by decide), fun h => absurd h (by decide), fun h => absurd h (by decide), fun _ => rfl, fun h => absurd h (by decide), fun h => absurd h (by decide), fun h => absurd h (by decide), fun h => absurd h (by decide), fun h => absurd h (by decide), fun h => absurd h (by decide)⟩) (Ch.refl _ _)
      | 6, _, ho => by
        obtain rfl := Option.some.inj ho
        have e14 : A.tmps[14]?.getD undef = .pointer (some ⟨B, 0, none⟩) := (eval_getD A 14).symm.trans (hx 14 (by decide))
        unfold Oper.wp execOp
        go_simp
        exact hK _ _ (fun d hd => by cases hd; exact ⟨fun h => absurd h (by decide), fun h => absurd h (by decide), fun h => absurd h (by decide), fun h => absurd h (by decide), fun h => absurd h (by decide), fun h => absurd h (by decide), fun _ => rfl, fun h => absurd h (by decide), fun h => absurd h (by decide), fun h => absurd h (by decide), fun h => absurd h (by decide), fun h => absurd h (by decide)⟩) (Ch.refl _ _)
      | 7, _, ho => by
        obtain rfl := Option.some.inj ho
        have e82 : A.tmps[82]?.getD undef = .pointer (some ⟨B, 2, none⟩) := (eval_getD A 82).symm.trans ((hr 82 (by decide) (by decide)).2.2.2.2.2.2.1 rfl)
        have c : W'.cell? ⟨B, 2, none⟩ = some (.int .u64 n) := blk_cell hBb rfl
        unfold Oper.wp execOp
        go_simp
        exact hK _ _ (fun d hd => by cases hd; exact ⟨fun h => absurd h (by decide), fun h => absurd h (by decide), fun h => absurd h (by decide), fun h => absurd h (by decide), fun h => absurd h (by decide), fun h => absurd h (by decide), fun h => absurd h (by decide), fun _ => rfl, fun h => absurd h (by decide), fun h => absurd h (by decide), fun h => absurd h (by decide), fun h => absurd h (by decide)⟩) (Ch.refl _ _)
      | 8, _, ho => by
        obtain rfl := Option.some.inj ho
        have e83 : A.tmps[83]?.getD undef = .int .u64 n := (eval_getD A 83).symm.trans ((hr 83 (by decide) (by decide)).2.2.2.2.2.2.2.1 rfl)
        unfold Oper.wp execOp
        go_simp
        (go_at_call 29; refine (decimal_ok n hn64.out _).mono ?_; rintro e W2 ⟨rfl, hc2⟩)
        exact hK _ _ (fun d hd => by cases hd; exact ⟨fun h => absurd h (by decide), fun h => absurd h (by decide), fun h => absurd h (by decide), fun h => absurd h (by decide), fun h => absurd h (by decide), fun h => absurd h (by decide), fun h => absurd h (by decide), fun h => absurd h (by decide), fun _ => rfl, fun h => absurd h (by decide), fun h => absurd h (by decide), fun h => absurd h (by decide)⟩) hc2
      | 9, _, ho => by
        obtain rfl := Option.some.inj ho
        have e81 : A.tmps[81]?.getD undef = .string (pre ++ t ++ ⟨#[58]⟩) := (eval_getD A 81).symm.trans ((hr 81 (by decide) (by decide)).2.2.2.2.2.1 rfl)
        have e84 : A.tmps[84]?.getD undef = .string ⟨(Lib.decDigits n).toArray⟩ := (eval_getD A 84).symm.trans ((hr 84 (by decide) (by decide)).2.2.2.2.2.2.2.2.1 rfl)
        unfold Oper.wp execOp
        go_simp
        rw [if_neg (by omega)]
        exact hK _ _ (fun d hd => by cases hd; exact ⟨fun h => absurd h (by decide), fun h => absurd h (by decide), fun h => absurd h (by decide), fun h => absurd h (by decide), fun h => absurd h (by decide), fun h => absurd h (by decide), fun h => absurd h (by decide), fun h => absurd h (by decide), fun h => absurd h (by decide), fun _ => rfl, fun h => absurd h (by decide), fun h => absurd h (by decide)⟩) (Ch.refl _ _)
      | 10, _, ho => by
        obtain rfl := Option.some.inj ho
        have e85 : A.tmps[85]?.getD undef = .string (pre ++ t ++ ⟨#[58]⟩ ++ ⟨(Lib.decDigits n).toArray⟩) := (eval_getD A 85).symm.trans ((hr 85 (by decide) (by decide)).2.2.2.2.2.2.2.2.2.1 rfl)
        unfold Oper.wp execOp
        go_simp
        exact hK _ _ (fun d hd => by cases hd; exact ⟨fun h => absurd h (by decide), fun h => absurd h (by decide), fun h => absurd h (by decide), fun h => absurd h (by decide), fun h => absurd h (by decide), fun h => absurd h (by decide), fun h => absurd h (by decide), fun h => absurd h (by decide), fun h => absurd h (by decide), fun h => absurd h (by decide), fun _ => ⟨_, rfl, hLW, heap_alloc_new _ _⟩, fun h => absurd h (by decide)⟩) (Ch.grown (World.grownBy_alloc _ _ none) (by simp))
      | 11, _, ho => by
        obtain rfl := Option.some.inj ho
        obtain ⟨k, hk1, hk2, hk3⟩ := (hr 86 (by decide) (by decide)).2.2.2.2.2.2.2.2.2.2.1 rfl
        have h76 := (hr 76 (by decide) (by decide)).1 rfl
        obtain ⟨i0, hi0, hz0, hz1, hz2⟩ := info_parts Tryz.info9
        refine wp_append_lies _ (.tmp 76) (.tmp 86) 28 rfl B 9 i0 _ 1 16 Tryz.underlying28 hi0 hz0 hz1 hz2 rfl (by decide) (.slice none 0 0) 0 [] h76 (World.ownsRow_nil _ _ _ _) ⟨k, 0, none⟩ 1 1 [.string (pre ++ t ++ ⟨#[58]⟩ ++ ⟨(Lib.decDigits n).toArray⟩)] hk1 rfl (World.news_of_block hk3) (by simp [Value.oneCell']) (by decide) (by decide) (by decide) hLW _ rfl ?_
        intro g1 cap1 W2 hown1 hgrow1 hat1 hlt1
        exact hK _ _ (fun d hd => by cases hd; exact ⟨fun h => absurd h (by decide), fun h => absurd h (by decide), fun h => absurd h (by decide), fun h => absurd h (by decide), fun h => absurd h (by decide), fun h => absurd h (by decide), fun h => absurd h (by decide), fun h => absurd h (by decide), fun h => absurd h (by decide), fun h => absurd h (by decide), fun h => absurd h (by decide), fun _ => ⟨g1, cap1, rfl, hown1⟩⟩) (Ch.grown (S := fun _ => False) hgrow1 (by simp [Value.ownBlock]))
      | n + 12, hi, _ => absurd hi (by omega)
    · intro o ho u W' hR hu
      obtain rfl := Option.some.inj ho
      obtain ⟨h1, cap1, hv, hown⟩ := (hu 87 (by decide)).2.2.2.2.2.2.2.2.2.2.2 rfl
      have HCh := Lib.hid (HC0.out.trans ((Ch.of_heap (Ch.refl _ W1) (w' := W1.drew) rfl rfl rfl rfl).trans hR))
      have HO := Lib.hid (show W'.ownsRow B 9 1 (.slice (some ⟨h1, 0, none⟩) 1 cap1) 1 [.string ⟨(bandLine true t n).toArray⟩] by
        rw [hv] at hown
        have e : (pre ++ t ++ ⟨#[58]⟩ ++ ⟨(Lib.decDigits n).toArray⟩ : ByteArray) = ⟨(bandLine true t n).toArray⟩ := by
          rw [← hp]
          apply ByteArray.ext
          apply Array.ext'
          simp [bandLine, ByteArray.data_append]
        rw [e] at hown
        exact hown)
      clear hown hR hu
      rw [shared_frame, hv]
      unfold Oper.wp execOp
      go_simp
      go_wp2
      rw [rounds_succ]
      go_wp2
      refine bodyPost_ret (v := .slice (some ⟨h1, 0, none⟩) 1 cap1) (by simp [results, Tryz.results53]) rfl ?_
      refine ⟨h1, cap1, rfl, ?_, HCh.out⟩
      rw [hB]
      exact HO.out

end Go.Proofs.YtimonhimfioohaaGreatDoor
