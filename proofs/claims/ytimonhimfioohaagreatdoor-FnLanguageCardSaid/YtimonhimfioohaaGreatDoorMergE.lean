/- spec.next's closure: the place of a letter in an order. -/
import Derived.Test.YtimonhimfioohaaGreatDoorAppended
import Derived.Test.YtimonhimfioohaaGreatDoorLangLaw
import Derived.Deep.CutRange
import Derived.Test.YtimonhimfioohaaGreatDoorBand

namespace Go.Proofs.YtimonhimfioohaaGreatDoor
open Go.RowKit

def optI : Option Nat → Int
  | none => -1
  | some n => n

theorem u8_eq (a b : UInt8) : (((a.toNat : Nat) : Int) == ((b.toNat : Nat) : Int)) = (a == b) := by
  by_cases h : a = b
  · subst h; simp
  · have h1 : ¬ ((a.toNat : Nat) : Int) = ((b.toNat : Nat) : Int) := fun e => h (UInt8.toNat_inj.1 (Int.ofNat_inj.1 e))
    rw [beq_eq_false_iff_ne.2 h1, beq_eq_false_iff_ne.2 h]

set_option maxRecDepth 100000 in
set_option maxHeartbeats 4000000 in
theorem at_any {C S s first from_ : Nat} {c : UInt8} {ord : ByteArray} {w : World} (hC : w.cell? ⟨C, 0, none⟩ = some (.int .u8 c.toNat)) (hS : w.cell? ⟨S, 0, none⟩ = some (.int .i64 s)) (ho : ord.size ≤ 100) (hf : first ≤ 1000) (_hs : s ≤ 1000) (_hfr : from_ ≤ 1000) :
    Calls Tryz.prog 126 #[.string ord, .int .i64 first, .int .i64 from_, .pointer (some ⟨C, 0, none⟩), .pointer (some ⟨S, 0, none⟩)] w fun e w' => e = .returned (.int .i64 (optI (atF s c from_ ord.data.toList first))) ∧ Ch (fun _ => False) w w' := by
  have HC := Lib.hid hC
  have HS := Lib.hid hS
  clear hC hS
  go_enter Tryz.func126, Tryz.ntmps126
  go_wp2
  go_loopg [9, 10, 13] ord.size (fun g _ _ x wr => ∃ j : Nat, g = ord.size - j ∧ j ≤ ord.size ∧ x = .int .i64 j ∧ atF s c from_ (ord.data.toList.drop j) (first + j) = atF s c from_ ord.data.toList first ∧ Ch (fun _ => False) w wr)
  case atStart => exact ⟨0, rfl, Nat.zero_le _, rfl, rfl, Ch.refl _ _⟩
  case round =>
    obtain ⟨j, hg, hj, rfl, hat, hch⟩ := hrel
    have HG := Lib.hid hg
    have HCH := Lib.hid hch
    have HAT := Lib.hid hat
    clear hg hch hat
    by_cases hlt : j < ord.size
    · have c0 := HCH.out.cell0 HC.out
      have s0 := HCH.out.cell0 HS.out
      have HD := Lib.hid (drop_cons (s := ord) (i := j) hlt)
      obtain ⟨x, hx⟩ : ∃ x, ord[j] = x := ⟨_, rfl⟩
      rw [hx] at HD
      have q1 := u8_eq x c
      have q2 : ((c.toNat : Int) == 98) = (c == 98) := u8_eq c 98
      have q3 : ((c.toNat : Int) == 97) = (c == 97) := u8_eq c 97
      have hwt : IntKind.i64.wrap ((first : Int) + j) = ((first + j : Nat) : Int) := by rw [IntWalk.i64_in _ (by omega)]; omega
      go_upto_region 5 with fail
      go_cut [46] from 19 to 46 (fun z wx => z = .bool (((x == c) && (decide (s < first + j) || ((first + j == s) && (c == 98 || c == 97)))) && decide (from_ ≤ s)) ∧ Ch (fun _ => False) wr wx)
      case first =>
        have hxo : ord[j] = x := hx
        cases b1 : (x == c) with
        | false =>
          rw [b1] at q1
          go_quiet (fail)
          go_wp2
          go_meet
          exact ⟨by rw [b1]; simp, (Ch.refl _ _).drewN _⟩
        | true =>
          rw [b1] at q1
          by_cases h2 : from_ ≤ s
          · have g2 : (from_ : Int) ≤ (s : Int) := by omega
            by_cases h1 : s < first + j
            · have g1 : (s : Int) < (first : Int) + (j : Int) := by omega
              go_quiet (fail)
              go_wp2
              go_meet
              exact ⟨by rw [b1]; simp [h1, h2], (Ch.refl _ _).drewN _⟩
            · have g1 : ¬ ((s : Int) < (first : Int) + (j : Int)) := by omega
              by_cases h3 : first + j = s
              · have g3 : (((first : Int) + (j : Int)) == (s : Int)) = true := by rw [beq_iff_eq]; omega
                cases b2 : (c == 98) <;> cases b3 : (c == 97) <;> rw [b2] at q2 <;> rw [b3] at q3 <;> (go_quiet (fail); go_wp2; go_meet; exact ⟨by rw [b1, b2, b3]; simp [h2, h3], (Ch.refl _ _).drewN _⟩)
              · have g3 : (((first : Int) + (j : Int)) == (s : Int)) = false := beq_eq_false_iff_ne.2 (by omega)
                go_quiet (fail)
                go_wp2
                go_meet
                exact ⟨by rw [b1]; simp [h1, h2, h3], (Ch.refl _ _).drewN _⟩
          · have g2 : ¬ ((from_ : Int) ≤ (s : Int)) := by omega
            by_cases h1 : s < first + j
            · have g1 : (s : Int) < (first : Int) + (j : Int) := by omega
              go_quiet (fail)
              go_wp2
              go_meet
              exact ⟨by rw [b1]; simp [h1, h2], (Ch.refl _ _).drewN _⟩
            · have g1 : ¬ ((s : Int) < (first : Int) + (j : Int)) := by omega
              by_cases h3 : first + j = s
              · have g3 : (((first : Int) + (j : Int)) == (s : Int)) = true := by rw [beq_iff_eq]; omega
                cases b2 : (c == 98) <;> cases b3 : (c == 97) <;> rw [b2] at q2 <;> rw [b3] at q3 <;> (go_quiet (fail); go_wp2; go_meet; exact ⟨by rw [b1, b2, b3]; simp [h2, h3], (Ch.refl _ _).drewN _⟩)
              · have g3 : (((first : Int) + (j : Int)) == (s : Int)) = false := beq_eq_false_iff_ne.2 (by omega)
                go_quiet (fail)
                go_wp2
                go_meet
                exact ⟨by rw [b1]; simp [h1, h2], (Ch.refl _ _).drewN _⟩
      case rest =>
      obtain ⟨rfl, hcw⟩ := hcut
      have HCW := Lib.hid (HCH.out.trans hcw)
      clear hcw q1 q2 q3 c0 s0
      cases hK : (((x == c) && (decide (s < first + j) || ((first + j == s) && (c == 98 || c == 97)))) && decide (from_ ≤ s)) with
      | true =>
        go_wp2
        refine bodyPost_ret (v := .int .i64 ((first : Int) + j)) (by simp [results, Tryz.results126]) rfl ?_
        refine ⟨?_, HCW.out⟩
        rw [← HAT.out, HD.out]
        unfold atF
        rw [if_pos hK]
        simp [optI]
      | false =>
        go_wp2
        go_roundg (ord.size - (j + 1))
        case measure => have := HG.out; omega
        case rel => exact ⟨j + 1, rfl, by omega, by simp, by
          rw [← HAT.out, HD.out]
          conv => rhs; unfold atF
          rw [if_neg (by rw [hK]; decide), Nat.add_assoc], HCW.out⟩
    · have hj' : j = ord.size := by omega
      subst hj'
      go_wp2
      refine bodyPost_ret (v := .int .i64 (-1)) (by simp [results, Tryz.results126]) rfl ?_
      have h1 := HAT.out
      rw [List.drop_of_length_le (by simp)] at h1
      exact ⟨by rw [← h1]; rfl, HCH.out⟩
end Go.Proofs.YtimonhimfioohaaGreatDoor

namespace Go.Proofs.YtimonhimfioohaaGreatDoor
open Go.RowKit

def nxsT (s S : Nat) (R : Int) (d : Nat) (v : Value) (_ : World) : Prop :=
  match d with
  | 10 => v = .func (.func 126) #[] #[.pointer (some ⟨S + 1, 0, none⟩), .pointer (some ⟨S, 0, none⟩)]
  | 11 => v = .int .i64 s
  | 12 => v = .int .i64 s
  | 13 => v = .int .i64 ((s : Int) + 1)
  | 14 => v = .string ((ByteArray.mk #[118, 111, 115]).extract s (s + 1))
  | 15 => v = .int .i64 s
  | 16 => v = .int .i64 ((s : Int) + 1)
  | 17 => v = .int .i64 R
  | _ => True

theorem nxsT_stays {s S : Nat} {R : Int} {d : Nat} {v : Value} {W W' : World} (h : nxsT s S R d v W) (_hc : Ch (fun _ => False) W W') : nxsT s S R d v W' := by
  unfold nxsT at h ⊢
  split at h
  · exact h
  · exact h
  · exact h
  · exact h
  · exact h
  · exact h
  · exact h
  · exact h
  · trivial

set_option maxRecDepth 100000 in
theorem nxs_frame (x0 x1 x2 x3 x4 x5 x6 x7 x8 x9 x10 x11 x12 x13 x14 x15 x16 x17 x18 x19 x20 x21 x22 x23 x24 x25 x26 x27 x28 x29 x30 x31 x32 x33 x34 x35 x36 x37 x38 x39 x40 x41 x42 x43 x44 x45 x46 x47 x48 x49 x50 : Value) (d : List Deferred) (u : Nat → Value) : frameOf ⟨#[x0, x1, x2, x3, x4, x5, x6, x7, x8, x9, x10, x11, x12, x13, x14, x15, x16, x17, x18, x19, x20, x21, x22, x23, x24, x25, x26, x27, x28, x29, x30, x31, x32, x33, x34, x35, x36, x37, x38, x39, x40, x41, x42, x43, x44, x45, x46, x47, x48, x49, x50], d⟩ [10, 11, 12, 13, 14, 15, 16, 17] u = ⟨#[x0, x1, x2, x3, x4, x5, x6, x7, x8, x9, u 10, u 11, u 12, u 13, u 14, u 15, u 16, u 17, x18, x19, x20, x21, x22, x23, x24, x25, x26, x27, x28, x29, x30, x31, x32, x33, x34, x35, x36, x37, x38, x39, x40, x41, x42, x43, x44, x45, x46, x47, x48, x49, x50], d⟩ := by kernel_rfl

set_option maxRecDepth 100000 in
set_option maxHeartbeats 8000000 in
theorem next_any {s : Nat} {c : UInt8} (hs : s < 20) (w : World) :
    Calls Tryz.prog 83 #[.int .i64 s, .int .u8 c.toNat] w fun e w' => e = .returned (.int .i64 (optI (nextS s c))) ∧ Ch (fun _ => False) w w' := by
  have hmf : ∀ (fn : Fn) (first cap : Array Value) (w : World), (Instr.makeFunc fn first cap).run Tryz.prog w = .ok (.func fn first cap) w := fun _ _ _ _ => rfl
  have hc : Ch (fun _ => False) w ((w.alloc (.cells #[.int .i64 s] 3)).alloc (.cells #[.int .u8 c.toNat] 5)) := (Ch.grown (World.grownBy_alloc _ _ none) (by simp)).trans (Ch.grown (World.grownBy_alloc _ _ none) (by simp))
  have hb1 : ((w.alloc (.cells #[.int .i64 s] 3)).alloc (.cells #[.int .u8 c.toNat] 5)).heap[w.heap.size]? = some (.cells #[.int .i64 s] 3 (0, 0)) := (Below.heap_alloc _ _ _ (by simp)).trans (heap_alloc_new w _)
  have hb2 : ((w.alloc (.cells #[.int .i64 s] 3)).alloc (.cells #[.int .u8 c.toNat] 5)).heap[w.heap.size + 1]? = some (.cells #[.int .u8 c.toNat] 5 (0, 0)) := by
    have h1 := heap_alloc_new (w.alloc (.cells #[.int .i64 s] 3)) (.cells #[.int .u8 c.toNat] 5)
    rw [World.size_alloc] at h1
    exact h1
  have c1 : ((w.alloc (.cells #[.int .i64 s] 3)).alloc (.cells #[.int .u8 c.toNat] 5)).cell? ⟨w.heap.size, 0, none⟩ = some (.int .i64 s) := blk_cell hb1 rfl
  have c2 : ((w.alloc (.cells #[.int .i64 s] 3)).alloc (.cells #[.int .u8 c.toNat] 5)).cell? ⟨w.heap.size + 1, 0, none⟩ = some (.int .u8 c.toNat) := blk_cell hb2 rfl
  have HC := Lib.hid hc
  have HB1 := Lib.hid hb1
  have HB2 := Lib.hid hb2
  clear hc hb1 hb2
  have HAT := Lib.hid (fun (W : World) (ord : ByteArray) (first from_ : Nat) (hC : W.cell? ⟨w.heap.size + 1, 0, none⟩ = some (.int .u8 c.toNat)) (hS : W.cell? ⟨w.heap.size, 0, none⟩ = some (.int .i64 s)) (ho : ord.size ≤ 100) (hf : first ≤ 1000) (hfr : from_ ≤ 1000) => at_any (s := s) (c := c) hC hS ho hf (by omega) hfr)
  have q1 : ((c.toNat : Int) == 116) = (c == 116) := u8_eq c 116
  have q2 : ((c.toNat : Int) == 114) = (c == 114) := u8_eq c 114
  have q3 : ((c.toNat : Int) == 109) = (c == 109) := u8_eq c 109
  go_enter Tryz.func83, Tryz.ntmps83
  by_cases h3 : s < 3
  · have g3 : (s : Int) < 3 := by omega
    clear q1 q2 q3
    go_upto_region 3 with fail
    obtain ⟨R, hR⟩ : ∃ R, optI (atF s c 0 ((ByteArray.mk #[118, 111, 115]).extract s (s + 1)).data.toList (s + 1)) = R := ⟨_, rfl⟩
    have HR := Lib.hid hR
    clear hR c1 c2
    obtain ⟨S, hS⟩ : ∃ S, w.heap.size = S := ⟨_, rfl⟩
    rw [hS] at HB1 HB2 HAT
    have HSS := Lib.hid hS
    generalize ((w.alloc (.cells #[.int .i64 s] 3)).alloc (.cells #[.int .u8 c.toNat] 5)) = W0 at *
    simp only [hS]
    clear hS
    refine wp_region_ops (by kernel_rfl) [10, 11, 12, 13, 14, 15, 16, 17] 8 (by kernel_rfl) (by kernel_rfl) (by kernel_rfl) (nxsT s S R) (Ch (fun _ => False)) (Ch.refl _) (fun _ _ _ => Ch.trans) (fun _ _ _ _ => nxsT_stays) ?_ ?_
    · intro i oo hi ho A W' hR hr hx K hK
      have hR0 := (Ch.of_heap (Ch.refl _ W0) (w' := W0.drew) rfl rfl rfl rfl).trans hR
      have hS : W'.heap[S]? = some (.cells #[.int .i64 s] 3 (0, 0)) := (hR0.block S (blk_lt HB1.out) id).trans HB1.out
      have hCc : W'.heap[S + 1]? = some (.cells #[.int .u8 c.toNat] 5 (0, 0)) := (hR0.block (S + 1) (blk_lt HB2.out) id).trans HB2.out
      have hw1 : IntKind.i64.wrap ((s : Int) + 1) = (s : Int) + 1 := IntWalk.i64_in _ (by omega)
      have hv3 : (ByteArray.mk #[118, 111, 115]).size = 3 := rfl
      exact match i, hi, ho with
        | 0, _, ho => by
          obtain rfl := Option.some.inj ho
          have e5 : A.tmps[5]?.getD undef = .func (.func 126) #[] #[.pointer (some ⟨S + 1, 0, none⟩), .pointer (some ⟨S, 0, none⟩)] := (eval_getD A 5).symm.trans (hx 5 (by decide))
          unfold Oper.wp execOp
          go_simp
          exact hK _ _ (fun d hd => by cases hd; exact rfl) (Ch.refl _ _)
        | 1, _, ho => by
          obtain rfl := Option.some.inj ho
          have e2 : A.tmps[2]?.getD undef = .pointer (some ⟨S, 0, none⟩) := (eval_getD A 2).symm.trans (hx 2 (by decide))
          have l0 : W'.cell? ⟨S, 0, none⟩ = some (.int .i64 s) := blk_cell hS rfl
          unfold Oper.wp execOp
          go_simp
          exact hK _ _ (fun d hd => by cases hd; exact rfl) (Ch.refl _ _)
        | 2, _, ho => by
          obtain rfl := Option.some.inj ho
          have e2 : A.tmps[2]?.getD undef = .pointer (some ⟨S, 0, none⟩) := (eval_getD A 2).symm.trans (hx 2 (by decide))
          have l0 : W'.cell? ⟨S, 0, none⟩ = some (.int .i64 s) := blk_cell hS rfl
          unfold Oper.wp execOp
          go_simp
          exact hK _ _ (fun d hd => by cases hd; exact rfl) (Ch.refl _ _)
        | 3, _, ho => by
          obtain rfl := Option.some.inj ho
          have e12 : A.tmps[12]?.getD undef = .int .i64 s := (eval_getD A 12).symm.trans (hr 12 (by decide) (by decide))
          unfold Oper.wp execOp
          go_simp
          exact hK _ _ (fun d hd => by cases hd; exact rfl) (Ch.refl _ _)
        | 4, _, ho => by
          obtain rfl := Option.some.inj ho
          have e11 : A.tmps[11]?.getD undef = .int .i64 s := (eval_getD A 11).symm.trans (hr 11 (by decide) (by decide))
          have e13 : A.tmps[13]?.getD undef = .int .i64 ((s : Int) + 1) := (eval_getD A 13).symm.trans (hr 13 (by decide) (by decide))
          unfold Oper.wp execOp
          go_simp
          rw [if_pos (by omega), if_pos (by omega)]
          exact hK _ _ (fun d hd => by cases hd; exact rfl) (Ch.refl _ _)
        | 5, _, ho => by
          obtain rfl := Option.some.inj ho
          have e2 : A.tmps[2]?.getD undef = .pointer (some ⟨S, 0, none⟩) := (eval_getD A 2).symm.trans (hx 2 (by decide))
          have l0 : W'.cell? ⟨S, 0, none⟩ = some (.int .i64 s) := blk_cell hS rfl
          unfold Oper.wp execOp
          go_simp
          exact hK _ _ (fun d hd => by cases hd; exact rfl) (Ch.refl _ _)
        | 6, _, ho => by
          obtain rfl := Option.some.inj ho
          have e15 : A.tmps[15]?.getD undef = .int .i64 s := (eval_getD A 15).symm.trans (hr 15 (by decide) (by decide))
          unfold Oper.wp execOp
          go_simp
          exact hK _ _ (fun d hd => by cases hd; exact rfl) (Ch.refl _ _)
        | 7, _, ho => by
          obtain rfl := Option.some.inj ho
          have e10 : A.tmps[10]?.getD undef = .func (.func 126) #[] #[.pointer (some ⟨S + 1, 0, none⟩), .pointer (some ⟨S, 0, none⟩)] := (eval_getD A 10).symm.trans (hr 10 (by decide) (by decide))
          have e14 : A.tmps[14]?.getD undef = .string ((ByteArray.mk #[118, 111, 115]).extract s (s + 1)) := (eval_getD A 14).symm.trans (hr 14 (by decide) (by decide))
          have e16 : A.tmps[16]?.getD undef = .int .i64 ((s : Int) + 1) := (eval_getD A 16).symm.trans (hr 16 (by decide) (by decide))
          unfold Oper.wp execOp
          go_simp
          (go_at_call 126; refine (HAT.out W' ((ByteArray.mk #[118, 111, 115]).extract s (s + 1)) (s + 1) 0 (blk_cell hCc rfl) (blk_cell hS rfl) (by rw [ByteArray.size_extract]; omega) (by omega) (by decide)).mono ?_; rintro e W2 ⟨rfl, hcp⟩)
          exact hK _ _ (fun d hd => by cases hd; exact congrArg (Value.int .i64) HR.out) (hcp)
        | n + 8, hi, _ => absurd hi (by omega)

    · intro oo ho u W3 hR hu
      obtain rfl := Option.some.inj ho
      have hv : u 17 = .int .i64 R := hu 17 (by decide)
      have HC3 := Lib.hid (HC.out.trans ((Ch.of_heap (Ch.refl _ W0) (w' := W0.drew) rfl rfl rfl rfl).trans hR))
      clear hR hu
      rw [nxs_frame, hv]
      unfold Oper.wp execOp
      go_simp
      clear hv
      go_wp2
      refine bodyPost_ret (v := .int .i64 R) (by simp [results, Tryz.results83]) rfl ?_
      refine ⟨?_, HC3.out⟩
      rw [← HR.out]
      have hs3 : s = 0 ∨ s = 1 ∨ s = 2 := by omega
      rcases hs3 with rfl | rfl | rfl <;> rfl
  have g3 : ¬ ((s : Int) < 3) := by omega
  by_cases h10 : s < 10
  · have g10 : (s : Int) < 10 := by omega
    cases b1 : (c == 116) with
    | true =>
      rw [b1] at q1
      go_wp2
      refine bodyPost_ret (v := .int .i64 10) (by simp [results, Tryz.results83]) rfl ?_
      exact ⟨by unfold nextS; simp [h3, h10, beq_iff_eq.1 b1, optI], HC.out⟩
    | false =>
      rw [b1] at q1
      go_wp2_with (go_at_call 126; refine (HAT.out _ ⟨#[105, 117, 101, 112, 99, 98]⟩ 4 3 (blk_cell HB2.out rfl) (blk_cell HB1.out rfl) (by decide) (by decide) (by decide)).mono ?_; rintro e W2 ⟨rfl, hc2⟩; have HC2 := Lib.hid hc2; clear hc2)
      refine bodyPost_ret (v := .int .i64 (optI (atF s c 3 (ByteArray.mk #[105, 117, 101, 112, 99, 98]).data.toList 4))) (by simp [results, Tryz.results83]) rfl ?_
      exact ⟨by unfold nextS; simp [h3, h10, (beq_eq_false_iff_ne.1 b1), optI], HC.out.trans HC2.out⟩
  have g10 : ¬ ((s : Int) < 10) := by omega
  by_cases h14 : s < 14
  · have g14 : (s : Int) < 14 := by omega
    by_cases he : s = 10
    · subst he
      clear h3 h10 h14 g3 g10 g14
      cases b1 : (c == 116) with
      | true =>
        rw [b1] at q1
        go_wp2
        refine bodyPost_ret (v := .int .i64 10) (by simp [results, Tryz.results83]) rfl ?_
        exact ⟨by unfold nextS; simp [beq_iff_eq.1 b1, optI], HC.out⟩
      | false =>
        rw [b1] at q1
        cases b2 : (c == 114) with
        | true =>
          rw [b2] at q2
          go_wp2
          refine bodyPost_ret (v := .int .i64 10) (by simp [results, Tryz.results83]) rfl ?_
          exact ⟨by unfold nextS; simp [beq_iff_eq.1 b2, optI], HC.out⟩
        | false =>
          rw [b2] at q2
          cases b3 : (c == 109) with
          | true =>
            rw [b3] at q3
            go_wp2
            refine bodyPost_ret (v := .int .i64 14) (by simp [results, Tryz.results83]) rfl ?_
            exact ⟨by unfold nextS; simp [beq_iff_eq.1 b3, optI], HC.out⟩
          | false =>
            rw [b3] at q3
            go_wp2_with (go_at_call 126; refine (HAT.out _ ⟨#[122, 107, 97]⟩ 11 10 (blk_cell HB2.out rfl) (blk_cell HB1.out rfl) (by decide) (by decide) (by decide)).mono ?_; rintro e W2 ⟨rfl, hc2⟩; have HC2 := Lib.hid hc2; clear hc2)
            refine bodyPost_ret (v := .int .i64 (optI (atF 10 c 10 (ByteArray.mk #[122, 107, 97]).data.toList 11))) (by simp [results, Tryz.results83]) rfl ?_
            exact ⟨by unfold nextS; simp [(beq_eq_false_iff_ne.1 b1), (beq_eq_false_iff_ne.1 b2), (beq_eq_false_iff_ne.1 b3), optI], HC.out.trans HC2.out⟩
    · have ge : ((s : Int) == 10) = false := beq_eq_false_iff_ne.2 (by omega)
      cases b3 : (c == 109) with
      | true =>
        rw [b3] at q3
        go_wp2
        refine bodyPost_ret (v := .int .i64 14) (by simp [results, Tryz.results83]) rfl ?_
        exact ⟨by unfold nextS; simp [h3, h10, beq_iff_eq.1 b3, optI], HC.out⟩
      | false =>
        rw [b3] at q3
        go_wp2_with (go_at_call 126; refine (HAT.out _ ⟨#[122, 107, 97]⟩ 11 10 (blk_cell HB2.out rfl) (blk_cell HB1.out rfl) (by decide) (by decide) (by decide)).mono ?_; rintro e W2 ⟨rfl, hc2⟩; have HC2 := Lib.hid hc2; clear hc2)
        refine bodyPost_ret (v := .int .i64 (optI (atF s c 10 (ByteArray.mk #[122, 107, 97]).data.toList 11))) (by simp [results, Tryz.results83]) rfl ?_
        exact ⟨by unfold nextS; simp [h3, h10, h14, he, (beq_eq_false_iff_ne.1 b3), optI], HC.out.trans HC2.out⟩
  have g14 : ¬ ((s : Int) < 14) := by omega
  have ge : ((s : Int) == 10) = false := beq_eq_false_iff_ne.2 (by omega)
  have he : ¬ (s = 10) := by omega
  cases b3 : (c == 109) with
  | true =>
    rw [b3] at q3
    go_wp2
    refine bodyPost_ret (v := .int .i64 14) (by simp [results, Tryz.results83]) rfl ?_
    exact ⟨by unfold nextS; simp [h3, h10, beq_iff_eq.1 b3, optI], HC.out⟩
  | false =>
    rw [b3] at q3
    go_wp2_with (go_at_call 126; refine (HAT.out _ ⟨#[105, 99, 98, 107, 97]⟩ 15 14 (blk_cell HB2.out rfl) (blk_cell HB1.out rfl) (by decide) (by decide) (by decide)).mono ?_; rintro e W2 ⟨rfl, hc2⟩; have HC2 := Lib.hid hc2; clear hc2)
    refine bodyPost_ret (v := .int .i64 (optI (atF s c 14 (ByteArray.mk #[105, 99, 98, 107, 97]).data.toList 15))) (by simp [results, Tryz.results83]) rfl ?_
    exact ⟨by unfold nextS; simp [h3, h10, h14, he, (beq_eq_false_iff_ne.1 b3), optI], HC.out.trans HC2.out⟩

end Go.Proofs.YtimonhimfioohaaGreatDoor

namespace Go.Proofs.YtimonhimfioohaaGreatDoor
open Go.RowKit

theorem nextS_lt {s s' : Nat} {c : UInt8} (hs : s < 20) (h : nextS s c = some s') : s' < 20 := by
  have hc := check_at hs c
  unfold check1 at hc
  rw [h] at hc
  simp only [Bool.and_eq_true, decide_eq_true_eq] at hc
  exact hc.1.2

set_option maxRecDepth 100000 in
set_option maxHeartbeats 4000000 in
theorem state_any {t : ByteArray} (ht : t.size ≤ 4294967295) (w : World) :
    Calls Tryz.prog 42 #[.string t] w fun e w' => e = .returned (.int .i64 (optI (runS 0 t.data.toList))) ∧ Ch (fun _ => False) w w' := by
  go_enter Tryz.func42, Tryz.ntmps42
  go_wp2
  go_loopg [3, 4, 7] t.size (fun g s3 _ x wr => ∃ j s : Nat, g = t.size - j ∧ j ≤ t.size ∧ x = .int .i64 j ∧ s3 = .int .i64 s ∧ s < 20 ∧ runS s (t.data.toList.drop j) = runS 0 t.data.toList ∧ Ch (fun _ => False) w wr)
  case atStart => exact ⟨0, 0, rfl, Nat.zero_le _, rfl, rfl, by decide, rfl, Ch.refl _ _⟩
  case round =>
    obtain ⟨j, s, hg, hj, rfl, rfl, hs, hrun, hch⟩ := hrel
    have HG := Lib.hid hg
    have HCH := Lib.hid hch
    have HRUN := Lib.hid hrun
    clear hg hch hrun
    by_cases hlt : j < t.size
    · have HD := Lib.hid (drop_cons (s := t) (i := j) hlt)
      go_wp2_with fail
      refine (next_any (c := t[j]) hs _).mono ?_
      rintro e w1 ⟨rfl, hc1⟩
      have HC1 := Lib.hid (HCH.out.trans hc1)
      clear hc1
      cases hn : nextS s t[j] with
      | none =>
        have hneg : (optI none : Int) = -1 := rfl
        rw [hneg]
        go_wp2
        refine bodyPost_ret (v := .int .i64 (-1)) (by simp [results, Tryz.results42]) rfl ?_
        refine ⟨?_, HC1.out⟩
        rw [← HRUN.out, HD.out]
        simp only [runS, hn]
        rfl
      | some s' =>
        have hpos : (optI (some s') : Int) = (s' : Int) := rfl
        rw [hpos]
        have hs' := nextS_lt hs hn
        have HN := Lib.hid hn
        clear hn hpos
        go_wp2
        go_roundg (t.size - (j + 1))
        case measure => have := HG.out; omega
        case rel => exact ⟨j + 1, s', rfl, by omega, by simp, rfl, hs', by rw [← HRUN.out, HD.out]; simp only [runS, HN.out], HC1.out⟩
    · have hj' : j = t.size := by omega
      subst hj'
      go_wp2
      refine bodyPost_ret (v := .int .i64 s) (by simp [results, Tryz.results42]) rfl ?_
      have h1 := HRUN.out
      rw [List.drop_of_length_le (by simp)] at h1
      exact ⟨by rw [← h1]; rfl, HCH.out⟩

set_option maxRecDepth 100000 in
set_option maxHeartbeats 4000000 in
theorem accepts_any {t : ByteArray} (ht : t.size ≤ 4294967295) (w : World) :
    Calls Tryz.prog 15 #[.string t] w fun e w' => e = .returned (.bool (acceptsS t.data.toList)) ∧ Ch (fun _ => False) w w' := by
  go_enter Tryz.func15, Tryz.ntmps15
  go_wp2_with fail
  refine (state_any ht w).mono ?_
  rintro e w1 ⟨rfl, hc⟩
  have HC := Lib.hid hc
  clear hc
  cases hr : runS 0 t.data.toList with
  | none =>
    have hneg : (optI none : Int) = -1 := rfl
    rw [hneg]
    go_wp2
    refine bodyPost_ret (v := .bool false) (by simp [results, Tryz.results15]) rfl ?_
    exact ⟨by unfold acceptsS; rw [hr], HC.out⟩
  | some s =>
    have hpos : (optI (some s) : Int) = (s : Int) := rfl
    rw [hpos]
    clear hpos
    by_cases h : 10 ≤ s
    · have h' : (10 : Int) ≤ (s : Int) := by omega
      go_wp2
      refine bodyPost_ret (v := .bool true) (by simp [results, Tryz.results15]) rfl ?_
      exact ⟨by unfold acceptsS; rw [hr]; simp [h], HC.out⟩
    · have h' : ¬ ((10 : Int) ≤ (s : Int)) := by omega
      go_wp2
      refine bodyPost_ret (v := .bool false) (by simp [results, Tryz.results15]; omega) rfl ?_
      exact ⟨by unfold acceptsS; rw [hr]; simp; omega, HC.out⟩
end Go.Proofs.YtimonhimfioohaaGreatDoor

namespace Go.Proofs.YtimonhimfioohaaGreatDoor
open Go.RowKit

/-- A test whose 'no' says something. -/
def DeniesL (p : Prop) (e : Ending) : Prop := ∃ r, e = .returned (.bool r) ∧ (r = false → p)

set_option maxRecDepth 100000 in
set_option maxHeartbeats 1600000 in
theorem is_not {s : ByteArray} {L : List ByteArray} {g cap : Nat} {w : World} (hlen : L.length ≤ 4294967295) (hL : ∀ (j : Nat) (h : j < L.length), w.cell? ⟨g, j, none⟩ = some (.string L[j])) :
    Calls Tryz.prog 43 #[.string s, .slice (some ⟨g, 0, none⟩) L.length cap] w fun e w' => DeniesL (s ∉ L) e ∧ w = w' := by
  have HL := Lib.hid hL
  clear hL
  go_enter Tryz.func43, Tryz.ntmps43
  go_wp2
  go_loopg [9] L.length (fun g' x wr => ∃ j : Nat, g' = L.length - j ∧ j ≤ L.length ∧ x = .int .i64 j ∧ (∀ k u, k < j → L[k]? = some u → u ≠ s) ∧ wr = w)
  case atStart => exact ⟨0, rfl, Nat.zero_le _, rfl, fun k u h => absurd h (by omega), rfl⟩
  case round =>
    obtain ⟨j, hg, hj, rfl, hne, rfl⟩ := hrel
    have HG := Lib.hid hg
    have HNE := Lib.hid hne
    clear hg hne
    by_cases hlt : j < L.length
    · have hc := HL.out j hlt
      have hget := List.getElem?_eq_getElem hlt
      generalize L[j] = t at *
      have HGT := Lib.hid hget
      clear hget
      go_wp2_with fail
      · refine bodyPost_ret (v := .bool true) (by simp [results, Tryz.results43]) rfl ?_
        exact ⟨⟨_, rfl, fun h => nomatch h⟩, rfl⟩
      · rename_i he
        have HE := Lib.hid he
        go_roundg (L.length - (j + 1))
        case measure => have := HG.out; omega
        case rel => exact ⟨j + 1, rfl, by omega, by simp, fun k u hk hu => by
          rcases Nat.lt_or_ge k j with h1 | h1
          · exact HNE.out k u h1 hu
          · obtain rfl : k = j := by omega
            obtain rfl := Option.some.inj (HGT.out.symm.trans hu)
            intro e
            have := HE.out
            rw [e] at this
            simp at this, rfl⟩
    · go_wp2
      refine bodyPost_ret (v := .bool false) (by simp [results, Tryz.results43]) rfl ?_
      refine ⟨⟨_, rfl, fun _ hm => ?_⟩, rfl⟩
      obtain ⟨k, hk⟩ := List.getElem?_of_mem hm
      have hkl := (List.getElem?_eq_some_iff.1 hk).1
      exact HNE.out k s (by omega) hk rfl

theorem run_take {t : ByteArray} {i s : Nat} (hi : i < t.size) (h : runS 0 (t.data.toList.take i) = some s) : runS 0 (t.data.toList.take (i + 1)) = nextS s t[i] := by
  have hl : i < t.data.toList.length := by simpa using hi
  have e : t.data.toList.take (i + 1) = t.data.toList.take i ++ [t[i]] := by
    rw [List.take_add_one, List.getElem?_eq_getElem hl]
    rfl
  rw [e, runS_app _ _ _ _ h]
  simp only [runS]
  cases nextS s t[i] <;> rfl
end Go.Proofs.YtimonhimfioohaaGreatDoor

namespace Go.Proofs.YtimonhimfioohaaGreatDoor
open Go.RowKit

theorem take_data (t : ByteArray) (i : Nat) : (t.extract 0 i).data.toList = t.data.toList.take i := by
  simp [ByteArray.data_extract, Array.toList_extract, List.extract_eq_take_drop]

theorem late_not {c : UInt8} (h : Utf8.encode (c.toNat : Int) ∉ [(ByteArray.mk #[105]), (ByteArray.mk #[99]), (ByteArray.mk #[98]), (ByteArray.mk #[107]), (ByteArray.mk #[97])]) : lateL c = false := by
  cases hb : lateL c with
  | false => rfl
  | true =>
    exfalso
    unfold lateL at hb
    simp only [Bool.or_eq_true, beq_iff_eq] at hb
    rcases hb with (((rfl | rfl) | rfl) | rfl) | rfl
    · exact h (by rw [show Utf8.encode ((UInt8.toNat 105 : Nat) : Int) = ByteArray.mk #[105] from by kernel_rfl]; exact List.mem_iff_getElem?.2 ⟨0, rfl⟩)
    · exact h (by rw [show Utf8.encode ((UInt8.toNat 99 : Nat) : Int) = ByteArray.mk #[99] from by kernel_rfl]; exact List.mem_iff_getElem?.2 ⟨1, rfl⟩)
    · exact h (by rw [show Utf8.encode ((UInt8.toNat 98 : Nat) : Int) = ByteArray.mk #[98] from by kernel_rfl]; exact List.mem_iff_getElem?.2 ⟨2, rfl⟩)
    · exact h (by rw [show Utf8.encode ((UInt8.toNat 107 : Nat) : Int) = ByteArray.mk #[107] from by kernel_rfl]; exact List.mem_iff_getElem?.2 ⟨3, rfl⟩)
    · exact h (by rw [show Utf8.encode ((UInt8.toNat 97 : Nat) : Int) = ByteArray.mk #[97] from by kernel_rfl]; exact List.mem_iff_getElem?.2 ⟨4, rfl⟩)
set_option maxRecDepth 100000 in
set_option maxHeartbeats 4000000 in
theorem told_any {t : ByteArray} (ht : t.size ≤ 100) (w : World) :
    Calls Tryz.prog 12 #[.string t] w fun e w' => Tells (toldS t.data.toList) e ∧ Ch (fun _ => False) w w' := by
  go_enter Tryz.func12, Tryz.ntmps12
  go_wp2_with fail
  refine (accepts_any (by omega) w).mono ?_
  rintro e w1 ⟨rfl, hc⟩
  have HC := Lib.hid hc
  clear hc
  cases ha : acceptsS t.data.toList with
  | true =>
    have HA := Lib.hid ha
    clear ha
    go_wp2
    refine bodyPost_ret (v := .bool true) (by simp [results, Tryz.results12]) rfl ?_
    exact ⟨⟨true, rfl, fun _ => .inl HA.out⟩, HC.out⟩
  | false =>
  clear ha
  go_wp2
  go_loopg [3, 4, 9] t.size (fun g _ _ x wr => ∃ i s : Nat, g = t.size - i ∧ i ≤ t.size ∧ x = .int .i64 i ∧ s < 20 ∧ runS 0 (t.data.toList.take i) = some s ∧ Ch (fun _ => False) w wr)
  case atStart => exact ⟨0, 0, rfl, Nat.zero_le _, rfl, by decide, rfl, HC.out⟩
  case round =>
    obtain ⟨i, s, hg, hi, rfl, hs, hrun, hch⟩ := hrel
    have HG := Lib.hid hg
    have HCH := Lib.hid hch
    have HRUN := Lib.hid hrun
    clear hg hch hrun
    by_cases hlt : i < t.size
    · have hil : (i : Int) + 1 ≤ t.size := by omega
      have hw1 : IntKind.i64.wrap ((i : Int) + 1) = (i : Int) + 1 := IntWalk.i64_in _ (by omega)
      have HSI := Lib.hid (fun W => state_any (t := t.extract 0 (i + 1)) (by rw [ByteArray.size_extract]; omega) W)
      rw [take_data, run_take hlt HRUN.out] at HSI
      obtain ⟨c, hc⟩ : ∃ c, t[i] = c := ⟨_, rfl⟩
      have HCc := Lib.hid hc
      rw [hc] at HSI
      have q1 : ((c.toNat : Int) == 109) = (c == 109) := u8_eq c 109
      go_wp2_with fail
      refine (HSI.out wr).mono ?_
      rintro e w2 ⟨rfl, hc2⟩
      have HC2 := Lib.hid (HCH.out.trans hc2)
      clear hc2
      cases hn : nextS s c with
      | some s' =>
        rw [hn] at HSI
        have hpos : (optI (some s') : Int) = (s' : Int) := rfl
        rw [hpos] at HSI ⊢
        have HN := Lib.hid hn
        clear hn hpos
        go_wp2_with fail
        refine (HSI.out w2).mono ?_
        rintro e w3 ⟨rfl, hc3⟩
        have HC3 := Lib.hid (HC2.out.trans hc3)
        clear hc3
        go_wp2
        go_roundg (t.size - (i + 1))
        case measure => have := HG.out; omega
        case rel => exact ⟨i + 1, s', rfl, by omega, by simp, nextS_lt hs HN.out, by rw [run_take hlt HRUN.out, HCc.out]; exact HN.out, HC3.out⟩
      | none =>
        rw [hn] at HSI
        have hneg : (optI none : Int) = -1 := rfl
        rw [hneg] at HSI ⊢
        have HN := Lib.hid hn
        clear hn hneg
        have HL := Lib.hid (show t.data.toList = t.data.toList.take i ++ c :: t.data.toList.drop (i + 1) from by
          have h1 := drop_cons (s := t) (i := i) hlt
          rw [HCc.out] at h1
          rw [← h1, List.take_append_drop])
        cases b1 : (c == 109) with
        | true =>
          rw [b1] at q1
          go_wp2_with fail
          refine (HSI.out w2).mono ?_
          rintro e w3 ⟨rfl, hc3⟩
          have HC3 := Lib.hid (HC2.out.trans hc3)
          clear hc3
          go_wp2
          refine bodyPost_ret (v := .bool true) (by simp [results, Tryz.results12]) rfl ?_
          exact ⟨⟨true, rfl, fun _ => .inr ⟨_, c, _, s, HL.out, HRUN.out, HN.out, .inl (beq_iff_eq.1 b1)⟩⟩, HC3.out⟩
        | false =>
          rw [b1] at q1
          go_wp2_with fail
          generalize wr = Wo at *
          go_loopg [4] i (fun g s4 wr => ∃ k : Nat, g = i - k ∧ k ≤ i ∧ s4 = .int .i64 k ∧ (∀ x ∈ t.data.toList.take k, x ≠ 109) ∧ wr = w2)
          case atStart => exact ⟨0, rfl, Nat.zero_le _, rfl, by simp, rfl⟩
          case round =>
            obtain ⟨k, hg2, hk, rfl, hall, rfl⟩ := hrel
            have HG2 := Lib.hid hg2
            have HALL := Lib.hid hall
            clear hg2 hall
            by_cases hki : k < i
            · have hki' : (k : Int) < (i : Int) := by omega
              have hkt : k < t.size := by omega
              obtain ⟨x, hx⟩ : ∃ x, t[k] = x := ⟨_, rfl⟩
              have q2 : ((x.toNat : Int) == 109) = (x == 109) := u8_eq x 109
              have HX := Lib.hid (show t.data.toList[k]? = some x from by rw [← hx]; exact List.getElem?_eq_getElem (by simpa using hkt))
              cases b2 : (x == 109) with
              | false =>
                rw [b2] at q2
                go_wp2_with fail
                go_roundg (i - (k + 1))
                case measure => have := HG2.out; omega
                case rel => exact ⟨k + 1, rfl, by omega, by simp, by
                  rw [List.take_add_one, HX.out]
                  intro y hy
                  rcases List.mem_append.1 hy with hy | hy
                  · exact HALL.out y hy
                  · obtain rfl : y = x := by simpa using hy
                    exact beq_eq_false_iff_ne.1 b2, rfl⟩
              | true =>
                rw [b2] at q2
                go_wp2_with fail
                have hal : Ch (fun _ => False) wr (wr.alloc (.cells #[.string (ByteArray.mk #[105]), .string (ByteArray.mk #[99]), .string (ByteArray.mk #[98]), .string (ByteArray.mk #[107]), .string (ByteArray.mk #[97])] 9)) := Ch.grown (World.grownBy_alloc _ _ none) (by simp)
                have hbn : (wr.alloc (.cells #[.string (ByteArray.mk #[105]), .string (ByteArray.mk #[99]), .string (ByteArray.mk #[98]), .string (ByteArray.mk #[107]), .string (ByteArray.mk #[97])] 9)).heap[wr.heap.size]? = some (.cells #[.string (ByteArray.mk #[105]), .string (ByteArray.mk #[99]), .string (ByteArray.mk #[98]), .string (ByteArray.mk #[107]), .string (ByteArray.mk #[97])] 9 (0, 0)) := heap_alloc_new _ _
                refine (is_not (L := [(ByteArray.mk #[105]), (ByteArray.mk #[99]), (ByteArray.mk #[98]), (ByteArray.mk #[107]), (ByteArray.mk #[97])]) (s := Utf8.encode (c.toNat : Int)) (by decide) (fun j hj => by
                  have : j = 0 ∨ j = 1 ∨ j = 2 ∨ j = 3 ∨ j = 4 := by have : j < 5 := hj; omega
                  rcases this with rfl | rfl | rfl | rfl | rfl <;> exact blk_cell hbn rfl)).mono ?_
                rintro e w4 ⟨⟨r, rfl, hr⟩, rfl⟩
                have HR := Lib.hid hr
                have HCE := Lib.hid (HC2.out.trans hal)
                clear hr hal hbn
                cases r with
                | true =>
                  go_wp2
                  refine bodyPost_ret (v := .bool false) (by simp [results, Tryz.results12]; omega) rfl ?_
                  exact ⟨⟨false, rfl, fun h => nomatch h⟩, HCE.out⟩
                | false =>
                  go_wp2
                  refine bodyPost_ret (v := .bool true) (by simp [results, Tryz.results12]) rfl ?_
                  exact ⟨⟨true, rfl, fun _ => .inr ⟨_, c, _, s, HL.out, HRUN.out, HN.out, .inr (.inr (late_not (HR.out (by first | rfl | trivial))))⟩⟩, HCE.out⟩
            · obtain rfl : k = i := by omega
              have hki' : ¬ ((k : Int) < (k : Int)) := by omega
              go_wp2
              refine bodyPost_ret (v := .bool true) (by simp [results, Tryz.results12]) rfl ?_
              exact ⟨⟨true, rfl, fun _ => .inr ⟨_, c, _, s, HL.out, HRUN.out, HN.out, .inr (.inl HALL.out)⟩⟩, HC2.out⟩
    · go_wp2
      refine bodyPost_ret (v := .bool false) (by simp [results, Tryz.results12]) rfl ?_
      exact ⟨⟨false, rfl, fun h => nomatch h⟩, HCH.out⟩
end Go.Proofs.YtimonhimfioohaaGreatDoor
