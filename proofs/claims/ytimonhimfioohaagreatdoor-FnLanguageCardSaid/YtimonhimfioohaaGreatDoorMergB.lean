/- unmarshalSessionBandwidth (package sdp) at the line b=AS:1. -/
import Derived.Test.YtimonhimfioohaaGreatDoorMergA
import Derived.Test.YtimonhimfioohaaGreatDoorAppReg
import Derived.Test.YtimonhimfioohaaGreatDoorBandIn
import Derived.Test.YtimonhimfioohaaGreatDoorUnits

namespace Go.Proofs.YtimonhimfioohaaGreatDoor
open Go.RowKit

/-- A row that is the old one, or a new one. -/
def lies (v : Value) (Z : Nat) (v' : Value) : Prop := ∀ k, v'.ownBlock = some k → v.ownBlock = some k ∨ Z ≤ k
theorem lies_at {v : Value} {Z g n cap H : Nat} (hat : v.ownBlock = some g ∨ g = H) (hZ : Z ≤ H) : lies v Z (.slice (some ⟨g, 0, none⟩) n cap) := fun k hk => by
  obtain rfl : g = k := by simpa [Value.ownBlock] using hk
  exact hat.imp id fun e => by omega


def banT (LX D g : Nat) (L Z n : Nat) (v : Value) (xs : List Value) (f : Nat → Bool) (d : Nat) (v' : Value) (W : World) : Prop :=
  match d with
  | 25 => v' = .pointer (some ⟨LX, 0, none⟩)
  | 26 => v' = .pointer (some ⟨LX, 0, none⟩)
  | 27 => v' = .pointer (some ⟨LX, 0, none⟩)
  | 28 => v' = .pointer (some ⟨D, 0, none⟩)
  | 29 => v' = .pointer (some ⟨LX, 0, none⟩)
  | 30 => v' = .pointer (some ⟨LX, 0, none⟩)
  | 31 => v' = .pointer (some ⟨LX, 0, none⟩)
  | 32 => v' = .pointer (some ⟨D, 0, none⟩)
  | 33 => v' = .pointer (some ⟨D, 0, none⟩)
  | 34 => v' = .pointer (some ⟨D, 13, none⟩)
  | 35 => f 15 = true ∨ (v' = v ∧ W.ownsRow L 134 3 v n xs)
  | 36 => v' = .pointer (some ⟨g, 0, none⟩)
  | 37 => v' = .pointer (some ⟨g, 0, none⟩)
  | 38 => v' = .agg #[.bool false, .string ⟨#[65, 83]⟩, .int .u64 1]
  | 39 => f 15 = true ∨ ∃ (k : Nat) , v' = .slice (some ⟨k, 0, none⟩) 1 1 ∧ W.heap[k]? = some (.cells #[.bool false, .string ⟨#[65, 83]⟩, .int .u64 1] 134 (0, 0))
  | 40 => f 15 = true ∧ (W.ownsRow L 134 3 v' (n + 1) (xs ++ [.bool false, .string ⟨#[65, 83]⟩, .int .u64 1]) ∧ lies v Z v')
  | 41 => v' = .pointer (some ⟨D, 0, none⟩)
  | 42 => v' = .pointer (some ⟨D, 13, none⟩)
  | _ => True
theorem ban_stay {LX D g : Nat} {L Z n : Nat} {v : Value} {xs : List Value} {f : Nat → Bool} {i d : Nat} {x : Value} {W W' : World} (hc : Ch (fun _ => False) W W') (h : banT LX D g L Z n v xs f d x W) : banT LX D g L Z n v xs (upd f i) d x W' := by
  unfold banT at h ⊢
  split at h
  · exact h
  · exact h
  · exact h
  · exact h
  · exact h
  · exact h
  · exact h
  · exact h
  · exact h
  · exact h
  · exact h.elim (fun h => .inl (by unfold upd; split <;> first | rfl | exact h)) (fun h => .inr ⟨h.1, own_ch h.2 hc⟩)
  · exact h
  · exact h
  · exact h
  · rcases h with h | ⟨k, e, hk⟩
    · exact .inl (by unfold upd; split <;> first | rfl | exact h)
    · exact .inr ⟨k, e, (hc.block _ (blk_lt hk) id).trans hk⟩
  · obtain ⟨h, ho, hz⟩ := h
    exact ⟨(by unfold upd; split <;> first | rfl | exact h), own_ch ho hc, hz⟩
  · exact h
  · exact h
  · trivial
theorem ban_stayA {LX D g : Nat} {L Z n : Nat} {v : Value} {xs : List Value} {f : Nat → Bool} {d : Nat} {x : Value} {W W' : World} (hd : d ≠ 40) (_hQ : W.ownsRow L 134 3 v n xs) (_hc : Ch (fun j => v.ownBlock = some j) W W') (h : banT LX D g L Z n v xs f d x W) : banT LX D g L Z n v xs (upd f 15) d x W' := by
  unfold banT at h ⊢
  split at h
  · exact h
  · exact h
  · exact h
  · exact h
  · exact h
  · exact h
  · exact h
  · exact h
  · exact h
  · exact h
  · exact .inl (by simp [upd])
  · exact h
  · exact h
  · exact h
  · exact .inl (by simp [upd])
  · exact absurd rfl hd
  · exact h
  · exact h
  · trivial
set_option maxRecDepth 100000 in
theorem ban_frame (x0 x1 x2 x3 x4 x5 x6 x7 x8 x9 x10 x11 x12 x13 x14 x15 x16 x17 x18 x19 x20 x21 x22 x23 x24 x25 x26 x27 x28 x29 x30 x31 x32 x33 x34 x35 x36 x37 x38 x39 x40 x41 x42 : Value) (d : List Deferred) (u : Nat → Value) : frameOf ⟨#[x0, x1, x2, x3, x4, x5, x6, x7, x8, x9, x10, x11, x12, x13, x14, x15, x16, x17, x18, x19, x20, x21, x22, x23, x24, x25, x26, x27, x28, x29, x30, x31, x32, x33, x34, x35, x36, x37, x38, x39, x40, x41, x42], d⟩ [25, 26, 27, 28, 29, 30, 31, 32, 33, 34, 35, 36, 37, 38, 39, 40, 41, 42] u = ⟨#[x0, x1, x2, x3, x4, x5, x6, x7, x8, x9, x10, x11, x12, x13, x14, x15, x16, x17, x18, x19, x20, x21, x22, x23, x24, u 25, u 26, u 27, u 28, u 29, u 30, u 31, u 32, u 33, u 34, u 35, u 36, u 37, u 38, u 39, u 40, u 41, u 42], d⟩ := by kernel_rfl

section
variable {ae : Addr} {S : Nat → Prop} {L D C : Nat} {s : ByteArray} {w0 : World} {cs : Array Value} {i : Nat} {w : World}

set_option maxRecDepth 100000 in
set_option maxHeartbeats 4000000 in
theorem bandwidth_fresh {s t : ByteArray} {n : Nat} (hn : n < 1125899906842624) (hok : t ∈ knownBands) (hs : s.data.toList = t.data.toList ++ 58 :: Lib.decDigits n) (w : World) :
    Calls Tryz.prog 99 #[.string s] w fun e w' => ∃ g, e = .returned (.tuple #[.pointer (some ⟨g, 0, none⟩), .nilIface]) ∧ w.heap.size ≤ g ∧ w'.heap[g]? = some (.cells #[.bool false, .string t, .int .u64 n] 134 (0, 0)) ∧ Ch (fun _ => False) w w' := by
  obtain ⟨k1, k2, k3⟩ := known_bytes hok
  have hsz : s.size ≤ 4294967295 := by
    have h1 := (split_at hs).2.2.2.2
    have h2 : (Lib.decDigits n).length ≤ 18 := Nat.le_trans (dec_len 17 n (Nat.lt_of_lt_of_le hn (by decide))) (by decide)
    have h3 : t.data.toList.length = t.size := by simp
    omega
  have hsp := split_one hsz hs k1 (fun h => by have := digits_no h; simp at this) w
  rw [bytes_back] at hsp
  have HS := Lib.hid hsp
  have HN := Lib.hid (uint_digits hn)
  have HK := Lib.hid hok
  clear hsp hok hs hsz k1 k3
  go_enter Tryz.func99, Tryz.ntmps99
  go_wp2_with fail
  go_at_call 120
  refine HS.out.mono ?_
  rintro e w1 ⟨g, cap, rfl, hown, hc⟩
  have c0 : w1.cell? ⟨g, 0, none⟩ = some (.string t) := hown.cellAt 0 (by decide)
  have c1 : w1.cell? ⟨g, 1, none⟩ = some (.string ⟨(Lib.decDigits n).toArray⟩) := hown.cellAt 1 (by decide)
  obtain ⟨hgb, hgl⟩ := hown.lt g rfl
  have HCH := Lib.hid hc
  have hD : (ByteArray.mk (Lib.decDigits n).toArray).data.toList = Lib.decDigits n := by simp
  generalize (ByteArray.mk (Lib.decDigits n).toArray) = D at *
  have hDs : D.size ≤ 9223372036854775806 := by
    have h1 : D.size = D.data.toList.length := by simp
    rw [h1, hD]
    exact Nat.le_trans (dec_len 17 n (Nat.lt_of_lt_of_le hn (by decide))) (by decide)
  have hp : ∀ W, Calls Tryz.prog 133 #[.string t, .string ⟨#[88, 45]⟩] W fun e w' => e = .returned (.bool false) ∧ w' = W := fun W => by
    have h1 := Tryz.strings_HasPrefix t ⟨#[88, 45]⟩ W
    rw [show (ByteArray.mk #[88, 45]).data.toList = [88, 45] from rfl, k2] at h1
    exact h1
  have hu : ∀ W, Calls Tryz.prog 136 #[.string D, .int .i64 10, .int .i64 64] W fun e w' => e = .returned (.tuple #[.int .u64 n, .nilIface]) ∧ Ch (fun _ => False) W w' := fun W =>
    (Tryz.strconv_ParseUint_10_at64_ok D hDs n (by rw [hD]; exact HN.out) W).mono (fun e w' ⟨he, hw⟩ => ⟨he, by
      rcases hw with rfl | rfl
      · exact Ch.refl _ _
      · exact Ch.of_below (Lib.bytesWorld_below W 5 D)⟩)
  have hb1 : (w1.alloc (.cells #[.string ⟨#[67, 84]⟩, .string ⟨#[65, 83]⟩, .string ⟨#[84, 73, 65, 83]⟩, .string ⟨#[82, 83]⟩, .string ⟨#[82, 82]⟩] 9)).heap[w1.heap.size]? = some (.cells #[.string ⟨#[67, 84]⟩, .string ⟨#[65, 83]⟩, .string ⟨#[84, 73, 65, 83]⟩, .string ⟨#[82, 83]⟩, .string ⟨#[82, 82]⟩] 9 (0, 0)) := heap_alloc_new _ _
  have HP := Lib.hid hp
  have HU := Lib.hid hu
  have HB1 := Lib.hid hb1
  clear hp hu hD hDs hc hown hgb hgl hn hb1 k2
  have hany : Calls Tryz.prog 135 #[.string t, .slice (some ⟨w1.heap.size, 0, none⟩) 5 5] (w1.alloc (.cells #[.string ⟨#[67, 84]⟩, .string ⟨#[65, 83]⟩, .string ⟨#[84, 73, 65, 83]⟩, .string ⟨#[82, 83]⟩, .string ⟨#[82, 82]⟩] 9)) fun e w' => e = .returned (.bool true) ∧ (w1.alloc (.cells #[.string ⟨#[67, 84]⟩, .string ⟨#[65, 83]⟩, .string ⟨#[84, 73, 65, 83]⟩, .string ⟨#[82, 83]⟩, .string ⟨#[82, 82]⟩] 9)) = w' := by
    have h1 := anyOf_any w1.heap.size 0 5 5 knownBands t (w1.alloc (.cells #[.string ⟨#[67, 84]⟩, .string ⟨#[65, 83]⟩, .string ⟨#[84, 73, 65, 83]⟩, .string ⟨#[82, 83]⟩, .string ⟨#[82, 82]⟩] 9)) (by decide) (by decide) (fun j hj => by
      have h5 : j < 5 := hj
      have : j = 0 ∨ j = 1 ∨ j = 2 ∨ j = 3 ∨ j = 4 := by omega
      rcases this with rfl | rfl | rfl | rfl | rfl <;> exact blk_cell HB1.out rfl)
    rw [show knownBands.take 5 = knownBands from rfl, (Lib.containsS_iff knownBands t).2 HK.out] at h1
    exact h1
  have HA := Lib.hid hany
  have hcx : Ch (fun _ => False) w1 (w1.alloc (.cells #[.string ⟨#[67, 84]⟩, .string ⟨#[65, 83]⟩, .string ⟨#[84, 73, 65, 83]⟩, .string ⟨#[82, 83]⟩, .string ⟨#[82, 82]⟩] 9)) := Ch.grown (World.grownBy_alloc _ _ none) (by simp)
  have HCX := Lib.hid hcx
  have e0 := hcx.cell c0 id
  have e1 := hcx.cell c1 id
  clear hany hcx
  go_wp2_with (first | (go_at_call 133; refine (HP.out w1).mono ?_; rintro e w2 ⟨rfl, rfl⟩) | (go_at_call 135; refine HA.out.mono ?_; rintro e w2 ⟨rfl, rfl⟩) | fail)
  go_at_call 136
  refine (HU.out _).mono ?_
  rintro e w3 ⟨rfl, hc3⟩
  have f0 := hc3.cell e0 id
  have HC3 := Lib.hid ((HCH.out.trans HCX.out).trans hc3)
  clear hc3 c0 c1 e0 e1
  go_wp2
  refine bodyPost_ret (v := .tuple #[.pointer (some ⟨w3.heap.size, 0, none⟩), .nilIface]) (by simp [results, Tryz.results99]) rfl ?_
  exact ⟨_, rfl, HC3.out.size, heap_alloc_new _ _, HC3.out.trans (Ch.grown (World.grownBy_alloc _ _ none) (by simp))⟩

theorem bandwidth_as1 (w : World) : Calls Tryz.prog 99 #[.string ⟨#[65, 83, 58, 49]⟩] w fun e w' => ∃ g, e = .returned (.tuple #[.pointer (some ⟨g, 0, none⟩), .nilIface]) ∧ w.heap.size ≤ g ∧ w'.heap[g]? = some (.cells #[.bool false, .string ⟨#[65, 83]⟩, .int .u64 1] 134 (0, 0)) ∧ Ch (fun _ => False) w w' :=
  bandwidth_fresh (t := ⟨#[65, 83]⟩) (n := 1) (by decide) (by simp [knownBands]) (by decide +kernel) w

set_option maxRecDepth 100000 in
set_option maxHeartbeats 4000000 in
/-- 'b=AS:1'. -/
theorem band_line {Bs n : Nat} {v : Value} {xs : List Value} (h : St ae S L D C s w0 cs i w) {r : List UInt8} (hl : s.data.toList.drop i = 65 :: 83 :: 58 :: 49 :: 13 :: 10 :: r)
    (hv : cs[13]? = some v) (hown : w.ownsRow Bs 134 3 v n xs) (hB : Bs ≤ w.heap.size) (hB6 : 6 < Bs) (hn : n ≤ 100000) (hS : ∀ k, v.ownBlock = some k → S k) :
    Calls Tryz.prog 209 #[.pointer (some ⟨L, 0, none⟩)] w fun e w' => e = .returned (.tuple #[.func (.func 216) #[] #[], .nilIface]) ∧
      ∃ g cap, St ae S L D C s w0 (cs.setIfInBounds 13 (.slice (some ⟨g, 0, none⟩) (n + 1) cap)) (i + 6) w' ∧ w'.ownsRow Bs 134 3 (.slice (some ⟨g, 0, none⟩) (n + 1) cap) (n + 1) (xs ++ [.bool false, .string ⟨#[65, 83]⟩, .int .u64 1]) ∧ (∀ k, (Value.slice (some ⟨g, 0, none⟩) (n + 1) cap).ownBlock = some k → v.ownBlock = some k ∨ w.heap.size ≤ k) := by
  have hn5 : lead notLf (s.data.toList.drop i) = 5 := by rw [hl]; rfl
  have hlen : i + 6 ≤ s.size := drop_len hl (by simp) h.le
  have hst : (⟨((s.data.toList.drop i).take (5 - crs s i 5)).toArray⟩ : ByteArray) = ⟨#[65, 83, 58, 49]⟩ := by
    unfold crs; rw [hl]; rfl
  have hline := line_ok h.lx hn5 (by omega)
  rw [hst] at hline
  have H := Lib.hid h
  have HLine := Lib.hid hline
  have HO0 := Lib.hid hown
  have HVC := Lib.hid hv
  have HSX := Lib.hid hS
  have HROW := Lib.hid (h.row hown hB6 (by decide) (by decide))
  clear h hn5 hl hst hline hown hv hS
  go_enter Tryz.func209, Tryz.ntmps209
  go_wp2_with fail
  refine HLine.out.mono ?_
  rintro e w1 ⟨rfl, hm1⟩
  have H1 := Lib.hid (H.out.mv hm1 hlen)
  have HO1 := Lib.hid (own_chX HO0.out (hm1.ch (S := fun k => k = L) rfl) (fun k hk hv => (HROW.out k hv).1 hk))
  have HS1 := Lib.hid (show w.heap.size ≤ w1.heap.size by rw [hm1.heap]; simp [World.setCell])
  clear hm1
  go_wp2_with fail
  refine (bandwidth_as1 _).mono ?_
  rintro e w2 ⟨g, rfl, hgl, hg2, hc2⟩
  have H2 := Lib.hid (H1.out.chF hc2)
  have H2D := Lib.hid H2.out.desc
  have HOWN := Lib.hid (own_ch HO1.out hc2)
  have HG := Lib.hid (show w2.heap[g]? = some (.cells #[.bool false, .string ⟨#[65, 83]⟩, .int .u64 1] 134 (0, 0)) ∧ ¬ (v.ownBlock = some g) from ⟨hg2, fun e => by have := (HO1.out.lt g e).2; omega⟩)
  have HS2 := Lib.hid (Nat.le_trans HS1.out hc2.size)
  have HZW := Lib.hid HS2.out
  have HLW := Lib.hid (Nat.le_trans hB HS2.out)
  have HLBK := Lib.hid (show ¬ (v.ownBlock = some L) from fun e => (HROW.out L e).1 rfl)
  have HDBK := Lib.hid (show ¬ (v.ownBlock = some D) from fun e => (HROW.out D e).2.1 rfl)
  clear hc2 hg2 hgl
  go_upto_region 7 with fail
  refine wp_region_ops8 (by kernel_rfl) [25, 26, 27, 28, 29, 30, 31, 32, 33, 34, 35, 36, 37, 38, 39, 40, 41, 42] 18 [] (by kernel_rfl) (by kernel_rfl) (by kernel_rfl) (banT L D g Bs w.heap.size n v xs) (appR Bs 134 3 n v xs 15 w2) ⟨Ch.of_heap (Ch.refl _ w2) rfl rfl rfl rfl, .inr HOWN.out⟩ (fun q hq => by cases hq) ?_ ?_
  · intro i oo hi ho A f W' hf hdep hcl hR hr hx K hK
    have hRc := hR.1
    have hLW : Bs ≤ W'.heap.size := Nat.le_trans HLW.out hRc.size
    have hZW : w.heap.size ≤ W'.heap.size := Nat.le_trans HZW.out hRc.size
    have hL0 : W'.cell? ⟨L, 0, none⟩ = some (.pointer (some ⟨D, 0, none⟩)) := hRc.cell H2.out.p0 HLBK.out
    have hD : W'.heap[D]? = some (.cells cs 108 (0, 0)) := (hRc.block D (blk_lt H2.out.desc) HDBK.out).trans H2.out.desc
    have hDv := HVC.out
    have hg : W'.heap[g]? = some (.cells #[.bool false, .string ⟨#[65, 83]⟩, .int .u64 1] 134 (0, 0)) := (hRc.block g (blk_lt HG.out.1) HG.out.2).trans HG.out.1
    exact match i, hi, ho with
      | 0, _, ho => by
        obtain rfl := Option.some.inj ho
        have e0 : A.tmps[0]?.getD undef = .pointer (some ⟨L, 0, none⟩) := (eval_getD A 0).symm.trans (hx 0 (by decide))
        unfold Oper.wp execOp
        go_simp
        have hcc : Ch (fun _ => False) W' _ := Ch.refl _ _
        exact hK _ _ (fun d hd => by cases hd; exact rfl) (appR_step (by decide) hcc hR) (fun d _ _ h => ban_stay hcc h)
      | 1, _, ho => by
        obtain rfl := Option.some.inj ho
        have e25 : A.tmps[25]?.getD undef = .pointer (some ⟨L, 0, none⟩) := (eval_getD A 25).symm.trans (hr 25 (by decide) (by decide))
        unfold Oper.wp execOp
        go_simp
        have hcc : Ch (fun _ => False) W' _ := Ch.refl _ _
        exact hK _ _ (fun d hd => by cases hd; exact rfl) (appR_step (by decide) hcc hR) (fun d _ _ h => ban_stay hcc h)
      | 2, _, ho => by
        obtain rfl := Option.some.inj ho
        have e26 : A.tmps[26]?.getD undef = .pointer (some ⟨L, 0, none⟩) := (eval_getD A 26).symm.trans (hr 26 (by decide) (by decide))
        unfold Oper.wp execOp
        go_simp
        have hcc : Ch (fun _ => False) W' _ := Ch.refl _ _
        exact hK _ _ (fun d hd => by cases hd; exact rfl) (appR_step (by decide) hcc hR) (fun d _ _ h => ban_stay hcc h)
      | 3, _, ho => by
        obtain rfl := Option.some.inj ho
        have e27 : A.tmps[27]?.getD undef = .pointer (some ⟨L, 0, none⟩) := (eval_getD A 27).symm.trans (hr 27 (by decide) (by decide))
        have l0 : W'.cell? ⟨L, 0, none⟩ = some (.pointer (some ⟨D, 0, none⟩)) := hL0
        unfold Oper.wp execOp
        go_simp
        have hcc : Ch (fun _ => False) W' _ := Ch.refl _ _
        exact hK _ _ (fun d hd => by cases hd; exact rfl) (appR_step (by decide) hcc hR) (fun d _ _ h => ban_stay hcc h)
      | 4, _, ho => by
        obtain rfl := Option.some.inj ho
        have e0 : A.tmps[0]?.getD undef = .pointer (some ⟨L, 0, none⟩) := (eval_getD A 0).symm.trans (hx 0 (by decide))
        unfold Oper.wp execOp
        go_simp
        have hcc : Ch (fun _ => False) W' _ := Ch.refl _ _
        exact hK _ _ (fun d hd => by cases hd; exact rfl) (appR_step (by decide) hcc hR) (fun d _ _ h => ban_stay hcc h)
      | 5, _, ho => by
        obtain rfl := Option.some.inj ho
        have e29 : A.tmps[29]?.getD undef = .pointer (some ⟨L, 0, none⟩) := (eval_getD A 29).symm.trans (hr 29 (by decide) (by decide))
        unfold Oper.wp execOp
        go_simp
        have hcc : Ch (fun _ => False) W' _ := Ch.refl _ _
        exact hK _ _ (fun d hd => by cases hd; exact rfl) (appR_step (by decide) hcc hR) (fun d _ _ h => ban_stay hcc h)
      | 6, _, ho => by
        obtain rfl := Option.some.inj ho
        have e30 : A.tmps[30]?.getD undef = .pointer (some ⟨L, 0, none⟩) := (eval_getD A 30).symm.trans (hr 30 (by decide) (by decide))
        unfold Oper.wp execOp
        go_simp
        have hcc : Ch (fun _ => False) W' _ := Ch.refl _ _
        exact hK _ _ (fun d hd => by cases hd; exact rfl) (appR_step (by decide) hcc hR) (fun d _ _ h => ban_stay hcc h)
      | 7, _, ho => by
        obtain rfl := Option.some.inj ho
        have e31 : A.tmps[31]?.getD undef = .pointer (some ⟨L, 0, none⟩) := (eval_getD A 31).symm.trans (hr 31 (by decide) (by decide))
        have l0 : W'.cell? ⟨L, 0, none⟩ = some (.pointer (some ⟨D, 0, none⟩)) := hL0
        unfold Oper.wp execOp
        go_simp
        have hcc : Ch (fun _ => False) W' _ := Ch.refl _ _
        exact hK _ _ (fun d hd => by cases hd; exact rfl) (appR_step (by decide) hcc hR) (fun d _ _ h => ban_stay hcc h)
      | 8, _, ho => by
        obtain rfl := Option.some.inj ho
        have e32 : A.tmps[32]?.getD undef = .pointer (some ⟨D, 0, none⟩) := (eval_getD A 32).symm.trans (hr 32 (by decide) (by decide))
        unfold Oper.wp execOp
        go_simp
        have hcc : Ch (fun _ => False) W' _ := Ch.refl _ _
        exact hK _ _ (fun d hd => by cases hd; exact rfl) (appR_step (by decide) hcc hR) (fun d _ _ h => ban_stay hcc h)
      | 9, _, ho => by
        obtain rfl := Option.some.inj ho
        have e33 : A.tmps[33]?.getD undef = .pointer (some ⟨D, 0, none⟩) := (eval_getD A 33).symm.trans (hr 33 (by decide) (by decide))
        unfold Oper.wp execOp
        go_simp
        have hcc : Ch (fun _ => False) W' _ := Ch.refl _ _
        exact hK _ _ (fun d hd => by cases hd; exact rfl) (appR_step (by decide) hcc hR) (fun d _ _ h => ban_stay hcc h)
      | 10, _, ho => by
        obtain rfl := Option.some.inj ho
        have e34 : A.tmps[34]?.getD undef = .pointer (some ⟨D, 13, none⟩) := (eval_getD A 34).symm.trans (hr 34 (by decide) (by decide))
        have hl0 := blk_cell hD hDv
        unfold Oper.wp execOp
        go_simp
        have hfa : f 15 = false := Bool.eq_false_iff.2 (fun h => by have h1 := hcl 15 h 10 (by decide); rw [hf] at h1; cases h1)
        have hcc : Ch (fun _ => False) W' _ := Ch.refl _ _
        exact hK _ _ (fun d hd => by cases hd; exact .inr ⟨rfl, hR.2.resolve_left (by rw [hfa]; decide)⟩) (appR_step (by decide) hcc hR) (fun d _ _ h => ban_stay hcc h)
      | 11, _, ho => by
        obtain rfl := Option.some.inj ho
        have e6 : A.tmps[6]?.getD undef = .pointer (some ⟨g, 0, none⟩) := (eval_getD A 6).symm.trans (hx 6 (by decide))
        unfold Oper.wp execOp
        go_simp
        have hcc : Ch (fun _ => False) W' _ := Ch.refl _ _
        exact hK _ _ (fun d hd => by cases hd; exact rfl) (appR_step (by decide) hcc hR) (fun d _ _ h => ban_stay hcc h)
      | 12, _, ho => by
        obtain rfl := Option.some.inj ho
        have e36 : A.tmps[36]?.getD undef = .pointer (some ⟨g, 0, none⟩) := (eval_getD A 36).symm.trans (hr 36 (by decide) (by decide))
        unfold Oper.wp execOp
        go_simp
        have hcc : Ch (fun _ => False) W' _ := Ch.refl _ _
        exact hK _ _ (fun d hd => by cases hd; exact rfl) (appR_step (by decide) hcc hR) (fun d _ _ h => ban_stay hcc h)
      | 13, _, ho => by
        obtain rfl := Option.some.inj ho
        have l0 : W'.cell? ⟨g, 0, none⟩ = some (.bool false) := blk_cell hg rfl
        have l1 : W'.cell? ⟨g, 1, none⟩ = some (.string ⟨#[65, 83]⟩) := blk_cell hg rfl
        have l2 : W'.cell? ⟨g, 2, none⟩ = some (.int .u64 1) := blk_cell hg rfl
        have e37 : A.tmps[37]?.getD undef = .pointer (some ⟨g, 0, none⟩) := (eval_getD A 37).symm.trans (hr 37 (by decide) (by decide))
        unfold Oper.wp execOp
        go_simp
        have hcc : Ch (fun _ => False) W' _ := Ch.refl _ _
        exact hK _ _ (fun d hd => by cases hd; exact rfl) (appR_step (by decide) hcc hR) (fun d _ _ h => ban_stay hcc h)
      | 14, _, ho => by
        obtain rfl := Option.some.inj ho
        have e38 : A.tmps[38]?.getD undef = .agg #[.bool false, .string ⟨#[65, 83]⟩, .int .u64 1] := (eval_getD A 38).symm.trans (hr 38 (by decide) (by decide))
        unfold Oper.wp execOp
        go_simp
        have hcc : Ch (fun _ => False) W' (W'.alloc (.cells #[.bool false, .string ⟨#[65, 83]⟩, .int .u64 1] 134)) := Ch.grown (World.grownBy_alloc _ _ none) (by simp)
        exact hK _ _ (fun d hd => by cases hd; exact .inr ⟨_, rfl, heap_alloc_new _ _⟩) (appR_step (by decide) hcc hR) (fun d _ _ h => ban_stay hcc h)
      | 15, _, ho => by
        obtain rfl := Option.some.inj ho
        have hls : f 15 = true ∨ (A.eval (.tmp 35) = v ∧ W'.ownsRow Bs 134 3 v n xs) := hr 35 (by decide) (by decide)
        obtain ⟨els, hown⟩ := hls.resolve_left (by rw [hf]; decide)
        have hbs : f 15 = true ∨ ∃ (k : Nat) , A.eval (.tmp 39) = .slice (some ⟨k, 0, none⟩) 1 1 ∧ W'.heap[k]? = some (.cells #[.bool false, .string ⟨#[65, 83]⟩, .int .u64 1] 134 (0, 0)) := hr 39 (by decide) (by decide)
        obtain ⟨k, ebs, hk⟩ := hbs.resolve_left (by rw [hf]; decide)
        obtain ⟨i0, hi0, hz0, hz1, hz2⟩ := info_parts info134_c
        refine wp_append_lies _ (.tmp 35) (.tmp 39) 101 rfl Bs 134 i0 _ 3 32 Tryz.underlying101 hi0 hz0 hz1 hz2 rfl (by decide) v n xs els hown ⟨k, 0, none⟩ 1 1 [.bool false, .string ⟨#[65, 83]⟩, .int .u64 1] ebs rfl (World.news_of_block hk) (by simp [Value.oneCell']) (by decide) (by unfold maxLen; omega) (by omega) hLW _ rfl ?_
        intro g cap W2 hown2 hgrow2 hat hlt
        have hco : Ch (fun j => v.ownBlock = some j) W' W2 := Ch.grown hgrow2 (fun j hj => hj)
        exact hK _ _ (fun d hd => by cases hd; exact ⟨by simp [upd], hown2, lies_at hat hZW⟩) (appR_app hco hR) (fun d _ hne h => ban_stayA (fun e => hne (by subst e; rfl)) hown hco h)
      | 16, _, ho => by
        obtain rfl := Option.some.inj ho
        have e28 : A.tmps[28]?.getD undef = .pointer (some ⟨D, 0, none⟩) := (eval_getD A 28).symm.trans (hr 28 (by decide) (by decide))
        unfold Oper.wp execOp
        go_simp
        have hcc : Ch (fun _ => False) W' _ := Ch.refl _ _
        exact hK _ _ (fun d hd => by cases hd; exact rfl) (appR_step (by decide) hcc hR) (fun d _ _ h => ban_stay hcc h)
      | 17, _, ho => by
        obtain rfl := Option.some.inj ho
        have e41 : A.tmps[41]?.getD undef = .pointer (some ⟨D, 0, none⟩) := (eval_getD A 41).symm.trans (hr 41 (by decide) (by decide))
        unfold Oper.wp execOp
        go_simp
        have hcc : Ch (fun _ => False) W' _ := Ch.refl _ _
        exact hK _ _ (fun d hd => by cases hd; exact rfl) (appR_step (by decide) hcc hR) (fun d _ _ h => ban_stay hcc h)
      | n + 18, hi, _ => absurd hi (by omega)
  · intro oo ho u f W3 hfa hR hu
    obtain rfl := Option.some.inj ho
    have hap : f 15 = true ∧ (W3.ownsRow Bs 134 3 (u 40) (n + 1) (xs ++ [.bool false, .string ⟨#[65, 83]⟩, .int .u64 1]) ∧ lies v w.heap.size ((u 40))) := hu 40 (by decide)
    have hRc := hR.1
    have hv1 : u 42 = .pointer (some ⟨D, 13, none⟩) := hu 42 (by decide)
    have hb3 : W3.heap[D]? = some (.cells cs 108 (0, 0)) := (hRc.block D (blk_lt H2D.out) HDBK.out).trans H2D.out
    have hf3 : W3.frozen? ⟨D, 13, none⟩ = false := blk_frozen hb3
    have hc3 : W3.cell? ⟨D, 13, none⟩ = some v := blk_cell hb3 HVC.out
    have ⟨ho9, hz9⟩ := hap.2
    obtain ⟨g9, cap9, hvn⟩ := own_form ho9
    rw [hvn] at ho9 hz9
    have HO9a := Lib.hid ho9
    have HZ9 := Lib.hid hz9
    have HRC := Lib.hid hRc
    clear hR hu hfa hb3 hRc hap ho9 hz9
    rw [ban_frame, hv1, hvn]
    unfold Oper.wp execOp
    go_simp
    clear hv1 hf3 hc3 hvn
    have H3 := H2.out.chX HRC.out (fun k hk => HROW.out k hk) HSX.out
    go_wp2_with fail
    go_ret2
    refine ⟨rfl, g9, cap9, H3.set 13 _, ?_, fun k hk => ?_⟩
    · exact owns_same HO9a.out fun k hk => blk_set_other _ (fun e => own_not HO9a.out H3.desc (by decide) (by rw [hk, e]))
    · exact HZ9.out k hk

end
end Go.Proofs.YtimonhimfioohaaGreatDoor

namespace Go.Proofs.YtimonhimfioohaaGreatDoor
open Go.RowKit

theorem heap_new_set (w : World) (a : Addr) (v : Value) (o : Obj) : ((w.setCell a v).alloc o).heap[w.heap.size]? = some o := by
  have h := heap_alloc_new (w.setCell a v) o
  rwa [show (w.setCell a v).heap.size = w.heap.size from by simp [World.setCell]] at h

theorem anyOf_in {x : ByteArray} (zs : List ByteArray) {n B : Nat} {w : World} {ct : Array Value} (hB : w.heap[B]? = some (.cells ct 9 (0, 0))) (hct : ct = (zs.map Value.string).toArray) (hn : zs.length = n) (hbig : zs.length ≤ 100) (hx : Lib.containsS zs x = true) :
    Calls Tryz.prog 135 #[.string x, .slice (some ⟨B, 0, none⟩) n n] w fun e w' => e = .returned (.bool true) ∧ w = w' := by
  subst hn hct
  have h := anyOf_any B 0 zs.length zs.length zs x w (Nat.le_refl _) (by omega) (fun j hj => by
    rw [Nat.zero_add]
    refine blk_cell hB ?_
    simp [hj])
  rw [List.take_length, hx] at h
  exact h

section
variable {ae : Addr} {S : Nat → Prop} {L D C : Nat} {s : ByteArray} {w0 : World} {cs : Array Value} {i : Nat} {w : World}

/-- The state in unmarshalConnectionInformation's walk: its own variable lies in block T. -/
structure CSt (ae : Addr) (S : Nat → Prop) (L D C : Nat) (s : ByteArray) (w0 : World) (cs : Array Value) (T : Nat) (ct : Array Value) (i : Nat) (W : World) : Prop where
  st : St ae S L D C s w0 cs i W
  tb : W.heap[T]? = some (.cells ct 256 (0, 0))
  tl : T ≠ L
  td : T ≠ D
  t6 : T ≠ 6
  ts : w0.heap.size ≤ T

theorem CSt.mv {T j : Nat} {ct : Array Value} {W W' : World} (h : CSt ae S L D C s w0 cs T ct i W) (m : Mv L (2 + 1) j W W') (hj : j ≤ s.size) : CSt ae S L D C s w0 cs T ct j W' :=
  ⟨h.st.mv m hj, by rw [m.blk_other (Ne.symm h.tl)]; exact h.tb, h.tl, h.td, h.t6, h.ts⟩
theorem CSt.chF {T : Nat} {ct : Array Value} {W W' : World} (h : CSt ae S L D C s w0 cs T ct i W) (hc : Ch (fun _ => False) W W') : CSt ae S L D C s w0 cs T ct i W' :=
  ⟨h.st.chF hc, (hc.block _ (blk_lt h.tb) id).trans h.tb, h.tl, h.td, h.t6, h.ts⟩
theorem CSt.set {T : Nat} {ct : Array Value} {W : World} (h : CSt ae S L D C s w0 cs T ct i W) (k : Nat) (v : Value) : CSt ae S L D C s w0 cs T (ct.setIfInBounds k v) i (W.setCell ⟨T, k, none⟩ v) :=
  ⟨h.st.old (grownBy_set W T k v) (by simp; exact Ne.symm h.tl) (by simp; exact Ne.symm h.td) (by simp; exact Ne.symm h.t6) (fun k hk => .inl (by cases hk; exact h.ts)), blk_set v h.tb, h.tl, h.td, h.t6, h.ts⟩
theorem CSt.alloc {T : Nat} {ct : Array Value} {W : World} (h : CSt ae S L D C s w0 cs T ct i W) (o : Obj) : CSt ae S L D C s w0 cs T ct i (W.alloc o) := h.chF (Ch.grown (World.grownBy_alloc _ _ none) (by simp))

set_option maxRecDepth 100000 in
set_option maxHeartbeats 4000000 in
/-- 'IN IP4 a'. -/
theorem conn_read (h : St ae S L D C s w0 cs i w) {r : List UInt8} (hl : s.data.toList.drop i = 73 :: 78 :: 32 :: 73 :: 80 :: 52 :: 32 :: 97 :: 13 :: 10 :: r) (hr : lead isNl r = 0) :
    Calls Tryz.prog 215 #[.pointer (some ⟨L, 0, none⟩)] w fun e w' => ∃ b, e = .returned (.tuple #[.pointer (some ⟨b, 0, none⟩), .nilIface]) ∧ St ae S L D C s w0 cs (i + 10) w' ∧ Ptr w' 256 (sConn w') (some ⟨b, 0, none⟩) ∧ w.heap.size ≤ b := by
  have hlen : i + 10 ≤ s.size := drop_len hl (by simp) h.le
  have HL := Lib.hid hl
  have HX := Lib.hid (show lead isNl (s.data.toList.drop (i + 8)) = 2 from by rw [step_drop hl rfl]; show lead isNl r + 1 + 1 = 2; rw [hr])
  have H0 := Lib.hid (show CSt ae S L D C s w0 cs w.heap.size #[.string ⟨#[]⟩, .string ⟨#[]⟩, .pointer none] i (w.alloc (.cells #[.string ⟨#[]⟩, .string ⟨#[]⟩, .pointer none] 256)) from
    ⟨h.alloc _, heap_new _ _, by have := blk_lt h.lexb; omega, by have := blk_lt h.desc; omega, by have := h.lt6; omega, h.ch.size⟩)
  clear h hl hr
  go_enter Tryz.func215, Tryz.ntmps215
  go_wp2_with fail
  obtain ⟨T, hT⟩ : ∃ T, w.heap.size = T := ⟨_, rfl⟩
  rw [hT] at H0 ⊢
  have HW := Lib.hid (Nat.le_of_eq hT)
  clear hT
  generalize w.alloc (.cells #[.string ⟨#[]⟩, .string ⟨#[]⟩, .pointer none] 256) = W0 at *
  refine (field_at H0.out.st HL.out (by simp) (n := 2) (m := 3) rfl (t := ⟨#[73, 78]⟩) rfl (j := i + 3) rfl).mono ?_
  rintro e w1 ⟨rfl, hm1⟩
  have H1 := Lib.hid (H0.out.mv hm1 (by omega))
  have z1 := blk_frozen (j := 0) H1.out.tb
  have c1 : w1.cell? ⟨T, 0, none⟩ = some (.string ⟨#[]⟩) := blk_cell H1.out.tb rfl
  clear hm1
  go_wp2_with fail
  refine (anyOf_in (ct := #[.string ⟨#[73, 78]⟩]) (x := ⟨#[73, 78]⟩) [⟨#[73, 78]⟩] (heap_new_set _ _ _ _) rfl rfl (by decide) (by decide +kernel)).mono ?_
  rintro e w2 ⟨rfl, rfl⟩
  have H2 := Lib.hid ((H1.out.set 0 (.string ⟨#[73, 78]⟩)).alloc (.cells #[.string ⟨#[73, 78]⟩] 9))
  clear z1 c1
  generalize (w1.setCell ⟨T, 0, none⟩ (.string ⟨#[73, 78]⟩)).alloc (.cells #[.string ⟨#[73, 78]⟩] 9) = W2 at *
  go_wp2_with fail
  refine (field_at H2.out.st (step_drop HL.out rfl) (by simp) (n := 3) (m := 4) rfl (t := ⟨#[73, 80, 52]⟩) rfl (j := i + 7) rfl).mono ?_
  rintro e w3 ⟨rfl, hm3⟩
  have H3 := Lib.hid (H2.out.mv hm3 (by omega))
  have z3 := blk_frozen (j := 1) H3.out.tb
  have c3 : w3.cell? ⟨T, 1, none⟩ = some (.string ⟨#[]⟩) := blk_cell H3.out.tb rfl
  clear hm3
  go_wp2_with fail
  refine (anyOf_in (ct := #[.string ⟨#[73, 80, 52]⟩, .string ⟨#[73, 80, 54]⟩]) (x := ⟨#[73, 80, 52]⟩) [⟨#[73, 80, 52]⟩, ⟨#[73, 80, 54]⟩] (heap_new_set _ _ _ _) rfl rfl (by decide) (by decide +kernel)).mono ?_
  rintro e w4 ⟨rfl, rfl⟩
  have H4 := Lib.hid ((H3.out.set 1 (.string ⟨#[73, 80, 52]⟩)).alloc (.cells #[.string ⟨#[73, 80, 52]⟩, .string ⟨#[73, 80, 54]⟩] 9))
  clear z3 c3
  generalize (w3.setCell ⟨T, 1, none⟩ (.string ⟨#[73, 80, 52]⟩)).alloc (.cells #[.string ⟨#[73, 80, 52]⟩, .string ⟨#[73, 80, 54]⟩] 9) = W4 at *
  go_wp2_with fail
  refine (field_at H4.out.st (step_drop HL.out rfl) (by simp) (n := 1) (m := 1) rfl (t := ⟨#[97]⟩) rfl (j := i + 8) rfl).mono ?_
  rintro e w5 ⟨rfl, hm5⟩
  have H5 := Lib.hid (H4.out.mv hm5 (by omega))
  clear hm5
  have H6 := Lib.hid (H5.out.alloc (.cells #[.string ⟨#[]⟩, .pointer none, .pointer none] 258))
  have hA6 : (w5.alloc (.cells #[.string ⟨#[]⟩, .pointer none, .pointer none] 258)).heap[w5.heap.size]? = some (.cells #[.string ⟨#[]⟩, .pointer none, .pointer none] 258 (0, 0)) := heap_new _ _
  have hne : T ≠ w5.heap.size := by have := blk_lt H5.out.tb; omega
  have hA7 := (blk_set_other (j := 2) (.pointer (some ⟨w5.heap.size, 0, none⟩)) hne).trans hA6
  have z6 := blk_frozen (j := 2) H6.out.tb
  have c6 : (w5.alloc (.cells #[.string ⟨#[]⟩, .pointer none, .pointer none] 258)).cell? ⟨T, 2, none⟩ = some (.pointer none) := blk_cell H6.out.tb rfl
  have z7 := blk_frozen (j := 0) hA7
  have c7 : ((w5.alloc (.cells #[.string ⟨#[]⟩, .pointer none, .pointer none] 258)).setCell ⟨T, 2, none⟩ (.pointer (some ⟨w5.heap.size, 0, none⟩))).cell? ⟨w5.heap.size, 0, none⟩ = some (.string ⟨#[]⟩) := blk_cell hA7 rfl
  have h7 := H6.out.set 2 (.pointer (some ⟨w5.heap.size, 0, none⟩))
  have hl5 := blk_lt H5.out.st.lexb
  have hd5 := blk_lt H5.out.st.desc
  have h65 := H5.out.st.lt6
  have hc5 := H5.out.st.ch.size
  have H8 := Lib.hid (show CSt ae S L D C s w0 cs T #[.string ⟨#[73, 78]⟩, .string ⟨#[73, 80, 52]⟩, .pointer (some ⟨w5.heap.size, 0, none⟩)] (i + 8) (((w5.alloc (.cells #[.string ⟨#[]⟩, .pointer none, .pointer none] 258)).setCell ⟨T, 2, none⟩ (.pointer (some ⟨w5.heap.size, 0, none⟩))).setCell ⟨w5.heap.size, 0, none⟩ (.string ⟨#[97]⟩)) from
    ⟨h7.st.old (grownBy_set _ _ 0 _) (by simp; omega) (by simp; omega) (by simp; omega) (fun k hk => .inl (by cases hk; omega)), (blk_set_other _ (Ne.symm hne)).trans h7.tb, h7.tl, h7.td, h7.t6, h7.ts⟩)
  have HA8 := Lib.hid (show (((w5.alloc (.cells #[.string ⟨#[]⟩, .pointer none, .pointer none] 258)).setCell ⟨T, 2, none⟩ (.pointer (some ⟨w5.heap.size, 0, none⟩))).setCell ⟨w5.heap.size, 0, none⟩ (.string ⟨#[97]⟩)).heap[w5.heap.size]? = some (.cells #[.string ⟨#[97]⟩, .pointer none, .pointer none] 258 (0, 0)) from blk_set _ hA7)
  have HAL := Lib.hid (show L ≠ w5.heap.size by omega)
  clear hA6 hA7 hne h7 hl5 hd5 h65 hc5
  go_wp2_with fail
  refine (nextLine_ok H8.out.st.lx).mono ?_
  rw [HX.out]
  rintro e w9 ⟨rfl, hm9⟩
  have H9 := Lib.hid (H8.out.mv hm9 hlen)
  have HA9 := Lib.hid ((hm9.blk_other HAL.out).trans HA8.out)
  clear hm9 z6 c6 z7 c7
  go_wp2_with fail
  go_ret2
  refine ⟨T, rfl, H9.out.st, Ptr.mk H9.out.tb ⟨_, _, _, rfl, Ptr.mk HA9.out ⟨_, _, _, rfl, Ptr.nil _ _ _, Ptr.nil _ _ _⟩⟩, HW.out⟩
end

section
variable {ae : Addr} {S : Nat → Prop} {L D C : Nat} {s : ByteArray} {w0 : World} {cs : Array Value} {i : Nat} {w : World}

set_option maxRecDepth 100000 in
set_option maxHeartbeats 1600000 in
/-- 'c=IN IP4 a'. -/
theorem conn_line (h : St ae S L D C s w0 cs i w) {r : List UInt8} (hl : s.data.toList.drop i = 73 :: 78 :: 32 :: 73 :: 80 :: 52 :: 32 :: 97 :: 13 :: 10 :: r) (hr : lead isNl r = 0) :
    Calls Tryz.prog 208 #[.pointer (some ⟨L, 0, none⟩)] w fun e w' => e = .returned (.tuple #[.func (.func 216) #[] #[], .nilIface]) ∧
      ∃ b, St ae S L D C s w0 (cs.setIfInBounds 12 (.pointer (some ⟨b, 0, none⟩))) (i + 10) w' ∧ Ptr w' 256 (sConn w') (some ⟨b, 0, none⟩) ∧ w.heap.size ≤ b := by
  have F1 := Lib.hid (conn_read h.drew hl hr)
  have hp1 := h.p0
  have H0 := Lib.hid h
  clear h hl hr
  go_enter Tryz.func208, Tryz.ntmps208
  go_wp2_with fail
  go_region_held3 (fun w' => w'.cell? ⟨L, 0, none⟩ = some (.pointer (some ⟨D, 0, none⟩))) (first | (simp [go_sem, *]; done)) (first | (go_at_call 215; refine F1.out.mono ?_; rintro e w1 ⟨b, rfl, h1, hb, hbl⟩; have hq1 := h1.p0; have hy1 := h1.fz 12; obtain ⟨v1, hc1⟩ := h1.dc 12 (by decide); have H1a := Lib.hid h1; have HB := Lib.hid hb; have HBL := Lib.hid hbl; clear h1 hb hbl))
  have HS := Lib.hid ((H1a.out).set 12 (.pointer (some ⟨b, 0, none⟩)))
  clear hp1 hq1 hy1 hc1
  have HPB := Lib.hid (show Ptr (w1.setCell ⟨D, 12, none⟩ (.pointer (some ⟨b, 0, none⟩))) 256 (sConn (w1.setCell ⟨D, 12, none⟩ (.pointer (some ⟨b, 0, none⟩)))) (some ⟨b, 0, none⟩) from by
    have hN : ∀ {T : TypeId}, 108 ≠ T → NotT w1 (fun k => k = D) T := fun h => NotT.one H1a.out.desc h
    exact Keeps.conn HB.out (hN (by decide)) (hN (by decide)) (hN (by decide)) _ (Ch.set (S := fun k => k = D) w1 rfl _))
  go_wp2_with fail
  go_ret2
  exact ⟨rfl, b, HS.out, HPB.out, HBL.out⟩

theorem parseURL_any (t : ByteArray) (w : World) : Calls Tryz.prog 122 #[.string t] w fun e w' => e = .returned (.tuple #[.pointer (some ⟨w.heap.size, 0, none⟩), .nilIface]) ∧ w'.heap[w.heap.size]? = some (.cells #[.string t] 249 (0, 0)) ∧ Ch (fun _ => False) w w' := by
  have HN := Lib.hid (heap_alloc_new w (.cells #[.string t] 249))
  go_enter Tryz.func122, Tryz.ntmps122
  go_wp2_with fail
  refine bodyPost_ret (v := .tuple #[.pointer (some ⟨w.heap.size, 0, none⟩), .nilIface]) (by simp [results, Tryz.results122]) rfl ?_
  exact ⟨rfl, HN.out, Ch.grown (World.grownBy_alloc _ _ none) (by simp)⟩

set_option maxRecDepth 100000 in
set_option maxHeartbeats 1600000 in
/-- 'u=http://a'. -/
theorem uri_line (h : St ae S L D C s w0 cs i w) {r : List UInt8} (hl : s.data.toList.drop i = 104 :: 116 :: 116 :: 112 :: 58 :: 47 :: 47 :: 97 :: 13 :: 10 :: r) :
    Calls Tryz.prog 205 #[.pointer (some ⟨L, 0, none⟩)] w fun e w' => e = .returned (.tuple #[.func (.func 212) #[] #[], .nilIface]) ∧
      ∃ b, St ae S L D C s w0 (cs.setIfInBounds 9 (.pointer (some ⟨b, 0, none⟩))) (i + 10) w' ∧ w'.heap[b]? = some (.cells #[.string ⟨#[104, 116, 116, 112, 58, 47, 47, 97]⟩] 249 (0, 0)) := by
  have hn : lead notLf (s.data.toList.drop i) = 9 := by rw [hl]; rfl
  have hlen : i + 10 ≤ s.size := drop_len hl (by simp) h.le
  have hst : (⟨((s.data.toList.drop i).take (9 - crs s i 9)).toArray⟩ : ByteArray) = ⟨#[104, 116, 116, 112, 58, 47, 47, 97]⟩ := by
    unfold crs; rw [hl]; rfl
  have hline := line_ok h.lx hn (by omega)
  rw [hst] at hline
  have H := Lib.hid h
  have HLine := Lib.hid hline
  clear h hn hl hst hline
  go_enter Tryz.func205, Tryz.ntmps205
  go_wp2_with fail
  refine HLine.out.mono ?_
  rintro e w1 ⟨rfl, hm1⟩
  have h1 := H.out.mv hm1 hlen
  have hp1 := h1.p0
  have H1 := Lib.hid h1
  clear hm1 h1
  go_upto_region 4 with fail
  go_region_held3 (fun w' => w'.cell? ⟨L, 0, none⟩ = some (.pointer (some ⟨D, 0, none⟩))) (first | (simp [go_sem, *]; done)) (first | (go_at_call 122; refine (parseURL_any _ _).mono ?_; rintro e w2 ⟨rfl, hb, hc2⟩; have h2 := H1.out.drew.chF hc2; have hq2 := h2.p0; have hy2 := h2.fz 9; obtain ⟨v2, hcv⟩ := h2.dc 9 (by decide); have H2 := Lib.hid h2; have HB := Lib.hid hb; clear h2 hb hc2))
  have HS := Lib.hid ((H2.out).set 9 (.pointer (some ⟨w1.heap.size, 0, none⟩)))
  have HNE := Lib.hid (show D ≠ w1.heap.size by have := blk_lt H1.out.desc; omega)
  clear hp1 hq2 hy2 hcv
  go_wp2_with fail
  go_ret2
  exact ⟨rfl, w1.heap.size, HS.out, (blk_set_other _ HNE.out).trans HB.out⟩
end
end Go.Proofs.YtimonhimfioohaaGreatDoor

namespace Go.Proofs.YtimonhimfioohaaGreatDoor
open Go.RowKit



theorem own_set {w : World} {b e size n cap g j : Nat} {u : Value} {xs : List Value} (h : w.ownsRow b e size (.slice (some ⟨g, 0, none⟩) n cap) n xs) : (w.setCell ⟨g, j, none⟩ u).ownsRow b e size (.slice (some ⟨g, 0, none⟩) n cap) n (xs.set j u) := by
  refine ⟨by simp [h.1], .inr ?_⟩
  rcases h.2 with ⟨h1, _⟩ | ⟨g', cap', cur, he, hb, hg, hn, hm, hs, ht⟩
  · cases h1
  · cases he
    exact ⟨g, cap, cur.setIfInBounds j u, rfl, hb, blk_set u hg, hn, hm, by simp [hs], by rw [Array.toList_setIfInBounds, List.take_set, ht]⟩

theorem ne_of_ty {w : World} {a b T U : Nat} {c d : Array Value} {f g : Nat × Nat} (h : w.heap[a]? = some (.cells c T f)) (k : w.heap[b]? = some (.cells d U g)) (hT : T ≠ U) : a ≠ b := fun e => by
  rw [e, k] at h
  cases h
  exact hT rfl

/-- Over 'b' no colon is found. -/
theorem indexRune_b (w : World) : Calls Tryz.prog 231 #[.string ⟨#[98]⟩, .int .i32 58] w fun e w' => e = .returned (.int .i64 (-1)) ∧ Ch (fun _ => False) w w' := by
  have h1 : ∀ ty, (Instr.next (.pointer (some ⟨w.heap.size, 0, none⟩)) true ty).run Tryz.prog (w.iter ⟨#[98]⟩ 0) = .ok (.tuple #[.bool true, .int .i64 0, .int .i32 98]) (w.iter ⟨#[98]⟩ 1) := fun ty => run_next_ascii w ⟨#[98]⟩ 0 ty (by decide) (by decide)
  have h2 : ∀ ty, (Instr.next (.pointer (some ⟨w.heap.size, 0, none⟩)) true ty).run Tryz.prog (w.iter ⟨#[98]⟩ 1) = .ok (.tuple #[.bool false]) (w.iter ⟨#[98]⟩ 1) := fun ty => run_next_end w ⟨#[98]⟩ 1 ty (by decide)
  go_enter Tryz.func231, Tryz.ntmps231
  go_wp2
  refine wp_loop_rounds 2 ?_
  rw [rounds_succ]
  go_wp2
  rw [rounds_succ]
  go_wp2
  go_ret
  exact ⟨rfl, Ch.grown (World.grownBy_alloc _ _ none) (by simp)⟩

set_option maxRecDepth 100000 in
set_option maxHeartbeats 1600000 in
theorem getSess_any {C Bs n : Nat} {va vm : Value} {xs : List Value} {w : World} (hC : w.heap[C]? = some (.cells #[va, vm] 172 (0, 0))) (ho : w.ownsRow Bs 240 2 va n xs) (hB : Bs ≤ w.heap.size) (hn : n ≤ 100000) :
    Calls Tryz.prog 232 #[.pointer (some ⟨C, 0, none⟩)] w fun e w' => ∃ g cap, e = .returned (.pointer (some ⟨g, n * 2, none⟩)) ∧ w'.heap[C]? = some (.cells #[.slice (some ⟨g, 0, none⟩) (n + 1) cap, vm] 172 (0, 0)) ∧
      w'.ownsRow Bs 240 2 (.slice (some ⟨g, 0, none⟩) (n + 1) cap) (n + 1) (xs ++ [.string ⟨#[]⟩, .string ⟨#[]⟩]) ∧ lies va w.heap.size (.slice (some ⟨g, 0, none⟩) (n + 1) cap) ∧ Ch (fun k => k = C ∨ va.ownBlock = some k) w w' := by
  obtain ⟨i0, hi0, hz0, hz1, hz2⟩ := info_parts info240_c
  have c0 : w.cell? ⟨C, 0, none⟩ = some va := blk_cell hC rfl
  have hcE : Ch (fun _ => False) w (w.alloc (.cells #[.string ⟨#[]⟩, .string ⟨#[]⟩] 240)) := Ch.grown (World.grownBy_alloc _ _ none) (by simp)
  have HC1 := Lib.hid ((hcE.block _ (blk_lt hC) id).trans hC)
  have HCE := Lib.hid hcE
  have HO := Lib.hid (own_ch ho hcE)
  have HCR := Lib.hid (show va.ownBlock ≠ some C from fun e => absurd (own_type ho e hC) (by decide))
  have HS := Lib.hid hcE.size
  have HN := Lib.hid (show (w.alloc (.cells #[.string ⟨#[]⟩, .string ⟨#[]⟩] 240)).heap[w.heap.size]? = some (.cells #[.string ⟨#[]⟩, .string ⟨#[]⟩] 240 (0, 0)) from heap_alloc_new _ _)
  clear hC ho hcE
  go_enter Tryz.func232, Tryz.ntmps232
  go_wp2_with (at_builtin; refine wpList_append_lies _ rfl (.tmp 7) (.tmp 9) 105 rfl Bs 240 i0 _ 2 32 Tryz.underlying105 hi0 hz0 hz1 hz2 rfl (by decide) va n xs rfl HO.out ⟨w.heap.size, 0, none⟩ 1 1 [.string ⟨#[]⟩, .string ⟨#[]⟩] rfl rfl (World.news_of_block HN.out) (by simp [Value.oneCell']) (by decide) (by unfold maxLen; omega) (by omega) (Nat.le_trans hB HS.out) _ rfl ?_; intro g cap w2 hown2 hgrow2 hat hlt; have HG := Lib.hid hgrow2; have HO2 := Lib.hid hown2; have HAT := Lib.hid hat; have hC2 := (hgrow2.block C (blk_lt HC1.out) (Ne.symm HCR.out)).trans HC1.out; have HC2 := Lib.hid hC2; have c2 : w2.cell? ⟨C, 0, none⟩ = some va := blk_cell hC2 rfl; have z2 : w2.frozen? ⟨C, 0, none⟩ = false := blk_frozen hC2; clear hown2 hgrow2 hat hC2)
  have hC3 : (w2.setCell ⟨C, 0, none⟩ (.slice (some ⟨g, 0, none⟩) (n + 1) cap)).heap[C]? = some (.cells #[.slice (some ⟨g, 0, none⟩) (n + 1) cap, vm] 172 (0, 0)) := blk_set _ HC2.out
  have HC3 := Lib.hid hC3
  have c3 : (w2.setCell ⟨C, 0, none⟩ (.slice (some ⟨g, 0, none⟩) (n + 1) cap)).cell? ⟨C, 0, none⟩ = some (.slice (some ⟨g, 0, none⟩) (n + 1) cap) := blk_cell hC3 rfl
  have HO3 := Lib.hid (owns_same (w' := w2.setCell ⟨C, 0, none⟩ (.slice (some ⟨g, 0, none⟩) (n + 1) cap)) HO2.out fun k hk => blk_set_other _ (fun e => own_not HO2.out HC2.out (by decide) (by rw [hk, e])))
  have HCH := Lib.hid (show Ch (fun k => k = C ∨ va.ownBlock = some k) w (w2.setCell ⟨C, 0, none⟩ (.slice (some ⟨g, 0, none⟩) (n + 1) cap)) from
    ((HCE.out.mono (fun _ h => h.elim)).old HG.out (fun k hk => .inr (.inr hk))).old (grownBy_set _ C 0 _) (fun k hk => .inr (.inl (Option.some.inj hk).symm)))
  clear hC3
  generalize w2.setCell ⟨C, 0, none⟩ (.slice (some ⟨g, 0, none⟩) (n + 1) cap) = w3 at *
  clear c0 c2 z2
  go_region
  go_wp2
  go_ret
  exact ⟨g, cap, rfl, HC3.out, HO3.out.drew, lies_at HAT.out HS.out, HCH.out.of_heap rfl rfl rfl rfl⟩

set_option maxRecDepth 100000 in
set_option maxHeartbeats 1600000 in
theorem getMed_any {C Bs n : Nat} {va vm : Value} {xs : List Value} {w : World} (hC : w.heap[C]? = some (.cells #[vm, va] 172 (0, 0))) (ho : w.ownsRow Bs 240 2 va n xs) (hB : Bs ≤ w.heap.size) (hn : n ≤ 100000) :
    Calls Tryz.prog 242 #[.pointer (some ⟨C, 0, none⟩)] w fun e w' => ∃ g cap, e = .returned (.pointer (some ⟨g, n * 2, none⟩)) ∧ w'.heap[C]? = some (.cells #[vm, .slice (some ⟨g, 0, none⟩) (n + 1) cap] 172 (0, 0)) ∧
      w'.ownsRow Bs 240 2 (.slice (some ⟨g, 0, none⟩) (n + 1) cap) (n + 1) (xs ++ [.string ⟨#[]⟩, .string ⟨#[]⟩]) ∧ lies va w.heap.size (.slice (some ⟨g, 0, none⟩) (n + 1) cap) ∧ Ch (fun k => k = C ∨ va.ownBlock = some k) w w' := by
  obtain ⟨i0, hi0, hz0, hz1, hz2⟩ := info_parts info240_c
  have c0 : w.cell? ⟨C, 1, none⟩ = some va := blk_cell hC rfl
  have hcE : Ch (fun _ => False) w (w.alloc (.cells #[.string ⟨#[]⟩, .string ⟨#[]⟩] 240)) := Ch.grown (World.grownBy_alloc _ _ none) (by simp)
  have HC1 := Lib.hid ((hcE.block _ (blk_lt hC) id).trans hC)
  have HCE := Lib.hid hcE
  have HO := Lib.hid (own_ch ho hcE)
  have HCR := Lib.hid (show va.ownBlock ≠ some C from fun e => absurd (own_type ho e hC) (by decide))
  have HS := Lib.hid hcE.size
  have HN := Lib.hid (show (w.alloc (.cells #[.string ⟨#[]⟩, .string ⟨#[]⟩] 240)).heap[w.heap.size]? = some (.cells #[.string ⟨#[]⟩, .string ⟨#[]⟩] 240 (0, 0)) from heap_alloc_new _ _)
  clear hC ho hcE
  go_enter Tryz.func242, Tryz.ntmps242
  go_wp2_with (at_builtin; refine wpList_append_lies _ rfl (.tmp 7) (.tmp 9) 105 rfl Bs 240 i0 _ 2 32 Tryz.underlying105 hi0 hz0 hz1 hz2 rfl (by decide) va n xs rfl HO.out ⟨w.heap.size, 0, none⟩ 1 1 [.string ⟨#[]⟩, .string ⟨#[]⟩] rfl rfl (World.news_of_block HN.out) (by simp [Value.oneCell']) (by decide) (by unfold maxLen; omega) (by omega) (Nat.le_trans hB HS.out) _ rfl ?_; intro g cap w2 hown2 hgrow2 hat hlt; have HG := Lib.hid hgrow2; have HO2 := Lib.hid hown2; have HAT := Lib.hid hat; have hC2 := (hgrow2.block C (blk_lt HC1.out) (Ne.symm HCR.out)).trans HC1.out; have HC2 := Lib.hid hC2; have c2 : w2.cell? ⟨C, 1, none⟩ = some va := blk_cell hC2 rfl; have z2 : w2.frozen? ⟨C, 1, none⟩ = false := blk_frozen hC2; clear hown2 hgrow2 hat hC2)
  have hC3 : (w2.setCell ⟨C, 1, none⟩ (.slice (some ⟨g, 0, none⟩) (n + 1) cap)).heap[C]? = some (.cells #[vm, .slice (some ⟨g, 0, none⟩) (n + 1) cap] 172 (0, 0)) := blk_set _ HC2.out
  have HC3 := Lib.hid hC3
  have c3 : (w2.setCell ⟨C, 1, none⟩ (.slice (some ⟨g, 0, none⟩) (n + 1) cap)).cell? ⟨C, 1, none⟩ = some (.slice (some ⟨g, 0, none⟩) (n + 1) cap) := blk_cell hC3 rfl
  have HO3 := Lib.hid (owns_same (w' := w2.setCell ⟨C, 1, none⟩ (.slice (some ⟨g, 0, none⟩) (n + 1) cap)) HO2.out fun k hk => blk_set_other _ (fun e => own_not HO2.out HC2.out (by decide) (by rw [hk, e])))
  have HCH := Lib.hid (show Ch (fun k => k = C ∨ va.ownBlock = some k) w (w2.setCell ⟨C, 1, none⟩ (.slice (some ⟨g, 0, none⟩) (n + 1) cap)) from
    ((HCE.out.mono (fun _ h => h.elim)).old HG.out (fun k hk => .inr (.inr hk))).old (grownBy_set _ C 1 _) (fun k hk => .inr (.inl (Option.some.inj hk).symm)))
  clear hC3
  generalize w2.setCell ⟨C, 1, none⟩ (.slice (some ⟨g, 0, none⟩) (n + 1) cap) = w3 at *
  clear c0 c2 z2
  go_region
  go_wp2
  go_ret
  exact ⟨g, cap, rfl, HC3.out, HO3.out.drew, lies_at HAT.out HS.out, HCH.out.of_heap rfl rfl rfl rfl⟩

section
variable {ae : Addr} {S : Nat → Prop} {L D C : Nat} {s : ByteArray} {w0 : World} {cs : Array Value} {i : Nat} {w : World}

set_option maxRecDepth 100000 in
set_option maxHeartbeats 1600000 in
/-- 'a=b'. -/
theorem attr_line {Bs n : Nat} {va vm : Value} {xs : List Value} (h : St ae S L D C s w0 cs i w) {r : List UInt8} (hl : s.data.toList.drop i = 98 :: 13 :: 10 :: r)
    (hC : w.heap[C]? = some (.cells #[va, vm] 172 (0, 0))) (ho : w.ownsRow Bs 240 2 va n xs) (hB : Bs ≤ w.heap.size) (hB6 : 6 < Bs) (hC6 : 6 < C) (hn : n ≤ 100000) (hSC : S C) (hS : ∀ k, va.ownBlock = some k → S k) :
    Calls Tryz.prog 226 #[.pointer (some ⟨L, 0, none⟩)] w fun e w' => e = .returned (.tuple #[.func (.func 230) #[] #[], .nilIface]) ∧ St ae S L D C s w0 cs (i + 3) w' ∧
      ∃ va', w'.heap[C]? = some (.cells #[va', vm] 172 (0, 0)) ∧ w'.ownsRow Bs 240 2 va' (n + 1) (xs ++ [.string ⟨#[98]⟩, .string ⟨#[]⟩]) ∧ lies va w.heap.size va' := by
  have hn2 : lead notLf (s.data.toList.drop i) = 2 := by rw [hl]; rfl
  have hlen : i + 3 ≤ s.size := drop_len hl (by simp) h.le
  have hst : (⟨((s.data.toList.drop i).take (2 - crs s i 2)).toArray⟩ : ByteArray) = ⟨#[98]⟩ := by
    unfold crs; rw [hl]; rfl
  have hline := line_ok h.lx hn2 (by omega)
  rw [hst] at hline
  have H := Lib.hid h
  have HLine := Lib.hid hline
  have HCL := Lib.hid (ne_of_ty hC h.lexb (by decide))
  have HCD := Lib.hid (ne_of_ty hC h.desc (by decide))
  have HC := Lib.hid hC
  have HO := Lib.hid ho
  have HROW := Lib.hid (h.row ho hB6 (by decide) (by decide))
  clear h hn2 hl hst hline ho hC
  go_enter Tryz.func226, Tryz.ntmps226
  go_wp2_with fail
  refine HLine.out.mono ?_
  rintro e w1 ⟨rfl, hm1⟩
  have H1 := Lib.hid (H.out.mv hm1 hlen)
  have HC1 := Lib.hid ((hm1.blk_other (Ne.symm HCL.out)).trans HC.out)
  have HO1 := Lib.hid (own_chX HO.out (hm1.ch (S := fun k => k = L) rfl) (fun k hk hv => (HROW.out k hv).1 hk))
  have HS1 := Lib.hid (show w.heap.size ≤ w1.heap.size by rw [hm1.heap]; simp [World.setCell])
  clear hm1
  go_wp2_with fail
  refine (indexRune_b _).mono ?_
  rintro e w2 ⟨rfl, hc2⟩
  have H2 := Lib.hid (H1.out.chF hc2)
  have HC2 := Lib.hid ((hc2.block _ (blk_lt HC1.out) id).trans HC1.out)
  have HO2 := Lib.hid (own_ch HO1.out hc2)
  have HS2 := Lib.hid (Nat.le_trans HS1.out hc2.size)
  have hp2 := blk_cell (j := 1) H2.out.lexb rfl
  clear hc2
  go_wp2_with fail
  refine (getSess_any HC2.out HO2.out (Nat.le_trans hB HS2.out) hn).mono ?_
  rintro e w3 ⟨g, cap, rfl, hC3, ho3, hlies, hch⟩
  have H3 := Lib.hid (H2.out.chX hch (by
    rintro k (hk | hk)
    · subst hk
      exact ⟨HCL.out, HCD.out, by omega⟩
    · exact HROW.out k hk) (by
    rintro k (hk | hk)
    · subst hk
      exact hSC
    · exact hS k hk))
  obtain ⟨hg1, hg2⟩ := ho3.lt g rfl
  have hk3 := ho3.1
  have hbk : ∃ cur, w3.heap[g]? = some (.cells cur 240 (0, 0)) ∧ (n + 1) * 2 ≤ cur.size := by
    rcases ho3.2 with ⟨h1, _⟩ | ⟨g', cap', cur, he, _, hb, hnc, _, hsz, _⟩
    · cases h1
    · cases he
      exact ⟨cur, hb, by rw [hsz]; exact Nat.mul_le_mul_right 2 hnc⟩
  obtain ⟨cur, hcur, hcsz⟩ := hbk
  have z3 := blk_frozen (j := n * 2) hcur
  have c3 := blk_cell (j := n * 2) hcur (Array.getElem?_eq_getElem (by omega))
  have HGC := Lib.hid (show ¬ (g = C) from fun e => by subst e; exact absurd (own_type ho3 rfl hC3) (by decide))
  have HGL := Lib.hid (show ¬ (g = L) from fun e => by subst e; exact absurd (own_type ho3 rfl H3.out.lexb) (by decide))
  have HGD := Lib.hid (show ¬ (g = D) from fun e => by subst e; exact absurd (own_type ho3 rfl H3.out.desc) (by decide))
  have HC3 := Lib.hid hC3
  have HO3 := Lib.hid ho3
  have HLI := Lib.hid hlies
  have HSG := Lib.hid (show S g ∨ w0.heap.size ≤ g from (hlies g rfl).elim (fun h => .inl (hS g h)) (fun h => .inr (Nat.le_trans H2.out.ch.size h)))
  have HXL := Lib.hid HO2.out.1
  clear hC3 ho3 hlies hch hcur hk3 hp2
  go_wp2_with fail
  go_ret2
  refine ⟨rfl, H3.out.old (grownBy_set _ g (n * 2) _) (by simp; exact Ne.symm HGL.out) (by simp; exact Ne.symm HGD.out) (by simp; omega) (fun k hk => by cases hk; exact HSG.out.symm), _, (blk_set_other _ HGC.out).trans HC3.out, ?_, fun k hk => (HLI.out k hk).imp id fun h => Nat.le_trans HS2.out h⟩
  have hset := own_set (j := n * 2) (u := .string ⟨#[98]⟩) HO3.out
  have hs2 : (xs ++ [Value.string ⟨#[]⟩, Value.string ⟨#[]⟩]).set (n * 2) (Value.string ⟨#[98]⟩) = xs ++ [Value.string ⟨#[98]⟩, Value.string ⟨#[]⟩] := by
    rw [← HXL.out, List.set_append_right _ _ (Nat.le_refl _), Nat.sub_self]
    rfl
  rw [hs2] at hset
  exact hset

set_option maxRecDepth 100000 in
set_option maxHeartbeats 1600000 in
/-- 'a=b'. -/
theorem mattr_line {Bs n : Nat} {va vm : Value} {xs : List Value} (h : St ae S L D C s w0 cs i w) {r : List UInt8} (hl : s.data.toList.drop i = 98 :: 13 :: 10 :: r)
    (hC : w.heap[C]? = some (.cells #[vm, va] 172 (0, 0))) (ho : w.ownsRow Bs 240 2 va n xs) (hB : Bs ≤ w.heap.size) (hB6 : 6 < Bs) (hC6 : 6 < C) (hn : n ≤ 100000) (hSC : S C) (hS : ∀ k, va.ownBlock = some k → S k) :
    Calls Tryz.prog 237 #[.pointer (some ⟨L, 0, none⟩)] w fun e w' => e = .returned (.tuple #[.func (.func 243) #[] #[], .nilIface]) ∧ St ae S L D C s w0 cs (i + 3) w' ∧
      ∃ va', w'.heap[C]? = some (.cells #[vm, va'] 172 (0, 0)) ∧ w'.ownsRow Bs 240 2 va' (n + 1) (xs ++ [.string ⟨#[98]⟩, .string ⟨#[]⟩]) ∧ lies va w.heap.size va' := by
  have hn2 : lead notLf (s.data.toList.drop i) = 2 := by rw [hl]; rfl
  have hlen : i + 3 ≤ s.size := drop_len hl (by simp) h.le
  have hst : (⟨((s.data.toList.drop i).take (2 - crs s i 2)).toArray⟩ : ByteArray) = ⟨#[98]⟩ := by
    unfold crs; rw [hl]; rfl
  have hline := line_ok h.lx hn2 (by omega)
  rw [hst] at hline
  have H := Lib.hid h
  have HLine := Lib.hid hline
  have HCL := Lib.hid (ne_of_ty hC h.lexb (by decide))
  have HCD := Lib.hid (ne_of_ty hC h.desc (by decide))
  have HC := Lib.hid hC
  have HO := Lib.hid ho
  have HROW := Lib.hid (h.row ho hB6 (by decide) (by decide))
  clear h hn2 hl hst hline ho hC
  go_enter Tryz.func237, Tryz.ntmps237
  go_wp2_with fail
  refine HLine.out.mono ?_
  rintro e w1 ⟨rfl, hm1⟩
  have H1 := Lib.hid (H.out.mv hm1 hlen)
  have HC1 := Lib.hid ((hm1.blk_other (Ne.symm HCL.out)).trans HC.out)
  have HO1 := Lib.hid (own_chX HO.out (hm1.ch (S := fun k => k = L) rfl) (fun k hk hv => (HROW.out k hv).1 hk))
  have HS1 := Lib.hid (show w.heap.size ≤ w1.heap.size by rw [hm1.heap]; simp [World.setCell])
  clear hm1
  go_wp2_with fail
  refine (indexRune_b _).mono ?_
  rintro e w2 ⟨rfl, hc2⟩
  have H2 := Lib.hid (H1.out.chF hc2)
  have HC2 := Lib.hid ((hc2.block _ (blk_lt HC1.out) id).trans HC1.out)
  have HO2 := Lib.hid (own_ch HO1.out hc2)
  have HS2 := Lib.hid (Nat.le_trans HS1.out hc2.size)
  have hp2 := blk_cell (j := 1) H2.out.lexb rfl
  clear hc2
  go_wp2_with fail
  refine (getMed_any HC2.out HO2.out (Nat.le_trans hB HS2.out) hn).mono ?_
  rintro e w3 ⟨g, cap, rfl, hC3, ho3, hlies, hch⟩
  have H3 := Lib.hid (H2.out.chX hch (by
    rintro k (hk | hk)
    · subst hk
      exact ⟨HCL.out, HCD.out, by omega⟩
    · exact HROW.out k hk) (by
    rintro k (hk | hk)
    · subst hk
      exact hSC
    · exact hS k hk))
  obtain ⟨hg1, hg2⟩ := ho3.lt g rfl
  have hk3 := ho3.1
  have hbk : ∃ cur, w3.heap[g]? = some (.cells cur 240 (0, 0)) ∧ (n + 1) * 2 ≤ cur.size := by
    rcases ho3.2 with ⟨h1, _⟩ | ⟨g', cap', cur, he, _, hb, hnc, _, hsz, _⟩
    · cases h1
    · cases he
      exact ⟨cur, hb, by rw [hsz]; exact Nat.mul_le_mul_right 2 hnc⟩
  obtain ⟨cur, hcur, hcsz⟩ := hbk
  have z3 := blk_frozen (j := n * 2) hcur
  have c3 := blk_cell (j := n * 2) hcur (Array.getElem?_eq_getElem (by omega))
  have HGC := Lib.hid (show ¬ (g = C) from fun e => by subst e; exact absurd (own_type ho3 rfl hC3) (by decide))
  have HGL := Lib.hid (show ¬ (g = L) from fun e => by subst e; exact absurd (own_type ho3 rfl H3.out.lexb) (by decide))
  have HGD := Lib.hid (show ¬ (g = D) from fun e => by subst e; exact absurd (own_type ho3 rfl H3.out.desc) (by decide))
  have HC3 := Lib.hid hC3
  have HO3 := Lib.hid ho3
  have HLI := Lib.hid hlies
  have HSG := Lib.hid (show S g ∨ w0.heap.size ≤ g from (hlies g rfl).elim (fun h => .inl (hS g h)) (fun h => .inr (Nat.le_trans H2.out.ch.size h)))
  have HXL := Lib.hid HO2.out.1
  clear hC3 ho3 hlies hch hcur hk3 hp2
  go_wp2_with fail
  go_ret2
  refine ⟨rfl, H3.out.old (grownBy_set _ g (n * 2) _) (by simp; exact Ne.symm HGL.out) (by simp; exact Ne.symm HGD.out) (by simp; omega) (fun k hk => by cases hk; exact HSG.out.symm), _, (blk_set_other _ HGC.out).trans HC3.out, ?_, fun k hk => (HLI.out k hk).imp id fun h => Nat.le_trans HS2.out h⟩
  have hset := own_set (j := n * 2) (u := .string ⟨#[98]⟩) HO3.out
  have hs2 : (xs ++ [Value.string ⟨#[]⟩, Value.string ⟨#[]⟩]).set (n * 2) (Value.string ⟨#[98]⟩) = xs ++ [Value.string ⟨#[98]⟩, Value.string ⟨#[]⟩] := by
    rw [← HXL.out, List.set_append_right _ _ (Nat.le_refl _), Nat.sub_self]
    rfl
  rw [hs2] at hset
  exact hset

end
end Go.Proofs.YtimonhimfioohaaGreatDoor

namespace Go.Proofs.YtimonhimfioohaaGreatDoor
open Go.RowKit

section
variable {ae : Addr} {S : Nat → Prop} {L D C : Nat} {s : ByteArray} {w0 : World} {cs : Array Value} {i : Nat} {w : World}

set_option maxRecDepth 100000 in
set_option maxHeartbeats 1600000 in
/-- A medium's 'y'. -/
theorem title_line {Bs n b : Nat} {v : Value} {xs : List Value} {ct : Array Value} (h : St ae S L D C s w0 cs i w) {r : List UInt8} (hl : s.data.toList.drop i = 121 :: 13 :: 10 :: r)
    (hv : cs[18]? = some v) (ho : w.ownsRow Bs 145 1 v (n + 1) (xs ++ [.pointer (some ⟨b, 0, none⟩)])) (hn : n ≤ 100000) (hb : w.heap[b]? = some (.cells ct 226 (0, 0))) (hct : ct.size = 10) (hb6 : 6 < b) (hSb : S b) :
    Calls Tryz.prog 241 #[.pointer (some ⟨L, 0, none⟩)] w fun e w' => e = .returned (.tuple #[.func (.func 245) #[] #[], .nilIface]) ∧ St ae S L D C s w0 cs (i + 3) w' ∧
      ∃ p, w'.heap[p]? = some (.cells #[.string ⟨#[121]⟩] 179 (0, 0)) ∧ w'.heap[b]? = some (.cells (ct.setIfInBounds 5 (.pointer (some ⟨p, 0, none⟩))) 226 (0, 0)) := by
  have hn2 : lead notLf (s.data.toList.drop i) = 2 := by rw [hl]; rfl
  have hlen : i + 3 ≤ s.size := drop_len hl (by simp) h.le
  have hst : (⟨((s.data.toList.drop i).take (2 - crs s i 2)).toArray⟩ : ByteArray) = ⟨#[121]⟩ := by
    unfold crs; rw [hl]; rfl
  have hline := line_ok h.lx hn2 (by omega)
  rw [hst] at hline
  have HBL := Lib.hid (ne_of_ty hb h.lexb (by decide))
  have HBD := Lib.hid (ne_of_ty hb h.desc (by decide))
  have hoL : v.ownBlock ≠ some L := own_not ho h.lexb (by decide)
  have H := Lib.hid h
  have HLine := Lib.hid hline
  have HB := Lib.hid hb
  have HO := Lib.hid ho
  have HOL := Lib.hid hoL
  clear h hn2 hl hst hline ho hb hoL
  go_enter Tryz.func241, Tryz.ntmps241
  go_wp2_with fail
  refine HLine.out.mono ?_
  rintro e w1 ⟨rfl, hm1⟩
  have h1 := H.out.mv hm1 hlen
  have ho1 := own_chX HO.out (hm1.ch (S := fun k => k = L) rfl) (fun k hk hv => HOL.out (by rw [hv, hk]))
  have HB1 := Lib.hid ((hm1.blk_other (Ne.symm HBL.out)).trans HB.out)
  obtain ⟨g, cap, hvg⟩ := own_form ho1
  have hvD := blk_cell h1.desc hv
  rw [hvg] at hvD
  have hg := ho1
  rw [hvg] at hg
  have hlen0 : (xs ++ [Value.pointer (some ⟨b, 0, none⟩)]).length = (n + 1) * 1 := hg.1
  have hxs : xs.length = n := by simpa using hlen0
  have cg : w1.cell? ⟨g, n, none⟩ = some (.pointer (some ⟨b, 0, none⟩)) := by
    have h1 := hg.cellAt n (by simp)
    simpa [← hxs] using h1
  have hp := h1.p0
  have H1 := Lib.hid h1
  clear hm1 h1 ho1 hg hlen0 hvg hv
  go_upto_region 4 with fail
  go_quiet (fail)
  clear cg hvD hp hxs
  have H1d := Lib.hid (H1.out.drewN nq)
  have HB1d := Lib.hid (show (w1.drewN nq).heap[b]? = some (.cells ct 226 (0, 0)) from HB1.out)
  clear H1 HB1
  generalize w1.drewN nq = w1 at *
  have hA := (blk_lt HB1d.out)
  have hbA := (Below.heap_alloc w1 (.cells #[.string ⟨#[121]⟩] 179) b hA).trans HB1d.out
  have HBA := Lib.hid hbA
  have zA := blk_frozen (j := 5) hbA
  have cA := blk_cell (j := 5) hbA (Array.getElem?_eq_getElem (by omega))
  have HN := Lib.hid (heap_alloc_new w1 (.cells #[.string ⟨#[121]⟩] 179))
  have HNE := Lib.hid (show b ≠ w1.heap.size by omega)
  clear hA hbA
  go_wp2_with fail
  go_ret2
  exact ⟨rfl, (H1d.out.alloc _).old (grownBy_set _ b 5 _) (by simp; exact Ne.symm HBL.out) (by simp; exact Ne.symm HBD.out) (by simp; omega) (fun k hk => by cases hk; exact .inr hSb), _, (blk_set_other _ HNE.out).trans HN.out, blk_set _ HBA.out⟩

set_option maxRecDepth 100000 in
set_option maxHeartbeats 1600000 in
/-- A medium's 'prompt'. -/
theorem mkey_line {Bs n b : Nat} {v : Value} {xs : List Value} {ct : Array Value} (h : St ae S L D C s w0 cs i w) {r : List UInt8} (hl : s.data.toList.drop i = 112 :: 114 :: 111 :: 109 :: 112 :: 116 :: 13 :: 10 :: r)
    (hv : cs[18]? = some v) (ho : w.ownsRow Bs 145 1 v (n + 1) (xs ++ [.pointer (some ⟨b, 0, none⟩)])) (hn : n ≤ 100000) (hb : w.heap[b]? = some (.cells ct 226 (0, 0))) (hct : ct.size = 10) (hb6 : 6 < b) (hSb : S b) :
    Calls Tryz.prog 238 #[.pointer (some ⟨L, 0, none⟩)] w fun e w' => e = .returned (.tuple #[.func (.func 243) #[] #[], .nilIface]) ∧ St ae S L D C s w0 cs (i + 8) w' ∧
      ∃ p, w'.heap[p]? = some (.cells #[.string ⟨#[112, 114, 111, 109, 112, 116]⟩] 187 (0, 0)) ∧ w'.heap[b]? = some (.cells (ct.setIfInBounds 8 (.pointer (some ⟨p, 0, none⟩))) 226 (0, 0)) := by
  have hn2 : lead notLf (s.data.toList.drop i) = 7 := by rw [hl]; rfl
  have hlen : i + 8 ≤ s.size := drop_len hl (by simp) h.le
  have hst : (⟨((s.data.toList.drop i).take (7 - crs s i 7)).toArray⟩ : ByteArray) = ⟨#[112, 114, 111, 109, 112, 116]⟩ := by
    unfold crs; rw [hl]; rfl
  have hline := line_ok h.lx hn2 (by omega)
  rw [hst] at hline
  have HBL := Lib.hid (ne_of_ty hb h.lexb (by decide))
  have HBD := Lib.hid (ne_of_ty hb h.desc (by decide))
  have hoL : v.ownBlock ≠ some L := own_not ho h.lexb (by decide)
  have H := Lib.hid h
  have HLine := Lib.hid hline
  have HB := Lib.hid hb
  have HO := Lib.hid ho
  have HOL := Lib.hid hoL
  clear h hn2 hl hst hline ho hb hoL
  go_enter Tryz.func238, Tryz.ntmps238
  go_wp2_with fail
  refine HLine.out.mono ?_
  rintro e w1 ⟨rfl, hm1⟩
  have h1 := H.out.mv hm1 hlen
  have ho1 := own_chX HO.out (hm1.ch (S := fun k => k = L) rfl) (fun k hk hv => HOL.out (by rw [hv, hk]))
  have HB1 := Lib.hid ((hm1.blk_other (Ne.symm HBL.out)).trans HB.out)
  obtain ⟨g, cap, hvg⟩ := own_form ho1
  have hvD := blk_cell h1.desc hv
  rw [hvg] at hvD
  have hg := ho1
  rw [hvg] at hg
  have hlen0 : (xs ++ [Value.pointer (some ⟨b, 0, none⟩)]).length = (n + 1) * 1 := hg.1
  have hxs : xs.length = n := by simpa using hlen0
  have cg : w1.cell? ⟨g, n, none⟩ = some (.pointer (some ⟨b, 0, none⟩)) := by
    have h1 := hg.cellAt n (by simp)
    simpa [← hxs] using h1
  have hp := h1.p0
  have H1 := Lib.hid h1
  clear hm1 h1 ho1 hg hlen0 hvg hv
  go_upto_region 4 with fail
  go_quiet (fail)
  clear cg hvD hp hxs
  have H1d := Lib.hid (H1.out.drewN nq)
  have HB1d := Lib.hid (show (w1.drewN nq).heap[b]? = some (.cells ct 226 (0, 0)) from HB1.out)
  clear H1 HB1
  generalize w1.drewN nq = w1 at *
  have hA := (blk_lt HB1d.out)
  have hbA := (Below.heap_alloc w1 (.cells #[.string ⟨#[112, 114, 111, 109, 112, 116]⟩] 187) b hA).trans HB1d.out
  have HBA := Lib.hid hbA
  have zA := blk_frozen (j := 8) hbA
  have cA := blk_cell (j := 8) hbA (Array.getElem?_eq_getElem (by omega))
  have HN := Lib.hid (heap_alloc_new w1 (.cells #[.string ⟨#[112, 114, 111, 109, 112, 116]⟩] 187))
  have HNE := Lib.hid (show b ≠ w1.heap.size by omega)
  clear hA hbA
  go_wp2_with fail
  go_ret2
  exact ⟨rfl, (H1d.out.alloc _).old (grownBy_set _ b 8 _) (by simp; exact Ne.symm HBL.out) (by simp; exact Ne.symm HBD.out) (by simp; omega) (fun k hk => by cases hk; exact .inr hSb), _, (blk_set_other _ HNE.out).trans HN.out, blk_set _ HBA.out⟩

set_option maxRecDepth 100000 in
set_option maxHeartbeats 1600000 in
/-- A medium's 'c=IN IP4 a'. -/
theorem mconn_line {Bs n b : Nat} {v : Value} {xs : List Value} {ct : Array Value} (h : St ae S L D C s w0 cs i w) {r : List UInt8} (hl : s.data.toList.drop i = 73 :: 78 :: 32 :: 73 :: 80 :: 52 :: 32 :: 97 :: 13 :: 10 :: r) (hr : lead isNl r = 0)
    (hv : cs[18]? = some v) (ho : w.ownsRow Bs 145 1 v (n + 1) (xs ++ [.pointer (some ⟨b, 0, none⟩)])) (hn : n ≤ 100000) (hb : w.heap[b]? = some (.cells ct 226 (0, 0))) (hct : ct.size = 10) (hb6 : 6 < b) (hSb : S b) :
    Calls Tryz.prog 240 #[.pointer (some ⟨L, 0, none⟩)] w fun e w' => e = .returned (.tuple #[.func (.func 244) #[] #[], .nilIface]) ∧ St ae S L D C s w0 cs (i + 10) w' ∧
      ∃ p, Ptr w' 256 (sConn w') (some ⟨p, 0, none⟩) ∧ w'.heap[b]? = some (.cells (ct.setIfInBounds 6 (.pointer (some ⟨p, 0, none⟩))) 226 (0, 0)) := by
  have HBL := Lib.hid (ne_of_ty hb h.lexb (by decide))
  have HBD := Lib.hid (ne_of_ty hb h.desc (by decide))
  obtain ⟨g, cap, hvg⟩ := own_form ho
  have hvD := blk_cell h.desc hv
  rw [hvg] at hvD
  have hg := ho
  rw [hvg] at hg
  have hlen0 : (xs ++ [Value.pointer (some ⟨b, 0, none⟩)]).length = (n + 1) * 1 := hg.1
  have hxs : xs.length = n := by simpa using hlen0
  have cg : w.cell? ⟨g, n, none⟩ = some (.pointer (some ⟨b, 0, none⟩)) := by
    have h1 := hg.cellAt n (by simp)
    simpa [← hxs] using h1
  have hp := h.p0
  have H := Lib.hid h
  have HB := Lib.hid hb
  have HL := Lib.hid hl
  have HR := Lib.hid hr
  clear h hl hr hb ho hg hlen0 hvg hv
  go_enter Tryz.func240, Tryz.ntmps240
  go_upto_region 2 with fail
  go_quiet (fail)
  clear cg hvD hp hxs
  go_wp2_with fail
  refine (conn_read ((H.out.drewN nq).re (S' := fun k => k = L ∨ k = D) (.inl rfl) (.inr rfl)) HL.out HR.out).mono ?_
  rintro e w1 ⟨p, rfl, h1, hp1, hpl⟩
  have hb1 := (h1.ch.block b (blk_lt HB.out) (by
    rintro (hk | hk)
    · exact HBL.out hk
    · exact HBD.out hk)).trans (show (w.drewN nq).heap[b]? = _ from HB.out)
  have z1 : w1.frozen? ⟨b, 6, none⟩ = false := blk_frozen hb1
  have c1 : w1.cell? ⟨b, 6, none⟩ = some ct[6] := blk_cell hb1 (Array.getElem?_eq_getElem (by omega))
  have HB1 := Lib.hid hb1
  have HP1 := Lib.hid hp1
  have H1 := Lib.hid (h1.frame (S' := S) (w1 := w0) ((H.out.drewN nq).ch.trans (h1.ch.mono (T := S) (fun k hk => hk.elim (fun e => e ▸ H.out.sl) (fun e => e ▸ H.out.sd)))) H.out.sl H.out.sd)
  clear h1 hp1 hb1 hpl
  go_wp2_with fail
  go_ret2
  have hN : ∀ {T : TypeId}, 226 ≠ T → NotT w1 (fun k => k = b) T := fun h => NotT.one HB1.out h
  exact ⟨rfl, H1.out.old (grownBy_set _ b 6 _) (by simp; exact Ne.symm HBL.out) (by simp; exact Ne.symm HBD.out) (by simp; omega) (fun k hk => by cases hk; exact .inr hSb), p,
    Keeps.conn HP1.out (hN (by decide)) (hN (by decide)) (hN (by decide)) _ (Ch.set (S := fun k => k = b) w1 rfl _), blk_set _ HB1.out⟩

end
end Go.Proofs.YtimonhimfioohaaGreatDoor

namespace Go.Proofs.YtimonhimfioohaaGreatDoor
open Go.RowKit

def mbanT (b g : Nat) (L Z n : Nat) (v : Value) (xs : List Value) (f : Nat → Bool) (d : Nat) (v' : Value) (W : World) : Prop :=
  match d with
  | 44 => v' = .pointer (some ⟨b, 0, none⟩)
  | 45 => v' = .pointer (some ⟨b, 0, none⟩)
  | 46 => v' = .pointer (some ⟨b, 0, none⟩)
  | 47 => v' = .pointer (some ⟨b, 7, none⟩)
  | 48 => f 9 = true ∨ (v' = v ∧ W.ownsRow L 134 3 v n xs)
  | 49 => v' = .pointer (some ⟨g, 0, none⟩)
  | 50 => v' = .pointer (some ⟨g, 0, none⟩)
  | 51 => v' = .agg #[.bool false, .string ⟨#[65, 83]⟩, .int .u64 1]
  | 52 => f 9 = true ∨ ∃ (k : Nat) , v' = .slice (some ⟨k, 0, none⟩) 1 1 ∧ W.heap[k]? = some (.cells #[.bool false, .string ⟨#[65, 83]⟩, .int .u64 1] 134 (0, 0))
  | 53 => f 9 = true ∧ (W.ownsRow L 134 3 v' (n + 1) (xs ++ [.bool false, .string ⟨#[65, 83]⟩, .int .u64 1]) ∧ lies v Z v')
  | 54 => v' = .pointer (some ⟨b, 0, none⟩)
  | 55 => v' = .pointer (some ⟨b, 7, none⟩)
  | _ => True
theorem mban_stay {b g : Nat} {L Z n : Nat} {v : Value} {xs : List Value} {f : Nat → Bool} {i d : Nat} {x : Value} {W W' : World} (hc : Ch (fun _ => False) W W') (h : mbanT b g L Z n v xs f d x W) : mbanT b g L Z n v xs (upd f i) d x W' := by
  unfold mbanT at h ⊢
  split at h
  · exact h
  · exact h
  · exact h
  · exact h
  · exact h.elim (fun h => .inl (by unfold upd; split <;> first | rfl | exact h)) (fun h => .inr ⟨h.1, own_ch h.2 hc⟩)
  · exact h
  · exact h
  · exact h
  · rcases h with h | ⟨k, e, hk⟩
    · exact .inl (by unfold upd; split <;> first | rfl | exact h)
    · exact .inr ⟨k, e, (hc.block _ (blk_lt hk) id).trans hk⟩
  · obtain ⟨h, ho, hz⟩ := h
    exact ⟨(by unfold upd; split <;> first | rfl | exact h), own_ch ho hc, hz⟩
  · exact h
  · exact h
  · trivial
theorem mban_stayA {b g : Nat} {L Z n : Nat} {v : Value} {xs : List Value} {f : Nat → Bool} {d : Nat} {x : Value} {W W' : World} (hd : d ≠ 53) (_hQ : W.ownsRow L 134 3 v n xs) (_hc : Ch (fun j => v.ownBlock = some j) W W') (h : mbanT b g L Z n v xs f d x W) : mbanT b g L Z n v xs (upd f 9) d x W' := by
  unfold mbanT at h ⊢
  split at h
  · exact h
  · exact h
  · exact h
  · exact h
  · exact .inl (by simp [upd])
  · exact h
  · exact h
  · exact h
  · exact .inl (by simp [upd])
  · exact absurd rfl hd
  · exact h
  · exact h
  · trivial
set_option maxRecDepth 100000 in
theorem mban_frame (x0 x1 x2 x3 x4 x5 x6 x7 x8 x9 x10 x11 x12 x13 x14 x15 x16 x17 x18 x19 x20 x21 x22 x23 x24 x25 x26 x27 x28 x29 x30 x31 x32 x33 x34 x35 x36 x37 x38 x39 x40 x41 x42 x43 x44 x45 x46 x47 x48 x49 x50 x51 x52 x53 x54 x55 : Value) (d : List Deferred) (u : Nat → Value) : frameOf ⟨#[x0, x1, x2, x3, x4, x5, x6, x7, x8, x9, x10, x11, x12, x13, x14, x15, x16, x17, x18, x19, x20, x21, x22, x23, x24, x25, x26, x27, x28, x29, x30, x31, x32, x33, x34, x35, x36, x37, x38, x39, x40, x41, x42, x43, x44, x45, x46, x47, x48, x49, x50, x51, x52, x53, x54, x55], d⟩ [44, 45, 46, 47, 48, 49, 50, 51, 52, 53, 54, 55] u = ⟨#[x0, x1, x2, x3, x4, x5, x6, x7, x8, x9, x10, x11, x12, x13, x14, x15, x16, x17, x18, x19, x20, x21, x22, x23, x24, x25, x26, x27, x28, x29, x30, x31, x32, x33, x34, x35, x36, x37, x38, x39, x40, x41, x42, x43, u 44, u 45, u 46, u 47, u 48, u 49, u 50, u 51, u 52, u 53, u 54, u 55], d⟩ := by kernel_rfl

section
variable {ae : Addr} {S : Nat → Prop} {L D C : Nat} {s : ByteArray} {w0 : World} {cs : Array Value} {i : Nat} {w : World}

set_option maxRecDepth 100000 in
set_option maxHeartbeats 4000000 in
/-- A medium's 'b=AS:1'. -/
theorem mband_line {Bm m b Bs n : Nat} {vm v : Value} {xm xs : List Value} {ct : Array Value} (h : St ae S L D C s w0 cs i w) {r : List UInt8} (hl : s.data.toList.drop i = 65 :: 83 :: 58 :: 49 :: 13 :: 10 :: r)
    (hv18 : cs[18]? = some vm) (ho18 : w.ownsRow Bm 145 1 vm (m + 1) (xm ++ [.pointer (some ⟨b, 0, none⟩)])) (hm : m ≤ 100000) (hb : w.heap[b]? = some (.cells ct 226 (0, 0))) (hb6 : 6 < b) (hSb : S b)
    (hv : ct[7]? = some v) (hown : w.ownsRow Bs 134 3 v n xs) (hB : Bs ≤ w.heap.size) (hB6 : 6 < Bs) (hn : n ≤ 100000) (hS : ∀ k, v.ownBlock = some k → S k) :
    Calls Tryz.prog 239 #[.pointer (some ⟨L, 0, none⟩)] w fun e w' => e = .returned (.tuple #[.func (.func 244) #[] #[], .nilIface]) ∧ St ae S L D C s w0 cs (i + 6) w' ∧
      ∃ g cap, w'.heap[b]? = some (.cells (ct.setIfInBounds 7 (.slice (some ⟨g, 0, none⟩) (n + 1) cap)) 226 (0, 0)) ∧ w'.ownsRow Bs 134 3 (.slice (some ⟨g, 0, none⟩) (n + 1) cap) (n + 1) (xs ++ [.bool false, .string ⟨#[65, 83]⟩, .int .u64 1]) ∧ (∀ k, (Value.slice (some ⟨g, 0, none⟩) (n + 1) cap).ownBlock = some k → v.ownBlock = some k ∨ w.heap.size ≤ k) := by
  have hn5 : lead notLf (s.data.toList.drop i) = 5 := by rw [hl]; rfl
  have hlen : i + 6 ≤ s.size := drop_len hl (by simp) h.le
  have hst : (⟨((s.data.toList.drop i).take (5 - crs s i 5)).toArray⟩ : ByteArray) = ⟨#[65, 83, 58, 49]⟩ := by
    unfold crs; rw [hl]; rfl
  have hline := line_ok h.lx hn5 (by omega)
  rw [hst] at hline
  have HBL := Lib.hid (ne_of_ty hb h.lexb (by decide))
  have HBD := Lib.hid (ne_of_ty hb h.desc (by decide))
  have HOL := Lib.hid (show vm.ownBlock ≠ some L from own_not ho18 h.lexb (by decide))
  have H := Lib.hid h
  have HLine := Lib.hid hline
  have HO0 := Lib.hid hown
  have HO18 := Lib.hid ho18
  have HVC := Lib.hid hv
  have HB := Lib.hid hb
  have HSX := Lib.hid hS
  have HROW := Lib.hid (h.row hown hB6 (by decide) (by decide))
  have HDBK := Lib.hid (show ¬ (v.ownBlock = some b) from own_not hown hb (by decide))
  clear h hn5 hl hst hline hown hv hS ho18 hb
  go_enter Tryz.func239, Tryz.ntmps239
  go_wp2_with fail
  refine HLine.out.mono ?_
  rintro e w1 ⟨rfl, hm1⟩
  have h1 := H.out.mv hm1 hlen
  have ho1 := own_chX HO18.out (hm1.ch (S := fun k => k = L) rfl) (fun k hk hv => HOL.out (by rw [hv, hk]))
  have HO1 := Lib.hid (own_chX HO0.out (hm1.ch (S := fun k => k = L) rfl) (fun k hk hv => (HROW.out k hv).1 hk))
  have HB1 := Lib.hid ((hm1.blk_other (Ne.symm HBL.out)).trans HB.out)
  have HS1 := Lib.hid (show w.heap.size ≤ w1.heap.size by rw [hm1.heap]; simp [World.setCell])
  obtain ⟨g, cap, hvg⟩ := own_form ho1
  have hvD := blk_cell h1.desc hv18
  rw [hvg] at hvD
  have hg := ho1
  rw [hvg] at hg
  have hlen0 : (xm ++ [Value.pointer (some ⟨b, 0, none⟩)]).length = (m + 1) * 1 := hg.1
  have hxs : xm.length = m := by simpa using hlen0
  have cg : w1.cell? ⟨g, m, none⟩ = some (.pointer (some ⟨b, 0, none⟩)) := by
    have h1 := hg.cellAt m (by simp)
    simpa [← hxs] using h1
  have hp := h1.p0
  have H1 := Lib.hid h1
  clear hm1 h1 ho1 hg hlen0 hvg hv18
  go_upto_region 4 with fail
  go_quiet (fail)
  clear cg hvD hp hxs
  have H1d := Lib.hid (H1.out.drewN nq)
  have HB1d := Lib.hid (show (w1.drewN nq).heap[b]? = some (.cells ct 226 (0, 0)) from HB1.out)
  have HO1d := Lib.hid (own_ch HO1.out (Ch.of_heap (w' := w1.drewN nq) (Ch.refl _ w1) rfl rfl rfl rfl))
  have HS1d := Lib.hid (show w.heap.size ≤ (w1.drewN nq).heap.size from HS1.out)
  clear H1 HB1 HO1 HS1
  generalize w1.drewN nq = w1 at *
  go_wp2_with fail
  refine (bandwidth_as1 _).mono ?_
  rintro e w2 ⟨g, rfl, hgl, hg2, hc2⟩
  have H2 := Lib.hid (H1d.out.chF hc2)
  have HB2 := Lib.hid ((hc2.block _ (blk_lt HB1d.out) id).trans HB1d.out)
  have HOWN := Lib.hid (own_ch HO1d.out hc2)
  have HG := Lib.hid (show w2.heap[g]? = some (.cells #[.bool false, .string ⟨#[65, 83]⟩, .int .u64 1] 134 (0, 0)) ∧ ¬ (v.ownBlock = some g) from ⟨hg2, fun e => by have := (HO1d.out.lt g e).2; omega⟩)
  have HS2 := Lib.hid (Nat.le_trans HS1d.out hc2.size)
  have HZW := Lib.hid HS2.out
  have HLW := Lib.hid (Nat.le_trans hB HS2.out)
  clear hc2 hg2 hgl
  go_upto_region 8 with fail
  refine wp_region_ops8 (by kernel_rfl) [44, 45, 46, 47, 48, 49, 50, 51, 52, 53, 54, 55] 12 [] (by kernel_rfl) (by kernel_rfl) (by kernel_rfl) (mbanT b g Bs w.heap.size n v xs) (appR Bs 134 3 n v xs 9 w2) ⟨Ch.of_heap (Ch.refl _ w2) rfl rfl rfl rfl, .inr HOWN.out⟩ (fun q hq => by cases hq) ?_ ?_
  · intro i oo hi ho A f W' hf hdep hcl hR hr hx K hK
    have hRc := hR.1
    have hLW : Bs ≤ W'.heap.size := Nat.le_trans HLW.out hRc.size
    have hZW : w.heap.size ≤ W'.heap.size := Nat.le_trans HZW.out hRc.size
    have hD : W'.heap[b]? = some (.cells ct 226 (0, 0)) := (hRc.block b (blk_lt HB2.out) HDBK.out).trans HB2.out
    have hDv := HVC.out
    have hg : W'.heap[g]? = some (.cells #[.bool false, .string ⟨#[65, 83]⟩, .int .u64 1] 134 (0, 0)) := (hRc.block g (blk_lt HG.out.1) HG.out.2).trans HG.out.1
    exact match i, hi, ho with
      | 0, _, ho => by
        obtain rfl := Option.some.inj ho
        have e6 : A.tmps[6]?.getD undef = .pointer (some ⟨b, 0, none⟩) := (eval_getD A 6).symm.trans (hx 6 (by decide))
        unfold Oper.wp execOp
        go_simp
        have hcc : Ch (fun _ => False) W' _ := Ch.refl _ _
        exact hK _ _ (fun d hd => by cases hd; exact rfl) (appR_step (by decide) hcc hR) (fun d _ _ h => mban_stay hcc h)
      | 1, _, ho => by
        obtain rfl := Option.some.inj ho
        have e6 : A.tmps[6]?.getD undef = .pointer (some ⟨b, 0, none⟩) := (eval_getD A 6).symm.trans (hx 6 (by decide))
        unfold Oper.wp execOp
        go_simp
        have hcc : Ch (fun _ => False) W' _ := Ch.refl _ _
        exact hK _ _ (fun d hd => by cases hd; exact rfl) (appR_step (by decide) hcc hR) (fun d _ _ h => mban_stay hcc h)
      | 2, _, ho => by
        obtain rfl := Option.some.inj ho
        have e45 : A.tmps[45]?.getD undef = .pointer (some ⟨b, 0, none⟩) := (eval_getD A 45).symm.trans (hr 45 (by decide) (by decide))
        unfold Oper.wp execOp
        go_simp
        have hcc : Ch (fun _ => False) W' _ := Ch.refl _ _
        exact hK _ _ (fun d hd => by cases hd; exact rfl) (appR_step (by decide) hcc hR) (fun d _ _ h => mban_stay hcc h)
      | 3, _, ho => by
        obtain rfl := Option.some.inj ho
        have e46 : A.tmps[46]?.getD undef = .pointer (some ⟨b, 0, none⟩) := (eval_getD A 46).symm.trans (hr 46 (by decide) (by decide))
        unfold Oper.wp execOp
        go_simp
        have hcc : Ch (fun _ => False) W' _ := Ch.refl _ _
        exact hK _ _ (fun d hd => by cases hd; exact rfl) (appR_step (by decide) hcc hR) (fun d _ _ h => mban_stay hcc h)
      | 4, _, ho => by
        obtain rfl := Option.some.inj ho
        have e47 : A.tmps[47]?.getD undef = .pointer (some ⟨b, 7, none⟩) := (eval_getD A 47).symm.trans (hr 47 (by decide) (by decide))
        have hl0 := blk_cell hD hDv
        unfold Oper.wp execOp
        go_simp
        have hfa : f 9 = false := Bool.eq_false_iff.2 (fun h => by have h1 := hcl 9 h 4 (by decide); rw [hf] at h1; cases h1)
        have hcc : Ch (fun _ => False) W' _ := Ch.refl _ _
        exact hK _ _ (fun d hd => by cases hd; exact .inr ⟨rfl, hR.2.resolve_left (by rw [hfa]; decide)⟩) (appR_step (by decide) hcc hR) (fun d _ _ h => mban_stay hcc h)
      | 5, _, ho => by
        obtain rfl := Option.some.inj ho
        have e7 : A.tmps[7]?.getD undef = .pointer (some ⟨g, 0, none⟩) := (eval_getD A 7).symm.trans (hx 7 (by decide))
        unfold Oper.wp execOp
        go_simp
        have hcc : Ch (fun _ => False) W' _ := Ch.refl _ _
        exact hK _ _ (fun d hd => by cases hd; exact rfl) (appR_step (by decide) hcc hR) (fun d _ _ h => mban_stay hcc h)
      | 6, _, ho => by
        obtain rfl := Option.some.inj ho
        have e49 : A.tmps[49]?.getD undef = .pointer (some ⟨g, 0, none⟩) := (eval_getD A 49).symm.trans (hr 49 (by decide) (by decide))
        unfold Oper.wp execOp
        go_simp
        have hcc : Ch (fun _ => False) W' _ := Ch.refl _ _
        exact hK _ _ (fun d hd => by cases hd; exact rfl) (appR_step (by decide) hcc hR) (fun d _ _ h => mban_stay hcc h)
      | 7, _, ho => by
        obtain rfl := Option.some.inj ho
        have l0 : W'.cell? ⟨g, 0, none⟩ = some (.bool false) := blk_cell hg rfl
        have l1 : W'.cell? ⟨g, 1, none⟩ = some (.string ⟨#[65, 83]⟩) := blk_cell hg rfl
        have l2 : W'.cell? ⟨g, 2, none⟩ = some (.int .u64 1) := blk_cell hg rfl
        have e50 : A.tmps[50]?.getD undef = .pointer (some ⟨g, 0, none⟩) := (eval_getD A 50).symm.trans (hr 50 (by decide) (by decide))
        unfold Oper.wp execOp
        go_simp
        have hcc : Ch (fun _ => False) W' _ := Ch.refl _ _
        exact hK _ _ (fun d hd => by cases hd; exact rfl) (appR_step (by decide) hcc hR) (fun d _ _ h => mban_stay hcc h)
      | 8, _, ho => by
        obtain rfl := Option.some.inj ho
        have e51 : A.tmps[51]?.getD undef = .agg #[.bool false, .string ⟨#[65, 83]⟩, .int .u64 1] := (eval_getD A 51).symm.trans (hr 51 (by decide) (by decide))
        unfold Oper.wp execOp
        go_simp
        have hcc : Ch (fun _ => False) W' (W'.alloc (.cells #[.bool false, .string ⟨#[65, 83]⟩, .int .u64 1] 134)) := Ch.grown (World.grownBy_alloc _ _ none) (by simp)
        exact hK _ _ (fun d hd => by cases hd; exact .inr ⟨_, rfl, heap_alloc_new _ _⟩) (appR_step (by decide) hcc hR) (fun d _ _ h => mban_stay hcc h)
      | 9, _, ho => by
        obtain rfl := Option.some.inj ho
        have hls : f 9 = true ∨ (A.eval (.tmp 48) = v ∧ W'.ownsRow Bs 134 3 v n xs) := hr 48 (by decide) (by decide)
        obtain ⟨els, hown⟩ := hls.resolve_left (by rw [hf]; decide)
        have hbs : f 9 = true ∨ ∃ (k : Nat) , A.eval (.tmp 52) = .slice (some ⟨k, 0, none⟩) 1 1 ∧ W'.heap[k]? = some (.cells #[.bool false, .string ⟨#[65, 83]⟩, .int .u64 1] 134 (0, 0)) := hr 52 (by decide) (by decide)
        obtain ⟨k, ebs, hk⟩ := hbs.resolve_left (by rw [hf]; decide)
        obtain ⟨i0, hi0, hz0, hz1, hz2⟩ := info_parts info134_c
        refine wp_append_lies _ (.tmp 48) (.tmp 52) 101 rfl Bs 134 i0 _ 3 32 Tryz.underlying101 hi0 hz0 hz1 hz2 rfl (by decide) v n xs els hown ⟨k, 0, none⟩ 1 1 [.bool false, .string ⟨#[65, 83]⟩, .int .u64 1] ebs rfl (World.news_of_block hk) (by simp [Value.oneCell']) (by decide) (by unfold maxLen; omega) (by omega) hLW _ rfl ?_
        intro g cap W2 hown2 hgrow2 hat hlt
        have hco : Ch (fun j => v.ownBlock = some j) W' W2 := Ch.grown hgrow2 (fun j hj => hj)
        exact hK _ _ (fun d hd => by cases hd; exact ⟨by simp [upd], hown2, lies_at hat hZW⟩) (appR_app hco hR) (fun d _ hne h => mban_stayA (fun e => hne (by subst e; rfl)) hown hco h)
      | 10, _, ho => by
        obtain rfl := Option.some.inj ho
        have e44 : A.tmps[44]?.getD undef = .pointer (some ⟨b, 0, none⟩) := (eval_getD A 44).symm.trans (hr 44 (by decide) (by decide))
        unfold Oper.wp execOp
        go_simp
        have hcc : Ch (fun _ => False) W' _ := Ch.refl _ _
        exact hK _ _ (fun d hd => by cases hd; exact rfl) (appR_step (by decide) hcc hR) (fun d _ _ h => mban_stay hcc h)
      | 11, _, ho => by
        obtain rfl := Option.some.inj ho
        have e54 : A.tmps[54]?.getD undef = .pointer (some ⟨b, 0, none⟩) := (eval_getD A 54).symm.trans (hr 54 (by decide) (by decide))
        unfold Oper.wp execOp
        go_simp
        have hcc : Ch (fun _ => False) W' _ := Ch.refl _ _
        exact hK _ _ (fun d hd => by cases hd; exact rfl) (appR_step (by decide) hcc hR) (fun d _ _ h => mban_stay hcc h)
      | n + 12, hi, _ => absurd hi (by omega)
  · intro oo ho u f W3 hfa hR hu
    obtain rfl := Option.some.inj ho
    have hap : f 9 = true ∧ (W3.ownsRow Bs 134 3 (u 53) (n + 1) (xs ++ [.bool false, .string ⟨#[65, 83]⟩, .int .u64 1]) ∧ lies v w.heap.size ((u 53))) := hu 53 (by decide)
    have hRc := hR.1
    have hv1 : u 55 = .pointer (some ⟨b, 7, none⟩) := hu 55 (by decide)
    have hb3 : W3.heap[b]? = some (.cells ct 226 (0, 0)) := (hRc.block b (blk_lt HB2.out) HDBK.out).trans HB2.out
    have hf3 : W3.frozen? ⟨b, 7, none⟩ = false := blk_frozen hb3
    have hc3 : W3.cell? ⟨b, 7, none⟩ = some v := blk_cell hb3 HVC.out
    have ⟨ho9, hz9⟩ := hap.2
    obtain ⟨g9, cap9, hvn⟩ := own_form ho9
    rw [hvn] at ho9 hz9
    have HO9a := Lib.hid ho9
    have HZ9 := Lib.hid hz9
    have HRC := Lib.hid hRc
    have HB3 := Lib.hid hb3
    clear hR hu hfa hb3 hRc hap ho9 hz9
    rw [mban_frame, hv1, hvn]
    unfold Oper.wp execOp
    go_simp
    clear hv1 hf3 hc3 hvn
    have H3 := (H2.out.chX HRC.out (fun k hk => HROW.out k hk) HSX.out).old (grownBy_set _ b 7 (.slice (some ⟨g9, 0, none⟩) (n + 1) cap9)) (by simp; exact Ne.symm HBL.out) (by simp; exact Ne.symm HBD.out) (by simp; omega) (fun k hk => by cases hk; exact .inr hSb)
    go_wp2_with fail
    go_ret2
    refine ⟨rfl, H3, g9, cap9, blk_set _ HB3.out, ?_, fun k hk => HZ9.out k hk⟩
    exact owns_same HO9a.out fun k hk => blk_set_other _ (fun e => own_not HO9a.out HB3.out (by decide) (by rw [hk, e]))

end
end Go.Proofs.YtimonhimfioohaaGreatDoor

namespace Go.Proofs.YtimonhimfioohaaGreatDoor
open Go.RowKit

theorem info203_l : (Tryz.prog.info? 203).map (fun i => (i.zero, i.size, i.bytes)) = some (some (.agg #[.int .u64 0, .int .i64 0]), 2, 16) := by kernel_rfl
theorem units_one (w : World) : Calls Tryz.prog 98 #[.string ⟨#[49]⟩] w fun e w' => e = .returned (.tuple #[.int .i64 1, .nilIface]) ∧ Ch (fun _ => False) w w' :=
  parseUnits_ok ⟨false, [49], [], 1, 1, rfl, by decide, by decide, .inl ⟨rfl, rfl⟩, by decide⟩ w
theorem units_zero (w : World) : Calls Tryz.prog 98 #[.string ⟨#[48]⟩] w fun e w' => e = .returned (.tuple #[.int .i64 0, .nilIface]) ∧ Ch (fun _ => False) w w' :=
  parseUnits_ok ⟨false, [48], [], 1, 0, rfl, by decide, by decide, .inl ⟨rfl, rfl⟩, by decide⟩ w

def zonlT (LX D : Nat) (L Z n : Nat) (v : Value) (xs : List Value) (f : Nat → Bool) (d : Nat) (v' : Value) (W : World) : Prop :=
  match d with
  | 40 => v' = .pointer (some ⟨LX, 0, none⟩)
  | 41 => v' = .pointer (some ⟨LX, 0, none⟩)
  | 42 => v' = .pointer (some ⟨LX, 0, none⟩)
  | 43 => v' = .pointer (some ⟨D, 0, none⟩)
  | 44 => v' = .pointer (some ⟨LX, 0, none⟩)
  | 45 => v' = .pointer (some ⟨LX, 0, none⟩)
  | 46 => v' = .pointer (some ⟨LX, 0, none⟩)
  | 47 => v' = .pointer (some ⟨D, 0, none⟩)
  | 48 => v' = .pointer (some ⟨D, 0, none⟩)
  | 49 => v' = .pointer (some ⟨D, 15, none⟩)
  | 50 => f 13 = true ∨ (v' = v ∧ W.ownsRow L 203 2 v n xs)
  | 51 => v' = .agg #[.int .u64 1, .int .i64 1]
  | 52 => f 13 = true ∨ ∃ (k : Nat) , v' = .slice (some ⟨k, 0, none⟩) 1 1 ∧ W.heap[k]? = some (.cells #[.int .u64 1, .int .i64 1] 203 (0, 0))
  | 53 => f 13 = true ∧ (W.ownsRow L 203 2 v' (n + 1) (xs ++ [.int .u64 1, .int .i64 1]) ∧ lies v Z v')
  | 54 => v' = .pointer (some ⟨D, 0, none⟩)
  | 55 => v' = .pointer (some ⟨D, 15, none⟩)
  | _ => True
theorem zonl_stay {LX D : Nat} {L Z n : Nat} {v : Value} {xs : List Value} {f : Nat → Bool} {i d : Nat} {x : Value} {W W' : World} (hc : Ch (fun _ => False) W W') (h : zonlT LX D L Z n v xs f d x W) : zonlT LX D L Z n v xs (upd f i) d x W' := by
  unfold zonlT at h ⊢
  split at h
  · exact h
  · exact h
  · exact h
  · exact h
  · exact h
  · exact h
  · exact h
  · exact h
  · exact h
  · exact h
  · exact h.elim (fun h => .inl (by unfold upd; split <;> first | rfl | exact h)) (fun h => .inr ⟨h.1, own_ch h.2 hc⟩)
  · exact h
  · rcases h with h | ⟨k, e, hk⟩
    · exact .inl (by unfold upd; split <;> first | rfl | exact h)
    · exact .inr ⟨k, e, (hc.block _ (blk_lt hk) id).trans hk⟩
  · obtain ⟨h, ho, hz⟩ := h
    exact ⟨(by unfold upd; split <;> first | rfl | exact h), own_ch ho hc, hz⟩
  · exact h
  · exact h
  · trivial
theorem zonl_stayA {LX D : Nat} {L Z n : Nat} {v : Value} {xs : List Value} {f : Nat → Bool} {d : Nat} {x : Value} {W W' : World} (hd : d ≠ 53) (_hQ : W.ownsRow L 203 2 v n xs) (_hc : Ch (fun j => v.ownBlock = some j) W W') (h : zonlT LX D L Z n v xs f d x W) : zonlT LX D L Z n v xs (upd f 13) d x W' := by
  unfold zonlT at h ⊢
  split at h
  · exact h
  · exact h
  · exact h
  · exact h
  · exact h
  · exact h
  · exact h
  · exact h
  · exact h
  · exact h
  · exact .inl (by simp [upd])
  · exact h
  · exact .inl (by simp [upd])
  · exact absurd rfl hd
  · exact h
  · exact h
  · trivial
set_option maxRecDepth 100000 in
theorem zonl_frame (x0 x1 x2 x3 x4 x5 x6 x7 x8 x9 x10 x11 x12 x13 x14 x15 x16 x17 x18 x19 x20 x21 x22 x23 x24 x25 x26 x27 x28 x29 x30 x31 x32 x33 x34 x35 x36 x37 x38 x39 x40 x41 x42 x43 x44 x45 x46 x47 x48 x49 x50 x51 x52 x53 x54 x55 x56 x57 x58 x59 x60 x61 x62 : Value) (d : List Deferred) (u : Nat → Value) : frameOf ⟨#[x0, x1, x2, x3, x4, x5, x6, x7, x8, x9, x10, x11, x12, x13, x14, x15, x16, x17, x18, x19, x20, x21, x22, x23, x24, x25, x26, x27, x28, x29, x30, x31, x32, x33, x34, x35, x36, x37, x38, x39, x40, x41, x42, x43, x44, x45, x46, x47, x48, x49, x50, x51, x52, x53, x54, x55, x56, x57, x58, x59, x60, x61, x62], d⟩ [40, 41, 42, 43, 44, 45, 46, 47, 48, 49, 50, 51, 52, 53, 54, 55] u = ⟨#[x0, x1, x2, x3, x4, x5, x6, x7, x8, x9, x10, x11, x12, x13, x14, x15, x16, x17, x18, x19, x20, x21, x22, x23, x24, x25, x26, x27, x28, x29, x30, x31, x32, x33, x34, x35, x36, x37, x38, x39, u 40, u 41, u 42, u 43, u 44, u 45, u 46, u 47, u 48, u 49, u 50, u 51, u 52, u 53, u 54, u 55, x56, x57, x58, x59, x60, x61, x62], d⟩ := by kernel_rfl

section
variable {ae : Addr} {S : Nat → Prop} {L D C : Nat} {s : ByteArray} {w0 : World} {cs : Array Value} {i : Nat} {w : World}

/-- The state in a walk whose own variable lies in block T, of the type Y. -/
structure VSt (ae : Addr) (S : Nat → Prop) (L D C : Nat) (s : ByteArray) (w0 : World) (cs : Array Value) (Y : TypeId) (T : Nat) (ct : Array Value) (i : Nat) (W : World) : Prop where
  st : St ae S L D C s w0 cs i W
  tb : W.heap[T]? = some (.cells ct Y (0, 0))
  tl : T ≠ L
  td : T ≠ D
  t6 : T ≠ 6
  ts : w0.heap.size ≤ T
section
variable {Y : TypeId} {T j : Nat} {ct : Array Value} {W W' : World}
theorem VSt.mk0 (h : St ae S L D C s w0 cs i w) (ct : Array Value) (Y : TypeId) : VSt ae S L D C s w0 cs Y w.heap.size ct i (w.alloc (.cells ct Y)) :=
  ⟨h.alloc _, heap_new _ _, by have := blk_lt h.lexb; omega, by have := blk_lt h.desc; omega, by have := h.lt6; omega, h.ch.size⟩
theorem VSt.mv (h : VSt ae S L D C s w0 cs Y T ct i W) (m : Mv L (2 + 1) j W W') (hj : j ≤ s.size) : VSt ae S L D C s w0 cs Y T ct j W' :=
  ⟨h.st.mv m hj, by rw [m.blk_other (Ne.symm h.tl)]; exact h.tb, h.tl, h.td, h.t6, h.ts⟩
theorem VSt.chF (h : VSt ae S L D C s w0 cs Y T ct i W) (hc : Ch (fun _ => False) W W') : VSt ae S L D C s w0 cs Y T ct i W' :=
  ⟨h.st.chF hc, (hc.block _ (blk_lt h.tb) id).trans h.tb, h.tl, h.td, h.t6, h.ts⟩
theorem VSt.set (h : VSt ae S L D C s w0 cs Y T ct i W) (k : Nat) (v : Value) : VSt ae S L D C s w0 cs Y T (ct.setIfInBounds k v) i (W.setCell ⟨T, k, none⟩ v) :=
  ⟨h.st.old (grownBy_set W T k v) (by simp; exact Ne.symm h.tl) (by simp; exact Ne.symm h.td) (by simp; exact Ne.symm h.t6) (fun k hk => .inl (by cases hk; exact h.ts)), blk_set v h.tb, h.tl, h.td, h.t6, h.ts⟩
theorem VSt.low (h : VSt ae S L D C s w0 cs Y T ct i W) : VSt ae S L D C s w0 cs Y T ct i W.drew := h.chF (Ch.of_heap (Ch.refl _ _) rfl rfl rfl rfl)
end

set_option maxRecDepth 100000 in
set_option maxHeartbeats 4000000 in
/-- 'z=1 1'. -/
theorem zone_line {Bs n : Nat} {v : Value} {xs : List Value} (h : St ae S L D C s w0 cs i w) {r : List UInt8} (hl : s.data.toList.drop i = 49 :: 32 :: 49 :: 13 :: 10 :: r) (hr : lead isNl r = 0)
    (hv : cs[15]? = some v) (hown : w.ownsRow Bs 203 2 v n xs) (hB : Bs ≤ w.heap.size) (hB6 : 6 < Bs) (hn : n ≤ 100000) (hS : ∀ k, v.ownBlock = some k → S k) :
    Calls Tryz.prog 224 #[.pointer (some ⟨L, 0, none⟩)] w fun e w' => e = .returned (.tuple #[.func (.func 229) #[] #[], .nilIface]) ∧
      ∃ g cap, St ae S L D C s w0 (cs.setIfInBounds 15 (.slice (some ⟨g, 0, none⟩) (n + 1) cap)) (i + 5) w' ∧ w'.ownsRow Bs 203 2 (.slice (some ⟨g, 0, none⟩) (n + 1) cap) (n + 1) (xs ++ [.int .u64 1, .int .i64 1]) ∧ lies v w.heap.size (.slice (some ⟨g, 0, none⟩) (n + 1) cap) := by
  have hlen : i + 5 ≤ s.size := drop_len hl (by simp) h.le
  have HL := Lib.hid hl
  have HX := Lib.hid (show lead isNl (s.data.toList.drop (i + 3)) = 2 from by rw [step_drop hl rfl]; show lead isNl r + 1 + 1 = 2; rw [hr])
  have H0 := Lib.hid (VSt.mk0 h #[.int .u64 0, .int .i64 0] 203)
  have HROW := Lib.hid (h.row hown hB6 (by decide) (by decide))
  have HVC := Lib.hid hv
  have HSX := Lib.hid hS
  have HO0 := Lib.hid (own_ch hown (Ch.grown (World.grownBy_alloc w (.cells #[.int .u64 0, .int .i64 0] 203) none) (by simp)))
  have HLT := Lib.hid (show ∀ k, v.ownBlock = some k → k < w.heap.size from fun k hk => (hown.lt k hk).2)
  clear h hl hr hown hv hS
  go_enter Tryz.func224, Tryz.ntmps224
  go_wp2_with fail
  refine wp_loop_rounds 2 ?_
  rw [rounds_succ]
  go_wp2_with fail
  obtain ⟨T, hT⟩ : ∃ T, w.heap.size = T := ⟨_, rfl⟩
  rw [hT] at H0 ⊢
  have HW := Lib.hid hT
  have HS0 := Lib.hid (show w.heap.size ≤ (w.alloc (.cells #[.int .u64 0, .int .i64 0] 203)).heap.size by simp)
  clear hT
  generalize w.alloc (.cells #[.int .u64 0, .int .i64 0] 203) = W0 at *
  refine (uint_at H0.out.st HL.out (v := 1) (m := 2) rfl (j := i + 2) rfl).mono ?_
  rintro e w1 ⟨rfl, hm1⟩
  have H1 := Lib.hid (H0.out.mv hm1 (by omega))
  have HO1 := Lib.hid (own_chX HO0.out (hm1.ch (S := fun k => k = L) rfl) (fun k hk hv => (HROW.out k hv).1 hk))
  have HS1 := Lib.hid (show w.heap.size ≤ w1.heap.size by rw [hm1.heap]; simpa [World.setCell] using HS0.out)
  have z1 : w1.frozen? ⟨T, 0, none⟩ = false := blk_frozen H1.out.tb
  have c1 : w1.cell? ⟨T, 0, none⟩ = some (.int .u64 0) := blk_cell H1.out.tb rfl
  clear hm1
  go_wp2_with fail
  have H2 := Lib.hid (H1.out.set 0 (.int .u64 1))
  have HO2 := Lib.hid (owns_same (w' := w1.setCell ⟨T, 0, none⟩ (.int .u64 1)) HO1.out fun k hk => blk_set_other _ (fun e => by have := HLT.out k hk; have := HW.out; omega))
  have HS2 := Lib.hid (show w.heap.size ≤ (w1.setCell ⟨T, 0, none⟩ (.int .u64 1)).heap.size by simpa [World.setCell] using HS1.out)
  clear z1 c1
  generalize w1.setCell ⟨T, 0, none⟩ (.int .u64 1) = W2 at *
  refine (field_at H2.out.st (step_drop HL.out rfl) (by simp) (n := 1) (m := 1) rfl (t := ⟨#[49]⟩) rfl (j := i + 3) rfl).mono ?_
  rintro e w3 ⟨rfl, hm3⟩
  have H3 := Lib.hid (H2.out.mv hm3 (by omega))
  have HO3 := Lib.hid (own_chX HO2.out (hm3.ch (S := fun k => k = L) rfl) (fun k hk hv => (HROW.out k hv).1 hk))
  have HS3 := Lib.hid (show w.heap.size ≤ w3.heap.size by rw [hm3.heap]; simpa [World.setCell] using HS2.out)
  clear hm3
  go_wp2_with fail
  refine (units_one _).mono ?_
  rintro e w4 ⟨rfl, hc4⟩
  have h4 := H3.out.chF hc4
  have z4 : w4.frozen? ⟨T, 1, none⟩ = false := blk_frozen h4.tb
  have c4 : w4.cell? ⟨T, 1, none⟩ = some (.int .i64 0) := blk_cell h4.tb rfl
  have H4a := Lib.hid h4
  have HO4 := Lib.hid (own_ch HO3.out hc4)
  have HS4 := Lib.hid (Nat.le_trans HS3.out hc4.size)
  clear h4 hc4
  go_upto_region 13 with fail
  have H4 := Lib.hid (H4a.out.set 1 (.int .i64 1))
  have HOWN := Lib.hid (owns_same (w' := w4.setCell ⟨T, 1, none⟩ (.int .i64 1)) HO4.out fun k hk => blk_set_other _ (fun e => by have := HLT.out k hk; have := HW.out; omega))
  have HZW := Lib.hid (show w.heap.size ≤ (w4.setCell ⟨T, 1, none⟩ (.int .i64 1)).heap.size by simpa [World.setCell] using HS4.out)
  clear z4 c4
  generalize w4.setCell ⟨T, 1, none⟩ (.int .i64 1) = W4 at *
  have H4D := Lib.hid H4.out.st.desc
  have HLW := Lib.hid (Nat.le_trans hB HZW.out)
  have HLBK := Lib.hid (show ¬ (v.ownBlock = some L) from fun e => (HROW.out L e).1 rfl)
  have HDBK := Lib.hid (show ¬ (v.ownBlock = some D) from fun e => (HROW.out D e).2.1 rfl)
  have HTBK := Lib.hid (show ¬ (v.ownBlock = some T) from fun e => by have := HLT.out T e; have := HW.out; omega)
  refine wp_region_ops8 (by kernel_rfl) [40, 41, 42, 43, 44, 45, 46, 47, 48, 49, 50, 51, 52, 53, 54, 55] 16 [] (by kernel_rfl) (by kernel_rfl) (by kernel_rfl) (zonlT L D Bs w.heap.size n v xs) (appR Bs 203 2 n v xs 13 W4) ⟨Ch.of_heap (Ch.refl _ W4) rfl rfl rfl rfl, .inr HOWN.out⟩ (fun q hq => by cases hq) ?_ ?_
  · intro i oo hi ho A f W' hf hdep hcl hR hr hx K hK
    have hRc := hR.1
    have hLW : Bs ≤ W'.heap.size := Nat.le_trans HLW.out hRc.size
    have hZW : w.heap.size ≤ W'.heap.size := Nat.le_trans HZW.out hRc.size
    have hL0 : W'.cell? ⟨L, 0, none⟩ = some (.pointer (some ⟨D, 0, none⟩)) := hRc.cell H4.out.st.p0 HLBK.out
    have hD : W'.heap[D]? = some (.cells cs 108 (0, 0)) := (hRc.block D (blk_lt H4.out.st.desc) HDBK.out).trans H4.out.st.desc
    have hDv := HVC.out
    have hT : W'.heap[T]? = some (.cells #[.int .u64 1, .int .i64 1] 203 (0, 0)) := (hRc.block T (blk_lt H4.out.tb) HTBK.out).trans H4.out.tb
    exact match i, hi, ho with
      | 0, _, ho => by
        obtain rfl := Option.some.inj ho
        have e0 : A.tmps[0]?.getD undef = .pointer (some ⟨L, 0, none⟩) := (eval_getD A 0).symm.trans (hx 0 (by decide))
        unfold Oper.wp execOp
        go_simp
        have hcc : Ch (fun _ => False) W' _ := Ch.refl _ _
        exact hK _ _ (fun d hd => by cases hd; exact rfl) (appR_step (by decide) hcc hR) (fun d _ _ h => zonl_stay hcc h)
      | 1, _, ho => by
        obtain rfl := Option.some.inj ho
        have e40 : A.tmps[40]?.getD undef = .pointer (some ⟨L, 0, none⟩) := (eval_getD A 40).symm.trans (hr 40 (by decide) (by decide))
        unfold Oper.wp execOp
        go_simp
        have hcc : Ch (fun _ => False) W' _ := Ch.refl _ _
        exact hK _ _ (fun d hd => by cases hd; exact rfl) (appR_step (by decide) hcc hR) (fun d _ _ h => zonl_stay hcc h)
      | 2, _, ho => by
        obtain rfl := Option.some.inj ho
        have e41 : A.tmps[41]?.getD undef = .pointer (some ⟨L, 0, none⟩) := (eval_getD A 41).symm.trans (hr 41 (by decide) (by decide))
        unfold Oper.wp execOp
        go_simp
        have hcc : Ch (fun _ => False) W' _ := Ch.refl _ _
        exact hK _ _ (fun d hd => by cases hd; exact rfl) (appR_step (by decide) hcc hR) (fun d _ _ h => zonl_stay hcc h)
      | 3, _, ho => by
        obtain rfl := Option.some.inj ho
        have e42 : A.tmps[42]?.getD undef = .pointer (some ⟨L, 0, none⟩) := (eval_getD A 42).symm.trans (hr 42 (by decide) (by decide))
        have l0 : W'.cell? ⟨L, 0, none⟩ = some (.pointer (some ⟨D, 0, none⟩)) := hL0
        unfold Oper.wp execOp
        go_simp
        have hcc : Ch (fun _ => False) W' _ := Ch.refl _ _
        exact hK _ _ (fun d hd => by cases hd; exact rfl) (appR_step (by decide) hcc hR) (fun d _ _ h => zonl_stay hcc h)
      | 4, _, ho => by
        obtain rfl := Option.some.inj ho
        have e0 : A.tmps[0]?.getD undef = .pointer (some ⟨L, 0, none⟩) := (eval_getD A 0).symm.trans (hx 0 (by decide))
        unfold Oper.wp execOp
        go_simp
        have hcc : Ch (fun _ => False) W' _ := Ch.refl _ _
        exact hK _ _ (fun d hd => by cases hd; exact rfl) (appR_step (by decide) hcc hR) (fun d _ _ h => zonl_stay hcc h)
      | 5, _, ho => by
        obtain rfl := Option.some.inj ho
        have e44 : A.tmps[44]?.getD undef = .pointer (some ⟨L, 0, none⟩) := (eval_getD A 44).symm.trans (hr 44 (by decide) (by decide))
        unfold Oper.wp execOp
        go_simp
        have hcc : Ch (fun _ => False) W' _ := Ch.refl _ _
        exact hK _ _ (fun d hd => by cases hd; exact rfl) (appR_step (by decide) hcc hR) (fun d _ _ h => zonl_stay hcc h)
      | 6, _, ho => by
        obtain rfl := Option.some.inj ho
        have e45 : A.tmps[45]?.getD undef = .pointer (some ⟨L, 0, none⟩) := (eval_getD A 45).symm.trans (hr 45 (by decide) (by decide))
        unfold Oper.wp execOp
        go_simp
        have hcc : Ch (fun _ => False) W' _ := Ch.refl _ _
        exact hK _ _ (fun d hd => by cases hd; exact rfl) (appR_step (by decide) hcc hR) (fun d _ _ h => zonl_stay hcc h)
      | 7, _, ho => by
        obtain rfl := Option.some.inj ho
        have e46 : A.tmps[46]?.getD undef = .pointer (some ⟨L, 0, none⟩) := (eval_getD A 46).symm.trans (hr 46 (by decide) (by decide))
        have l0 : W'.cell? ⟨L, 0, none⟩ = some (.pointer (some ⟨D, 0, none⟩)) := hL0
        unfold Oper.wp execOp
        go_simp
        have hcc : Ch (fun _ => False) W' _ := Ch.refl _ _
        exact hK _ _ (fun d hd => by cases hd; exact rfl) (appR_step (by decide) hcc hR) (fun d _ _ h => zonl_stay hcc h)
      | 8, _, ho => by
        obtain rfl := Option.some.inj ho
        have e47 : A.tmps[47]?.getD undef = .pointer (some ⟨D, 0, none⟩) := (eval_getD A 47).symm.trans (hr 47 (by decide) (by decide))
        unfold Oper.wp execOp
        go_simp
        have hcc : Ch (fun _ => False) W' _ := Ch.refl _ _
        exact hK _ _ (fun d hd => by cases hd; exact rfl) (appR_step (by decide) hcc hR) (fun d _ _ h => zonl_stay hcc h)
      | 9, _, ho => by
        obtain rfl := Option.some.inj ho
        have e48 : A.tmps[48]?.getD undef = .pointer (some ⟨D, 0, none⟩) := (eval_getD A 48).symm.trans (hr 48 (by decide) (by decide))
        unfold Oper.wp execOp
        go_simp
        have hcc : Ch (fun _ => False) W' _ := Ch.refl _ _
        exact hK _ _ (fun d hd => by cases hd; exact rfl) (appR_step (by decide) hcc hR) (fun d _ _ h => zonl_stay hcc h)
      | 10, _, ho => by
        obtain rfl := Option.some.inj ho
        have e49 : A.tmps[49]?.getD undef = .pointer (some ⟨D, 15, none⟩) := (eval_getD A 49).symm.trans (hr 49 (by decide) (by decide))
        have hl0 := blk_cell hD hDv
        unfold Oper.wp execOp
        go_simp
        have hfa : f 13 = false := Bool.eq_false_iff.2 (fun h => by have h1 := hcl 13 h 10 (by decide); rw [hf] at h1; cases h1)
        have hcc : Ch (fun _ => False) W' _ := Ch.refl _ _
        exact hK _ _ (fun d hd => by cases hd; exact .inr ⟨rfl, hR.2.resolve_left (by rw [hfa]; decide)⟩) (appR_step (by decide) hcc hR) (fun d _ _ h => zonl_stay hcc h)
      | 11, _, ho => by
        obtain rfl := Option.some.inj ho
        have l0 : W'.cell? ⟨T, 0, none⟩ = some (.int .u64 1) := blk_cell hT rfl
        have l1 : W'.cell? ⟨T, 1, none⟩ = some (.int .i64 1) := blk_cell hT rfl
        have e5 : A.tmps[5]?.getD undef = .pointer (some ⟨T, 0, none⟩) := (eval_getD A 5).symm.trans (hx 5 (by decide))
        unfold Oper.wp execOp
        go_simp
        have hcc : Ch (fun _ => False) W' _ := Ch.refl _ _
        exact hK _ _ (fun d hd => by cases hd; exact rfl) (appR_step (by decide) hcc hR) (fun d _ _ h => zonl_stay hcc h)
      | 12, _, ho => by
        obtain rfl := Option.some.inj ho
        have e51 : A.tmps[51]?.getD undef = .agg #[.int .u64 1, .int .i64 1] := (eval_getD A 51).symm.trans (hr 51 (by decide) (by decide))
        unfold Oper.wp execOp
        go_simp
        have hcc : Ch (fun _ => False) W' (W'.alloc (.cells #[.int .u64 1, .int .i64 1] 203)) := Ch.grown (World.grownBy_alloc _ _ none) (by simp)
        exact hK _ _ (fun d hd => by cases hd; exact .inr ⟨_, rfl, heap_alloc_new _ _⟩) (appR_step (by decide) hcc hR) (fun d _ _ h => zonl_stay hcc h)
      | 13, _, ho => by
        obtain rfl := Option.some.inj ho
        have hls : f 13 = true ∨ (A.eval (.tmp 50) = v ∧ W'.ownsRow Bs 203 2 v n xs) := hr 50 (by decide) (by decide)
        obtain ⟨els, hown⟩ := hls.resolve_left (by rw [hf]; decide)
        have hbs : f 13 = true ∨ ∃ (k : Nat) , A.eval (.tmp 52) = .slice (some ⟨k, 0, none⟩) 1 1 ∧ W'.heap[k]? = some (.cells #[.int .u64 1, .int .i64 1] 203 (0, 0)) := hr 52 (by decide) (by decide)
        obtain ⟨k, ebs, hk⟩ := hbs.resolve_left (by rw [hf]; decide)
        obtain ⟨i0, hi0, hz0, hz1, hz2⟩ := info_parts info203_l
        refine wp_append_lies _ (.tmp 50) (.tmp 52) 103 rfl Bs 203 i0 _ 2 16 Tryz.underlying103 hi0 hz0 hz1 hz2 rfl (by decide) v n xs els hown ⟨k, 0, none⟩ 1 1 [.int .u64 1, .int .i64 1] ebs rfl (World.news_of_block hk) (by simp [Value.oneCell']) (by decide) (by unfold maxLen; omega) (by omega) hLW _ rfl ?_
        intro g cap W2 hown2 hgrow2 hat hlt
        have hco : Ch (fun j => v.ownBlock = some j) W' W2 := Ch.grown hgrow2 (fun j hj => hj)
        exact hK _ _ (fun d hd => by cases hd; exact ⟨by simp [upd], hown2, lies_at hat hZW⟩) (appR_app hco hR) (fun d _ hne h => zonl_stayA (fun e => hne (by subst e; rfl)) hown hco h)
      | 14, _, ho => by
        obtain rfl := Option.some.inj ho
        have e43 : A.tmps[43]?.getD undef = .pointer (some ⟨D, 0, none⟩) := (eval_getD A 43).symm.trans (hr 43 (by decide) (by decide))
        unfold Oper.wp execOp
        go_simp
        have hcc : Ch (fun _ => False) W' _ := Ch.refl _ _
        exact hK _ _ (fun d hd => by cases hd; exact rfl) (appR_step (by decide) hcc hR) (fun d _ _ h => zonl_stay hcc h)
      | 15, _, ho => by
        obtain rfl := Option.some.inj ho
        have e54 : A.tmps[54]?.getD undef = .pointer (some ⟨D, 0, none⟩) := (eval_getD A 54).symm.trans (hr 54 (by decide) (by decide))
        unfold Oper.wp execOp
        go_simp
        have hcc : Ch (fun _ => False) W' _ := Ch.refl _ _
        exact hK _ _ (fun d hd => by cases hd; exact rfl) (appR_step (by decide) hcc hR) (fun d _ _ h => zonl_stay hcc h)
      | n + 16, hi, _ => absurd hi (by omega)
  · intro oo ho u f W3 hfa hR hu
    obtain rfl := Option.some.inj ho
    have hap : f 13 = true ∧ (W3.ownsRow Bs 203 2 (u 53) (n + 1) (xs ++ [.int .u64 1, .int .i64 1]) ∧ lies v w.heap.size ((u 53))) := hu 53 (by decide)
    have hRc := hR.1
    have hv1 : u 55 = .pointer (some ⟨D, 15, none⟩) := hu 55 (by decide)
    have hb3 : W3.heap[D]? = some (.cells cs 108 (0, 0)) := (hRc.block D (blk_lt H4D.out) HDBK.out).trans H4D.out
    have hf3 : W3.frozen? ⟨D, 15, none⟩ = false := blk_frozen hb3
    have hc3 : W3.cell? ⟨D, 15, none⟩ = some v := blk_cell hb3 HVC.out
    have ⟨ho9, hz9⟩ := hap.2
    obtain ⟨g9, cap9, hvn⟩ := own_form ho9
    rw [hvn] at ho9 hz9
    have HO9a := Lib.hid ho9
    have HZ9 := Lib.hid hz9
    have HRC := Lib.hid hRc
    have HB3 := Lib.hid hb3
    clear hR hu hfa hb3 hRc hap ho9 hz9
    rw [zonl_frame, hv1, hvn]
    unfold Oper.wp execOp
    go_simp
    clear hv1 hf3 hc3 hvn
    have H5 := Lib.hid ((H4.out.st.chX HRC.out (fun k hk => HROW.out k hk) HSX.out).set 15 (.slice (some ⟨g9, 0, none⟩) (n + 1) cap9))
    have HO5 := Lib.hid (owns_same (w' := W3.setCell ⟨D, 15, none⟩ (.slice (some ⟨g9, 0, none⟩) (n + 1) cap9)) HO9a.out fun k hk => blk_set_other _ (fun e => own_not HO9a.out HB3.out (by decide) (by rw [hk, e])))
    clear HB3 HO9a
    generalize W3.setCell ⟨D, 15, none⟩ (.slice (some ⟨g9, 0, none⟩) (n + 1) cap9) = W5 at *
    go_wp2_with fail
    rw [rounds_succ]
    go_wp2_with fail
    have H6 := Lib.hid (VSt.mk0 H5.out #[.int .u64 0, .int .i64 0] 203)
    have HN6 := Lib.hid (show ∀ k, (Value.slice (some ⟨g9, 0, none⟩) (n + 1) cap9).ownBlock = some k → k < W5.heap.size from fun k hk => (HO5.out.lt k hk).2)
    have HO6 := Lib.hid (own_ch HO5.out (Ch.grown (World.grownBy_alloc W5 (.cells #[.int .u64 0, .int .i64 0] 203) none) (by simp)))
    refine (uint_at H6.out.st (step_drop HL.out rfl) (v := 0) (m := 0) rfl (j := i + 3) rfl).mono ?_
    rintro e w6 ⟨rfl, hm6⟩
    have H7 := Lib.hid (H6.out.mv hm6 (by omega))
    have HO7 := Lib.hid (own_chX HO6.out (hm6.ch (S := fun k => k = L) rfl) (own_off HO6.out (NotT.one H6.out.st.lexb (by decide))))
    have z7 : w6.frozen? ⟨W5.heap.size, 0, none⟩ = false := blk_frozen H7.out.tb
    have c7 : w6.cell? ⟨W5.heap.size, 0, none⟩ = some (.int .u64 0) := blk_cell H7.out.tb rfl
    clear hm6
    go_wp2_with fail
    have H8 := Lib.hid (H7.out.set 0 (.int .u64 0))
    have HO8 := Lib.hid (owns_same (w' := w6.setCell ⟨W5.heap.size, 0, none⟩ (.int .u64 0)) HO7.out fun k hk => blk_set_other _ (fun e => by have := HN6.out k hk; omega))
    clear z7 c7
    generalize w6.setCell ⟨W5.heap.size, 0, none⟩ (.int .u64 0) = W8 at *
    refine (field_at H8.out.st (step_drop HL.out rfl) (by simp) (n := 0) (m := 0) rfl (t := ⟨#[]⟩) rfl (j := i + 3) rfl).mono ?_
    rintro e w9 ⟨rfl, hm9⟩
    have H9 := Lib.hid (H8.out.mv hm9 (by omega))
    have HO9 := Lib.hid (own_chX HO8.out (hm9.ch (S := fun k => k = L) rfl) (own_off HO8.out (NotT.one H8.out.st.lexb (by decide))))
    clear hm9
    go_wp2_with fail
    refine (nextLine_ok H9.out.st.lx).mono ?_
    rw [HX.out]
    rintro e w10 ⟨rfl, hm10⟩
    have H10 := Lib.hid (H9.out.mv hm10 hlen)
    have HO10 := Lib.hid (own_chX HO9.out (hm10.ch (S := fun k => k = L) rfl) (own_off HO9.out (NotT.one H9.out.st.lexb (by decide))))
    clear hm10
    go_wp2_with fail
    go_ret2
    exact ⟨rfl, g9, cap9, H10.out.st, HO10.out, HZ9.out⟩

end
end Go.Proofs.YtimonhimfioohaaGreatDoor
