/- ExtMap's reader (package sdp), by its walk. -/
import Derived.Test.YtimonhimfioohaaGreatDoorExtB
namespace Go.Proofs.YtimonhimfioohaaGreatDoor
open Go.RowKit

def AsciiT (w : World) : Prop := ∀ c : Nat, c < 256 → w.cell? ⟨5, c, none⟩ = some (.int .u8 (if Lib.isSp (UInt8.ofNat c) then 1 else 0))
theorem AsciiT.ch {w w' : World} (h : AsciiT w) (hc : Ch (fun _ => False) w w') : AsciiT w' := fun c h256 => hc.cell (h c h256) id

theorem strs_flat : ∀ l : List (List UInt8), (l.map fun l => Value.string ⟨l.toArray⟩).toArray.toList = (l.map fun x => (⟨x.toArray⟩ : ByteArray)).flatMap strC
  | [] => rfl
  | x :: l => by
    have := strs_flat l
    simp only [List.map_cons, List.flatMap_cons, strC] at this ⊢
    simpa using this
theorem fields_list {R : List UInt8} {l : List (List UInt8)} {n : Nat} (hR : Lib.fields R = l) (hn : l.length = n) (hsz : R.length ≤ 8589934592) (hasc : ∀ b ∈ R, b.toNat < 128) (W : World) (hT : AsciiT W) :
    Calls Tryz.prog 119 #[.string ⟨R.toArray⟩] W fun e w' => ∃ g, e = .returned (.slice (some ⟨g, 0, none⟩) n n) ∧ Lst w' 1 strC (some ⟨g, 0, none⟩) (l.map fun x => ⟨x.toArray⟩) ∧ Ch (fun _ => False) W w' := by
  refine (fields_wide ⟨R.toArray⟩ W (by simpa [ByteArray.size] using hsz) (fun j b hb => hasc b (by
    have := List.mem_of_getElem? hb
    simpa using this)) hT).mono ?_
  rintro e w' ⟨rfl, rfl⟩
  have h1 : Lib.fields (ByteArray.mk R.toArray).data.toList = l := by simpa using hR
  rw [h1, hn]
  refine ⟨_, rfl, lst_block (size := 1) (f := strC) (fun _ => rfl) (heap_alloc_new _ _) ?_, Ch.grown (World.grownBy_alloc _ _ none) (by simp)⟩
  exact strs_flat l

theorem no_slash : ∀ v : Fin 256, (Lib.decDigits v.val).contains 47 = false := by decide +kernel
theorem dec_slash {v : Nat} (hv : v ≤ 255) : (47 : UInt8) ∉ Lib.decDigits v := fun h => by
  have h1 := no_slash ⟨v, by omega⟩
  rw [List.contains_iff_mem.2 h] at h1
  cases h1
theorem split_dec {v : Nat} (hv : v ≤ 255) (w : World) : Calls Tryz.prog 120 #[.string ⟨(Lib.decDigits v).toArray⟩, .string ⟨#[47]⟩] w fun e w' => ∃ g cap, e = .returned (.slice (some ⟨g, 0, none⟩) 1 cap) ∧ Lst w' 1 strC (some ⟨g, 0, none⟩) [⟨(Lib.decDigits v).toArray⟩] ∧ Ch (fun _ => False) w w' :=
  split_none (Nat.le_trans (dec_len 19 v (Nat.lt_of_le_of_lt hv (by decide))) (by decide)) (by simpa using dec_slash hv) w
theorem dir_slash {d : Int} (h1 : 1 ≤ d) (h4 : d ≤ 4) : (47 : UInt8) ∉ (directionText d).data.toList ∧ (directionText d).data.toList.length = 8 ∧ ∀ b ∈ (directionText d).data.toList, b.toNat < 128 ∧ Lib.isSp b = false := by
  have : d = 1 ∨ d = 2 ∨ d = 3 ∨ d = 4 := by omega
  rcases this with rfl | rfl | rfl | rfl <;> decide +kernel
theorem split_dir {v : Nat} {d : Int} (hv : v ≤ 255) (h1 : 1 ≤ d) (h4 : d ≤ 4) (w : World) : Calls Tryz.prog 120 #[.string ⟨(Lib.decDigits v ++ 47 :: (directionText d).data.toList).toArray⟩, .string ⟨#[47]⟩] w fun e w' => ∃ g cap, e = .returned (.slice (some ⟨g, 0, none⟩) 2 cap) ∧ Lst w' 1 strC (some ⟨g, 0, none⟩) [⟨(Lib.decDigits v).toArray⟩, directionText d] ∧ Ch (fun _ => False) w w' := by
  obtain ⟨hd, hl, _⟩ := dir_slash h1 h4
  have hlen : (Lib.decDigits v).length ≤ 20 := dec_len 19 v (Nat.lt_of_le_of_lt hv (by decide))
  refine (split_one (s := ⟨(Lib.decDigits v ++ 47 :: (directionText d).data.toList).toArray⟩) (c := 47) ?_ (by simp) (dec_slash hv) hd w).mono ?_
  · show (Lib.decDigits v ++ 47 :: (directionText d).data.toList).toArray.size ≤ _
    rw [List.size_toArray, List.length_append, List.length_cons, hl]
    omega
  · rintro e w' ⟨g, cap, rfl, ho, hc⟩
    refine ⟨g, cap, rfl, ?_, hc⟩
    have h := Lst.of_slice (f := strC) (l := [⟨(Lib.decDigits v).toArray⟩, ⟨(directionText d).data.toList.toArray⟩]) (fun _ => rfl) ho rfl
    simpa using h

/-- What the reader leaves. -/
def ExtPost (E v : Nat) (d : Int) (U : ByteArray) (ax : List ByteArray) (w : World) (e : Ending) (w' : World) : Prop :=
  e = .returned .nilIface ∧ (∃ p q, w'.heap[E]? = some (.cells #[.int .i64 v, .int .i64 d, .pointer p, .pointer q] 159 (0, 0)) ∧ OptP w' 249 p [U] ∧ OptP w' 9 q ax) ∧ Ch (fun k => k = E) w w'

set_option maxRecDepth 100000 in
set_option maxHeartbeats 4000000 in
theorem extRead_00 {E v : Nat} {raw : ByteArray} {R U : List UInt8} {w : World} (hE : w.heap[E]? = some (.cells #[.int .i64 0, .int .i64 0, .pointer none, .pointer none] 159 (0, 0))) (hv1 : 1 ≤ v) (hv2 : v ≤ 246) (hsz : raw.size ≤ 8589934592)
    (hraw : raw.data.toList = [101, 120, 116, 109, 97, 112] ++ 58 :: R) (hR : Lib.fields R = [(Lib.decDigits v), U]) (hasc : ∀ b ∈ R, b.toNat < 128) (hT : AsciiT w) :
    Calls Tryz.prog 77 #[.pointer (some ⟨E, 0, none⟩), .string raw] w (ExtPost E v 0 ⟨U.toArray⟩ [] w) := by
  have H118 := Lib.hid (splitTwo_at hsz hraw (by decide) w)
  have hRs : R.length ≤ 8589934592 := by
    have h1 : raw.size = raw.data.toList.length := by simp
    rw [hraw] at h1
    simp at h1
    omega
  have H119 := Lib.hid (fun W hT => fields_list (n := 2) hR rfl hRs hasc W hT)
  have HT := Lib.hid hT
  have HE := Lib.hid hE
  have hv3 : v ≤ 255 := by omega
  have HI := Lib.hid (fun W => parseInt_at hv3 W)
  have HS := Lib.hid (fun W => split_dec hv3 W)
  have hva : ¬ ((v : Int) < 1) := by omega
  have hvb : ¬ ((246 : Int) < v) := by omega
  clear hsz hraw hR hasc hT hE hRs
  go_enter Tryz.func77, Tryz.ntmps77
  go_wp2_with fail
  refine H118.out.mono ?_
  rintro e w1 ⟨g1, rfl, hl1, hc1⟩
  have c1 := lst_cell (k := 1) hl1 rfl
  have HC1 := Lib.hid hc1
  clear hl1 hc1
  go_wp2_with fail
  refine (H119.out w1 (HT.out.ch HC1.out)).mono ?_
  rintro e w2 ⟨g2, rfl, hl2, hc2⟩
  have HC2 := Lib.hid (HC1.out.trans hc2)
  have f0 := lst_cell (k := 0) hl2 rfl
  have HL2 := Lib.hid hl2
  clear hl2 hc2 c1
  go_wp2_with fail
  refine (HS.out w2).mono ?_
  rintro e w3 ⟨g3, cap3, rfl, hl3, hc3⟩
  have HC3 := Lib.hid (HC2.out.trans hc3)
  have HL3 := Lib.hid (HL2.out.ch hc3)
  have s0 := lst_cell (k := 0) hl3 rfl
  have HS3 := Lib.hid hl3
  clear hl3 hc3 f0
  go_wp2_with fail
  refine (HI.out w3).mono ?_
  rintro e w4 ⟨rfl, hc4⟩
  have HC4 := Lib.hid (HC3.out.trans hc4)
  have HL4 := Lib.hid (HL3.out.ch hc4)
  
  have f1 := lst_cell (k := 1) HL4.out rfl
  
  clear hc4 s0
  go_wp2_with fail
  refine (parseURL_any ⟨U.toArray⟩ w4).mono ?_
  rintro e w5 ⟨u, rfl, hu, hc5⟩
  have HC5 := Lib.hid (HC4.out.trans hc5)
  have HU := Lib.hid hu
  have hE5 := (HC5.out.block _ (blk_lt HE.out) id).trans HE.out
  have r0 : w5.cell? ⟨E, 0, none⟩ = some (.int .i64 0) := blk_cell hE5 rfl
  have z0 : w5.frozen? ⟨E, 0, none⟩ = false := blk_frozen hE5
  have r1 : w5.cell? ⟨E, 1, none⟩ = some (.int .i64 0) := blk_cell hE5 rfl
  have z1 : w5.frozen? ⟨E, 1, none⟩ = false := blk_frozen hE5
  have r2 : w5.cell? ⟨E, 2, none⟩ = some (.pointer none) := blk_cell hE5 rfl
  have z2 : w5.frozen? ⟨E, 2, none⟩ = false := blk_frozen hE5
  have r3 : w5.cell? ⟨E, 3, none⟩ = some (.pointer none) := blk_cell hE5 rfl
  have z3 : w5.frozen? ⟨E, 3, none⟩ = false := blk_frozen hE5
  have HE5 := Lib.hid hE5
  clear hu hc5 hE5
  go_wp2_with fail
  refine bodyPost_ret (v := .nilIface) (by simp [results, Tryz.results77]) rfl ?_
  have hb : (((w5.setCell ⟨E, 0, none⟩ (.int .i64 v)).setCell ⟨E, 1, none⟩ (.int .i64 0)).setCell ⟨E, 2, none⟩ (.pointer (some ⟨u, 0, none⟩))).heap[E]? = some (.cells #[.int .i64 v, .int .i64 0, .pointer (some ⟨u, 0, none⟩), .pointer none] 159 (0, 0)) := (blk_set (j := 2) _ (blk_set (j := 1) _ (blk_set (j := 0) _ HE5.out)))
  have hlt : ∀ (j : Nat) (cs : Array Value) (T : TypeId), w5.heap[j]? = some (.cells cs T (0, 0)) → T ≠ 159 → (((w5.setCell ⟨E, 0, none⟩ (.int .i64 v)).setCell ⟨E, 1, none⟩ (.int .i64 0)).setCell ⟨E, 2, none⟩ (.pointer (some ⟨u, 0, none⟩))).heap[j]? = some (.cells cs T (0, 0)) := fun j cs T hj hT => by
    have hne : j ≠ E := fun e => by
      subst e
      rw [HE5.out] at hj
      injection hj with hj
      injection hj with _ ht
      exact hT ht.symm
    exact (blk_set_other _ (Ne.symm hne)).trans ((blk_set_other _ (Ne.symm hne)).trans ((blk_set_other _ (Ne.symm hne)).trans (hj)))
  have hch : Ch (fun k => k = E) w (((w5.setCell ⟨E, 0, none⟩ (.int .i64 v)).setCell ⟨E, 1, none⟩ (.int .i64 0)).setCell ⟨E, 2, none⟩ (.pointer (some ⟨u, 0, none⟩))) := ((((HC5.out.mono (fun _ h => h.elim)).trans (Ch.set (S := fun k => k = E) (k := E) _ rfl _)).trans (Ch.set (S := fun k => k = E) (k := E) _ rfl _)).trans (Ch.set (S := fun k => k = E) (k := E) _ rfl _))
  exact ⟨rfl, ⟨_, _, hb, ⟨_, rfl, hlt _ _ _ HU.out (by decide)⟩, rfl⟩, hch⟩

set_option maxRecDepth 100000 in
set_option maxHeartbeats 4000000 in
theorem extRead_01 {E v : Nat} {raw : ByteArray} {R U A : List UInt8} {w : World} (hE : w.heap[E]? = some (.cells #[.int .i64 0, .int .i64 0, .pointer none, .pointer none] 159 (0, 0))) (hv1 : 1 ≤ v) (hv2 : v ≤ 246) (hsz : raw.size ≤ 8589934592)
    (hraw : raw.data.toList = [101, 120, 116, 109, 97, 112] ++ 58 :: R) (hR : Lib.fields R = [(Lib.decDigits v), U, A]) (hasc : ∀ b ∈ R, b.toNat < 128) (hT : AsciiT w) :
    Calls Tryz.prog 77 #[.pointer (some ⟨E, 0, none⟩), .string raw] w (ExtPost E v 0 ⟨U.toArray⟩ [⟨A.toArray⟩] w) := by
  have H118 := Lib.hid (splitTwo_at hsz hraw (by decide) w)
  have hRs : R.length ≤ 8589934592 := by
    have h1 : raw.size = raw.data.toList.length := by simp
    rw [hraw] at h1
    simp at h1
    omega
  have H119 := Lib.hid (fun W hT => fields_list (n := 3) hR rfl hRs hasc W hT)
  have HT := Lib.hid hT
  have HE := Lib.hid hE
  have hv3 : v ≤ 255 := by omega
  have HI := Lib.hid (fun W => parseInt_at hv3 W)
  have HS := Lib.hid (fun W => split_dec hv3 W)
  have hva : ¬ ((v : Int) < 1) := by omega
  have hvb : ¬ ((246 : Int) < v) := by omega
  clear hsz hraw hR hasc hT hE hRs
  go_enter Tryz.func77, Tryz.ntmps77
  go_wp2_with fail
  refine H118.out.mono ?_
  rintro e w1 ⟨g1, rfl, hl1, hc1⟩
  have c1 := lst_cell (k := 1) hl1 rfl
  have HC1 := Lib.hid hc1
  clear hl1 hc1
  go_wp2_with fail
  refine (H119.out w1 (HT.out.ch HC1.out)).mono ?_
  rintro e w2 ⟨g2, rfl, hl2, hc2⟩
  have HC2 := Lib.hid (HC1.out.trans hc2)
  have f0 := lst_cell (k := 0) hl2 rfl
  have HL2 := Lib.hid hl2
  clear hl2 hc2 c1
  go_wp2_with fail
  refine (HS.out w2).mono ?_
  rintro e w3 ⟨g3, cap3, rfl, hl3, hc3⟩
  have HC3 := Lib.hid (HC2.out.trans hc3)
  have HL3 := Lib.hid (HL2.out.ch hc3)
  have s0 := lst_cell (k := 0) hl3 rfl
  have HS3 := Lib.hid hl3
  clear hl3 hc3 f0
  go_wp2_with fail
  refine (HI.out w3).mono ?_
  rintro e w4 ⟨rfl, hc4⟩
  have HC4 := Lib.hid (HC3.out.trans hc4)
  have HL4 := Lib.hid (HL3.out.ch hc4)
  
  have f1 := lst_cell (k := 1) HL4.out rfl
  have f2 := lst_cell (k := 2) HL4.out rfl
  clear hc4 s0
  go_wp2_with fail
  refine (parseURL_any ⟨U.toArray⟩ w4).mono ?_
  rintro e w5 ⟨u, rfl, hu, hc5⟩
  have HC5 := Lib.hid (HC4.out.trans hc5)
  have f2' := lst_cell (k := 2) (HL4.out.ch hc5) rfl
  have hal : Ch (fun _ => False) w5 (w5.alloc (.cells #[.string ⟨A.toArray⟩] 9)) := Ch.grown (World.grownBy_alloc _ _ none) (by simp)
  have hq : (w5.alloc (.cells #[.string ⟨A.toArray⟩] 9)).heap[w5.heap.size]? = some (.cells #[.string ⟨A.toArray⟩] 9 (0, 0)) := heap_alloc_new _ _
  have HQ := Lib.hid hq
  have HU := Lib.hid ((hal.block _ (blk_lt hu) id).trans hu)
  have HC6 := Lib.hid (HC5.out.trans hal)
  clear hal hq
  have hE5 := (HC6.out.block _ (blk_lt HE.out) id).trans HE.out
  have r0 : (w5.alloc (.cells #[.string ⟨A.toArray⟩] 9)).cell? ⟨E, 0, none⟩ = some (.int .i64 0) := blk_cell hE5 rfl
  have z0 : (w5.alloc (.cells #[.string ⟨A.toArray⟩] 9)).frozen? ⟨E, 0, none⟩ = false := blk_frozen hE5
  have r1 : (w5.alloc (.cells #[.string ⟨A.toArray⟩] 9)).cell? ⟨E, 1, none⟩ = some (.int .i64 0) := blk_cell hE5 rfl
  have z1 : (w5.alloc (.cells #[.string ⟨A.toArray⟩] 9)).frozen? ⟨E, 1, none⟩ = false := blk_frozen hE5
  have r2 : (w5.alloc (.cells #[.string ⟨A.toArray⟩] 9)).cell? ⟨E, 2, none⟩ = some (.pointer none) := blk_cell hE5 rfl
  have z2 : (w5.alloc (.cells #[.string ⟨A.toArray⟩] 9)).frozen? ⟨E, 2, none⟩ = false := blk_frozen hE5
  have r3 : (w5.alloc (.cells #[.string ⟨A.toArray⟩] 9)).cell? ⟨E, 3, none⟩ = some (.pointer none) := blk_cell hE5 rfl
  have z3 : (w5.alloc (.cells #[.string ⟨A.toArray⟩] 9)).frozen? ⟨E, 3, none⟩ = false := blk_frozen hE5
  have HE5 := Lib.hid hE5
  clear hu hc5 hE5
  go_wp2_with fail
  refine bodyPost_ret (v := .nilIface) (by simp [results, Tryz.results77]) rfl ?_
  have hb : (((((w5.alloc (.cells #[.string ⟨A.toArray⟩] 9)).setCell ⟨E, 3, none⟩ (.pointer (some ⟨w5.heap.size, 0, none⟩))).setCell ⟨E, 0, none⟩ (.int .i64 v)).setCell ⟨E, 1, none⟩ (.int .i64 0)).setCell ⟨E, 2, none⟩ (.pointer (some ⟨u, 0, none⟩))).heap[E]? = some (.cells #[.int .i64 v, .int .i64 0, .pointer (some ⟨u, 0, none⟩), .pointer (some ⟨w5.heap.size, 0, none⟩)] 159 (0, 0)) := (blk_set (j := 2) _ (blk_set (j := 1) _ (blk_set (j := 0) _ (blk_set (j := 3) _ HE5.out))))
  have hlt : ∀ (j : Nat) (cs : Array Value) (T : TypeId), (w5.alloc (.cells #[.string ⟨A.toArray⟩] 9)).heap[j]? = some (.cells cs T (0, 0)) → T ≠ 159 → (((((w5.alloc (.cells #[.string ⟨A.toArray⟩] 9)).setCell ⟨E, 3, none⟩ (.pointer (some ⟨w5.heap.size, 0, none⟩))).setCell ⟨E, 0, none⟩ (.int .i64 v)).setCell ⟨E, 1, none⟩ (.int .i64 0)).setCell ⟨E, 2, none⟩ (.pointer (some ⟨u, 0, none⟩))).heap[j]? = some (.cells cs T (0, 0)) := fun j cs T hj hT => by
    have hne : j ≠ E := fun e => by
      subst e
      rw [HE5.out] at hj
      injection hj with hj
      injection hj with _ ht
      exact hT ht.symm
    exact (blk_set_other _ (Ne.symm hne)).trans ((blk_set_other _ (Ne.symm hne)).trans ((blk_set_other _ (Ne.symm hne)).trans ((blk_set_other _ (Ne.symm hne)).trans (hj))))
  have hch : Ch (fun k => k = E) w (((((w5.alloc (.cells #[.string ⟨A.toArray⟩] 9)).setCell ⟨E, 3, none⟩ (.pointer (some ⟨w5.heap.size, 0, none⟩))).setCell ⟨E, 0, none⟩ (.int .i64 v)).setCell ⟨E, 1, none⟩ (.int .i64 0)).setCell ⟨E, 2, none⟩ (.pointer (some ⟨u, 0, none⟩))) := (((((HC6.out.mono (fun _ h => h.elim)).trans (Ch.set (S := fun k => k = E) (k := E) _ rfl _)).trans (Ch.set (S := fun k => k = E) (k := E) _ rfl _)).trans (Ch.set (S := fun k => k = E) (k := E) _ rfl _)).trans (Ch.set (S := fun k => k = E) (k := E) _ rfl _))
  exact ⟨rfl, ⟨_, _, hb, ⟨_, rfl, hlt _ _ _ HU.out (by decide)⟩, ⟨_, rfl, hlt _ _ _ HQ.out (by decide)⟩⟩, hch⟩

set_option maxRecDepth 100000 in
set_option maxHeartbeats 4000000 in
theorem extRead_10 {E v : Nat} {d : Int} {raw : ByteArray} {R U : List UInt8} {w : World} (hE : w.heap[E]? = some (.cells #[.int .i64 0, .int .i64 0, .pointer none, .pointer none] 159 (0, 0))) (hv1 : 1 ≤ v) (hv2 : v ≤ 246) (hd1 : 1 ≤ d) (hd4 : d ≤ 4) (hsz : raw.size ≤ 8589934592)
    (hraw : raw.data.toList = [101, 120, 116, 109, 97, 112] ++ 58 :: R) (hR : Lib.fields R = [(Lib.decDigits v ++ 47 :: (directionText d).data.toList), U]) (hasc : ∀ b ∈ R, b.toNat < 128) (hT : AsciiT w) :
    Calls Tryz.prog 77 #[.pointer (some ⟨E, 0, none⟩), .string raw] w (ExtPost E v d ⟨U.toArray⟩ [] w) := by
  have H118 := Lib.hid (splitTwo_at hsz hraw (by decide) w)
  have hRs : R.length ≤ 8589934592 := by
    have h1 : raw.size = raw.data.toList.length := by simp
    rw [hraw] at h1
    simp at h1
    omega
  have H119 := Lib.hid (fun W hT => fields_list (n := 2) hR rfl hRs hasc W hT)
  have HT := Lib.hid hT
  have HE := Lib.hid hE
  have hv3 : v ≤ 255 := by omega
  have HI := Lib.hid (fun W => parseInt_at hv3 W)
  have HS := Lib.hid (fun W => split_dir hv3 hd1 hd4 W)
  have hva : ¬ ((v : Int) < 1) := by omega
  have hvb : ¬ ((246 : Int) < v) := by omega
  clear hsz hraw hR hasc hT hE hRs
  go_enter Tryz.func77, Tryz.ntmps77
  go_wp2_with fail
  refine H118.out.mono ?_
  rintro e w1 ⟨g1, rfl, hl1, hc1⟩
  have c1 := lst_cell (k := 1) hl1 rfl
  have HC1 := Lib.hid hc1
  clear hl1 hc1
  go_wp2_with fail
  refine (H119.out w1 (HT.out.ch HC1.out)).mono ?_
  rintro e w2 ⟨g2, rfl, hl2, hc2⟩
  have HC2 := Lib.hid (HC1.out.trans hc2)
  have f0 := lst_cell (k := 0) hl2 rfl
  have HL2 := Lib.hid hl2
  clear hl2 hc2 c1
  go_wp2_with fail
  refine (HS.out w2).mono ?_
  rintro e w3 ⟨g3, cap3, rfl, hl3, hc3⟩
  have HC3 := Lib.hid (HC2.out.trans hc3)
  have HL3 := Lib.hid (HL2.out.ch hc3)
  have s0 := lst_cell (k := 0) hl3 rfl
  have HS3 := Lib.hid hl3
  clear hl3 hc3 f0
  go_wp2_with fail
  refine (HI.out w3).mono ?_
  rintro e w4 ⟨rfl, hc4⟩
  have HC4 := Lib.hid (HC3.out.trans hc4)
  have HL4 := Lib.hid (HL3.out.ch hc4)
  have s1 := lst_cell (k := 1) (HS3.out.ch hc4) rfl
  have f1 := lst_cell (k := 1) HL4.out rfl
  
  clear hc4 s0
  go_wp2_with fail
  refine (newDirection_ok hd1 hd4 w4).mono ?_
  rintro e w4' ⟨rfl, rfl⟩
  go_wp2_with fail
  refine (parseURL_any ⟨U.toArray⟩ w4).mono ?_
  rintro e w5 ⟨u, rfl, hu, hc5⟩
  have HC5 := Lib.hid (HC4.out.trans hc5)
  have HU := Lib.hid hu
  have hE5 := (HC5.out.block _ (blk_lt HE.out) id).trans HE.out
  have r0 : w5.cell? ⟨E, 0, none⟩ = some (.int .i64 0) := blk_cell hE5 rfl
  have z0 : w5.frozen? ⟨E, 0, none⟩ = false := blk_frozen hE5
  have r1 : w5.cell? ⟨E, 1, none⟩ = some (.int .i64 0) := blk_cell hE5 rfl
  have z1 : w5.frozen? ⟨E, 1, none⟩ = false := blk_frozen hE5
  have r2 : w5.cell? ⟨E, 2, none⟩ = some (.pointer none) := blk_cell hE5 rfl
  have z2 : w5.frozen? ⟨E, 2, none⟩ = false := blk_frozen hE5
  have r3 : w5.cell? ⟨E, 3, none⟩ = some (.pointer none) := blk_cell hE5 rfl
  have z3 : w5.frozen? ⟨E, 3, none⟩ = false := blk_frozen hE5
  have HE5 := Lib.hid hE5
  clear hu hc5 hE5
  go_wp2_with fail
  refine bodyPost_ret (v := .nilIface) (by simp [results, Tryz.results77]) rfl ?_
  have hb : (((w5.setCell ⟨E, 0, none⟩ (.int .i64 v)).setCell ⟨E, 1, none⟩ (.int .i64 d)).setCell ⟨E, 2, none⟩ (.pointer (some ⟨u, 0, none⟩))).heap[E]? = some (.cells #[.int .i64 v, .int .i64 d, .pointer (some ⟨u, 0, none⟩), .pointer none] 159 (0, 0)) := (blk_set (j := 2) _ (blk_set (j := 1) _ (blk_set (j := 0) _ HE5.out)))
  have hlt : ∀ (j : Nat) (cs : Array Value) (T : TypeId), w5.heap[j]? = some (.cells cs T (0, 0)) → T ≠ 159 → (((w5.setCell ⟨E, 0, none⟩ (.int .i64 v)).setCell ⟨E, 1, none⟩ (.int .i64 d)).setCell ⟨E, 2, none⟩ (.pointer (some ⟨u, 0, none⟩))).heap[j]? = some (.cells cs T (0, 0)) := fun j cs T hj hT => by
    have hne : j ≠ E := fun e => by
      subst e
      rw [HE5.out] at hj
      injection hj with hj
      injection hj with _ ht
      exact hT ht.symm
    exact (blk_set_other _ (Ne.symm hne)).trans ((blk_set_other _ (Ne.symm hne)).trans ((blk_set_other _ (Ne.symm hne)).trans (hj)))
  have hch : Ch (fun k => k = E) w (((w5.setCell ⟨E, 0, none⟩ (.int .i64 v)).setCell ⟨E, 1, none⟩ (.int .i64 d)).setCell ⟨E, 2, none⟩ (.pointer (some ⟨u, 0, none⟩))) := ((((HC5.out.mono (fun _ h => h.elim)).trans (Ch.set (S := fun k => k = E) (k := E) _ rfl _)).trans (Ch.set (S := fun k => k = E) (k := E) _ rfl _)).trans (Ch.set (S := fun k => k = E) (k := E) _ rfl _))
  exact ⟨rfl, ⟨_, _, hb, ⟨_, rfl, hlt _ _ _ HU.out (by decide)⟩, rfl⟩, hch⟩

set_option maxRecDepth 100000 in
set_option maxHeartbeats 4000000 in
theorem extRead_11 {E v : Nat} {d : Int} {raw : ByteArray} {R U A : List UInt8} {w : World} (hE : w.heap[E]? = some (.cells #[.int .i64 0, .int .i64 0, .pointer none, .pointer none] 159 (0, 0))) (hv1 : 1 ≤ v) (hv2 : v ≤ 246) (hd1 : 1 ≤ d) (hd4 : d ≤ 4) (hsz : raw.size ≤ 8589934592)
    (hraw : raw.data.toList = [101, 120, 116, 109, 97, 112] ++ 58 :: R) (hR : Lib.fields R = [(Lib.decDigits v ++ 47 :: (directionText d).data.toList), U, A]) (hasc : ∀ b ∈ R, b.toNat < 128) (hT : AsciiT w) :
    Calls Tryz.prog 77 #[.pointer (some ⟨E, 0, none⟩), .string raw] w (ExtPost E v d ⟨U.toArray⟩ [⟨A.toArray⟩] w) := by
  have H118 := Lib.hid (splitTwo_at hsz hraw (by decide) w)
  have hRs : R.length ≤ 8589934592 := by
    have h1 : raw.size = raw.data.toList.length := by simp
    rw [hraw] at h1
    simp at h1
    omega
  have H119 := Lib.hid (fun W hT => fields_list (n := 3) hR rfl hRs hasc W hT)
  have HT := Lib.hid hT
  have HE := Lib.hid hE
  have hv3 : v ≤ 255 := by omega
  have HI := Lib.hid (fun W => parseInt_at hv3 W)
  have HS := Lib.hid (fun W => split_dir hv3 hd1 hd4 W)
  have hva : ¬ ((v : Int) < 1) := by omega
  have hvb : ¬ ((246 : Int) < v) := by omega
  clear hsz hraw hR hasc hT hE hRs
  go_enter Tryz.func77, Tryz.ntmps77
  go_wp2_with fail
  refine H118.out.mono ?_
  rintro e w1 ⟨g1, rfl, hl1, hc1⟩
  have c1 := lst_cell (k := 1) hl1 rfl
  have HC1 := Lib.hid hc1
  clear hl1 hc1
  go_wp2_with fail
  refine (H119.out w1 (HT.out.ch HC1.out)).mono ?_
  rintro e w2 ⟨g2, rfl, hl2, hc2⟩
  have HC2 := Lib.hid (HC1.out.trans hc2)
  have f0 := lst_cell (k := 0) hl2 rfl
  have HL2 := Lib.hid hl2
  clear hl2 hc2 c1
  go_wp2_with fail
  refine (HS.out w2).mono ?_
  rintro e w3 ⟨g3, cap3, rfl, hl3, hc3⟩
  have HC3 := Lib.hid (HC2.out.trans hc3)
  have HL3 := Lib.hid (HL2.out.ch hc3)
  have s0 := lst_cell (k := 0) hl3 rfl
  have HS3 := Lib.hid hl3
  clear hl3 hc3 f0
  go_wp2_with fail
  refine (HI.out w3).mono ?_
  rintro e w4 ⟨rfl, hc4⟩
  have HC4 := Lib.hid (HC3.out.trans hc4)
  have HL4 := Lib.hid (HL3.out.ch hc4)
  have s1 := lst_cell (k := 1) (HS3.out.ch hc4) rfl
  have f1 := lst_cell (k := 1) HL4.out rfl
  have f2 := lst_cell (k := 2) HL4.out rfl
  clear hc4 s0
  go_wp2_with fail
  refine (newDirection_ok hd1 hd4 w4).mono ?_
  rintro e w4' ⟨rfl, rfl⟩
  go_wp2_with fail
  refine (parseURL_any ⟨U.toArray⟩ w4).mono ?_
  rintro e w5 ⟨u, rfl, hu, hc5⟩
  have HC5 := Lib.hid (HC4.out.trans hc5)
  have f2' := lst_cell (k := 2) (HL4.out.ch hc5) rfl
  have hal : Ch (fun _ => False) w5 (w5.alloc (.cells #[.string ⟨A.toArray⟩] 9)) := Ch.grown (World.grownBy_alloc _ _ none) (by simp)
  have hq : (w5.alloc (.cells #[.string ⟨A.toArray⟩] 9)).heap[w5.heap.size]? = some (.cells #[.string ⟨A.toArray⟩] 9 (0, 0)) := heap_alloc_new _ _
  have HQ := Lib.hid hq
  have HU := Lib.hid ((hal.block _ (blk_lt hu) id).trans hu)
  have HC6 := Lib.hid (HC5.out.trans hal)
  clear hal hq
  have hE5 := (HC6.out.block _ (blk_lt HE.out) id).trans HE.out
  have r0 : (w5.alloc (.cells #[.string ⟨A.toArray⟩] 9)).cell? ⟨E, 0, none⟩ = some (.int .i64 0) := blk_cell hE5 rfl
  have z0 : (w5.alloc (.cells #[.string ⟨A.toArray⟩] 9)).frozen? ⟨E, 0, none⟩ = false := blk_frozen hE5
  have r1 : (w5.alloc (.cells #[.string ⟨A.toArray⟩] 9)).cell? ⟨E, 1, none⟩ = some (.int .i64 0) := blk_cell hE5 rfl
  have z1 : (w5.alloc (.cells #[.string ⟨A.toArray⟩] 9)).frozen? ⟨E, 1, none⟩ = false := blk_frozen hE5
  have r2 : (w5.alloc (.cells #[.string ⟨A.toArray⟩] 9)).cell? ⟨E, 2, none⟩ = some (.pointer none) := blk_cell hE5 rfl
  have z2 : (w5.alloc (.cells #[.string ⟨A.toArray⟩] 9)).frozen? ⟨E, 2, none⟩ = false := blk_frozen hE5
  have r3 : (w5.alloc (.cells #[.string ⟨A.toArray⟩] 9)).cell? ⟨E, 3, none⟩ = some (.pointer none) := blk_cell hE5 rfl
  have z3 : (w5.alloc (.cells #[.string ⟨A.toArray⟩] 9)).frozen? ⟨E, 3, none⟩ = false := blk_frozen hE5
  have HE5 := Lib.hid hE5
  clear hu hc5 hE5
  go_wp2_with fail
  refine bodyPost_ret (v := .nilIface) (by simp [results, Tryz.results77]) rfl ?_
  have hb : (((((w5.alloc (.cells #[.string ⟨A.toArray⟩] 9)).setCell ⟨E, 3, none⟩ (.pointer (some ⟨w5.heap.size, 0, none⟩))).setCell ⟨E, 0, none⟩ (.int .i64 v)).setCell ⟨E, 1, none⟩ (.int .i64 d)).setCell ⟨E, 2, none⟩ (.pointer (some ⟨u, 0, none⟩))).heap[E]? = some (.cells #[.int .i64 v, .int .i64 d, .pointer (some ⟨u, 0, none⟩), .pointer (some ⟨w5.heap.size, 0, none⟩)] 159 (0, 0)) := (blk_set (j := 2) _ (blk_set (j := 1) _ (blk_set (j := 0) _ (blk_set (j := 3) _ HE5.out))))
  have hlt : ∀ (j : Nat) (cs : Array Value) (T : TypeId), (w5.alloc (.cells #[.string ⟨A.toArray⟩] 9)).heap[j]? = some (.cells cs T (0, 0)) → T ≠ 159 → (((((w5.alloc (.cells #[.string ⟨A.toArray⟩] 9)).setCell ⟨E, 3, none⟩ (.pointer (some ⟨w5.heap.size, 0, none⟩))).setCell ⟨E, 0, none⟩ (.int .i64 v)).setCell ⟨E, 1, none⟩ (.int .i64 d)).setCell ⟨E, 2, none⟩ (.pointer (some ⟨u, 0, none⟩))).heap[j]? = some (.cells cs T (0, 0)) := fun j cs T hj hT => by
    have hne : j ≠ E := fun e => by
      subst e
      rw [HE5.out] at hj
      injection hj with hj
      injection hj with _ ht
      exact hT ht.symm
    exact (blk_set_other _ (Ne.symm hne)).trans ((blk_set_other _ (Ne.symm hne)).trans ((blk_set_other _ (Ne.symm hne)).trans ((blk_set_other _ (Ne.symm hne)).trans (hj))))
  have hch : Ch (fun k => k = E) w (((((w5.alloc (.cells #[.string ⟨A.toArray⟩] 9)).setCell ⟨E, 3, none⟩ (.pointer (some ⟨w5.heap.size, 0, none⟩))).setCell ⟨E, 0, none⟩ (.int .i64 v)).setCell ⟨E, 1, none⟩ (.int .i64 d)).setCell ⟨E, 2, none⟩ (.pointer (some ⟨u, 0, none⟩))) := (((((HC6.out.mono (fun _ h => h.elim)).trans (Ch.set (S := fun k => k = E) (k := E) _ rfl _)).trans (Ch.set (S := fun k => k = E) (k := E) _ rfl _)).trans (Ch.set (S := fun k => k = E) (k := E) _ rfl _)).trans (Ch.set (S := fun k => k = E) (k := E) _ rfl _))
  exact ⟨rfl, ⟨_, _, hb, ⟨_, rfl, hlt _ _ _ HU.out (by decide)⟩, ⟨_, rfl, hlt _ _ _ HQ.out (by decide)⟩⟩, hch⟩

end Go.Proofs.YtimonhimfioohaaGreatDoor
