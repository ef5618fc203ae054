/- A bandwidth's line is read. -/
import Derived.Test.YtimonhimfioohaaGreatDoorBand
import Derived.Test.YtimonhimfioohaaGreatDoorOrig
import Derived.Test.YtimonhimfioohaaGreatDoorUnits
namespace Go.Proofs.YtimonhimfioohaaGreatDoor
open Go.RowKit

theorem decFrom_snoc : ∀ (l : List UInt8) (acc m d : Nat) (c : UInt8), Lib.decFrom acc l = some m → Lib.digitVal c = some d → Lib.decFrom acc (l ++ [c]) = some (m * 10 + d)
  | [], acc, m, d, c, h, hc => by
    cases h
    simp [Lib.decFrom, hc]
  | b :: r, acc, m, d, c, h, hc => by
    rw [Lib.decFrom] at h
    rw [List.cons_append, Lib.decFrom]
    cases hv : Lib.digitVal b with
    | none => rw [hv] at h; cases h
    | some e =>
      rw [hv] at h
      exact decFrom_snoc r _ m d c h hc

theorem digit_of {d : Nat} (h : d < 10) : Lib.digitVal (UInt8.ofNat (48 + d)) = some d := by
  have : d = 0 ∨ d = 1 ∨ d = 2 ∨ d = 3 ∨ d = 4 ∨ d = 5 ∨ d = 6 ∨ d = 7 ∨ d = 8 ∨ d = 9 := by omega
  rcases this with rfl | rfl | rfl | rfl | rfl | rfl | rfl | rfl | rfl | rfl <;> rfl

theorem decFrom_digits (n : Nat) : Lib.decFrom 0 (Lib.decDigits n) = some n := by
  induction n using Nat.strongRecOn with
  | ind n ih =>
    by_cases h : n < 10
    · rw [Lib.decDigits_one h]
      have h1 := decFrom_snoc [] 0 0 n (UInt8.ofNat (48 + n)) rfl (digit_of h)
      simpa using h1
    · rw [Lib.decDigits, dif_neg h]
      have h1 := decFrom_snoc _ 0 _ _ _ (ih (n / 10) (by omega)) (digit_of (d := n % 10) (by omega))
      rw [h1]
      congr 1
      omega

theorem decDigits_ne (n : Nat) : Lib.decDigits n ≠ [] := by
  rw [Lib.decDigits]
  split <;> simp

theorem decNat_digits (n : Nat) : Lib.decNat (Lib.decDigits n) = some n := by
  rw [Lib.decNat, if_neg (by simpa using decDigits_ne n)]
  exact decFrom_digits n

theorem uint_digits {n : Nat} (h : n < 1125899906842624) : Lib.parseUintB 64 (Lib.decDigits n) = .ok n := by
  rw [Lib.parseUintB_64, Lib.parseMag_short _ (Nat.le_trans (dec_len 17 n (Nat.lt_of_lt_of_le h (by decide))) (by decide)), decNat_digits]
  rfl

theorem digits_no {n : Nat} {c : UInt8} (h : c ∈ Lib.decDigits n) : 48 ≤ c.toNat ∧ c.toNat ≤ 57 := dec_digits _ 0 n (decFrom_digits n) c h

theorem known_bytes {t : ByteArray} (h : t ∈ knownBands) : (58 : UInt8) ∉ t.data.toList ∧ Lib.hasPrefix t.data.toList [88, 45] = false ∧ t.size ≤ 4 := by
  simp only [knownBands, List.mem_cons, List.not_mem_nil, or_false] at h
  rcases h with rfl | rfl | rfl | rfl | rfl <;> decide

theorem band_no {x : Bool} {t : ByteArray} {n : Int} (h : BandOk x t n) : (58 : UInt8) ∉ (if x then [88, 45] else []) ++ t.data.toList := by
  intro hm
  rcases List.mem_append.1 hm with h1 | h1
  · cases x
    · cases h1
    · simp at h1
  · rcases h.1 with h2 | ⟨_, _, h2⟩
    · exact (known_bytes h2).1 h1
    · exact (h2 _ h1).2.2.2 rfl

theorem prefix_yes (l : List UInt8) : Lib.hasPrefix (88 :: 45 :: l) [88, 45] = true := by simp [Lib.hasPrefix]
theorem trim_yes (l : List UInt8) : Lib.trimPrefix (88 :: 45 :: l) [88, 45] = l := by simp [Lib.trimPrefix, Lib.hasPrefix]

theorem bytes_back (t : ByteArray) : (⟨t.data.toList.toArray⟩ : ByteArray) = t := by simp

set_option maxRecDepth 100000 in
set_option maxHeartbeats 4000000 in
theorem bandwidth_x {s t : ByteArray} {n : Nat} (hn : n < 1125899906842624) (hok : BandOk true t n) (ht : t.size ≤ 2147483647) (hs : s.data.toList = (88 :: 45 :: t.data.toList) ++ 58 :: Lib.decDigits n) (w : World) :
    Calls Tryz.prog 99 #[.string s] w fun e w' => ∃ g, e = .returned (.tuple #[.pointer (some ⟨g, 0, none⟩), .nilIface]) ∧ w'.heap[g]? = some (.cells #[.bool true, .string t, .int .u64 n] 134 (0, 0)) ∧ Ch (fun _ => False) w w' := by
  have hsz : s.size ≤ 4294967295 := by
    have h1 := (split_at hs).2.2.2.2
    have h2 : (Lib.decDigits n).length ≤ 18 := Nat.le_trans (dec_len 17 n (Nat.lt_of_lt_of_le hn (by decide))) (by decide)
    simp at h1
    have h3 : t.data.size = t.size := rfl
    omega
  have hsp := split_one hsz hs (by simpa using band_no hok) (fun h => by have := digits_no h; simp at this) w
  have HS := Lib.hid hsp
  have HN := Lib.hid (uint_digits hn)
  clear hsp hok hs hsz
  go_enter Tryz.func99, Tryz.ntmps99
  go_wp2_with fail
  go_at_call 120
  refine HS.out.mono ?_
  rintro e w1 ⟨g, cap, rfl, hown, hc⟩
  have c0 : w1.cell? ⟨g, 0, none⟩ = some (.string ⟨(88 :: 45 :: t.data.toList).toArray⟩) := hown.cellAt 0 (by decide)
  have c1 : w1.cell? ⟨g, 1, none⟩ = some (.string ⟨(Lib.decDigits n).toArray⟩) := hown.cellAt 1 (by decide)
  have z0 : w1.frozen? ⟨g, 0, none⟩ = false := by
    rcases hown.2 with ⟨h0, _⟩ | ⟨g', cap', cur, h0, _, hgg, _⟩
    · cases h0
    · cases h0
      exact blk_frozen hgg
  obtain ⟨hgb, hgl⟩ := hown.lt g rfl
  have hch : Ch (fun _ => False) w (w1.setCell ⟨g, 0, none⟩ (.string t)) := hc.old (grownBy_set _ _ _ _) (fun k hk => .inl (by cases hk; exact hgb))
  have HCH := Lib.hid hch
  have hA : (ByteArray.mk (88 :: 45 :: t.data.toList).toArray).data.toList = 88 :: 45 :: t.data.toList := by simp
  have hD : (ByteArray.mk (Lib.decDigits n).toArray).data.toList = Lib.decDigits n := by simp
  generalize (ByteArray.mk (88 :: 45 :: t.data.toList).toArray) = A at *
  generalize (ByteArray.mk (Lib.decDigits n).toArray) = D at *
  have hDs : D.size ≤ 9223372036854775806 := by
    have h1 : D.size = D.data.toList.length := by simp
    rw [h1, hD]
    exact Nat.le_trans (dec_len 17 n (Nat.lt_of_lt_of_le hn (by decide))) (by decide)
  have hp : ∀ W, Calls Tryz.prog 133 #[.string A, .string ⟨#[88, 45]⟩] W fun e w' => e = .returned (.bool true) ∧ w' = W := fun W => by
    have h1 := Tryz.strings_HasPrefix A ⟨#[88, 45]⟩ W
    rw [hA, prefix_yes] at h1
    exact h1
  have hq : ∀ W, Calls Tryz.prog 134 #[.string A, .string ⟨#[88, 45]⟩] W fun e w' => e = .returned (.string t) ∧ w' = W := fun W => by
    have h1 := Tryz.strings_TrimPrefix A ⟨#[88, 45]⟩ W
    rw [hA, trim_yes, bytes_back] at h1
    exact h1
  have hu : ∀ W, Calls Tryz.prog 136 #[.string D, .int .i64 10, .int .i64 64] W fun e w' => e = .returned (.tuple #[.int .u64 n, .nilIface]) ∧ Ch (fun _ => False) W w' := fun W =>
    (Tryz.strconv_ParseUint_10_at64_ok D hDs n (by rw [hD]; exact HN.out) W).mono (fun e w' ⟨he, hw⟩ => ⟨he, by
      rcases hw with rfl | rfl
      · exact Ch.refl _ _
      · exact Ch.of_below (Lib.bytesWorld_below W 5 D)⟩)
  have HP := Lib.hid hp
  have HQ := Lib.hid hq
  have HU := Lib.hid hu
  have HL := Lib.hid hgl
  clear hp hq hu hA hD hDs hc hch hown hgb hgl ht hn
  have e0 : (w1.setCell ⟨g, 0, none⟩ (.string t)).cell? ⟨g, 0, none⟩ = some (.string t) := World.cell?_setCell_same _ _ _ c0
  have e1 : (w1.setCell ⟨g, 0, none⟩ (.string t)).cell? ⟨g, 1, none⟩ = some (.string D) := (World.cell?_setCell_other _ _ _ _ (by simp)).trans c1
  go_wp2_with (first | (go_at_call 133; refine (HP.out w1).mono ?_; rintro e w2 ⟨rfl, rfl⟩) | (go_at_call 134; refine (HQ.out _).mono ?_; rintro e w2 ⟨rfl, rfl⟩) | fail)
  go_at_call 136
  refine (HU.out _).mono ?_
  rintro e w3 ⟨rfl, hc3⟩
  have f0 := hc3.cell e0 id
  have HC3 := Lib.hid (HCH.out.trans hc3)
  clear hc3 c0 c1 z0 e0 e1
  go_wp2
  refine bodyPost_ret (v := .tuple #[.pointer (some ⟨w3.heap.size, 0, none⟩), .nilIface]) (by simp [results, Tryz.results99]) rfl ?_
  exact ⟨_, rfl, heap_alloc_new _ _, HC3.out.trans (Ch.grown (World.grownBy_alloc _ _ none) (by simp))⟩

set_option maxRecDepth 100000 in
set_option maxHeartbeats 4000000 in
theorem bandwidth_known {s t : ByteArray} {n : Nat} (hn : n < 1125899906842624) (hok : t ∈ knownBands) (hs : s.data.toList = t.data.toList ++ 58 :: Lib.decDigits n) (w : World) :
    Calls Tryz.prog 99 #[.string s] w fun e w' => ∃ g, e = .returned (.tuple #[.pointer (some ⟨g, 0, none⟩), .nilIface]) ∧ w'.heap[g]? = some (.cells #[.bool false, .string t, .int .u64 n] 134 (0, 0)) ∧ Ch (fun _ => False) w w' := by
  obtain ⟨k1, k2, k3⟩ := known_bytes hok
  have hsz : s.size ≤ 4294967295 := by
    have h1 := (split_at hs).2.2.2.2
    have h2 : (Lib.decDigits n).length ≤ 18 := Nat.le_trans (dec_len 17 n (Nat.lt_of_lt_of_le hn (by decide))) (by decide)
    have h3 : t.data.toList.length = t.size := by simp
    omega
  have hsp := split_one hsz hs k1 (fun h => by have := digits_no h; simp at this) w
  rw [bytes_back] at hsp
  have HS := Lib.hid hsp
  have HN := Lib.hid (uint_digits hn)
  have HK := Lib.hid hok
  clear hsp hok hs hsz k1 k3
  go_enter Tryz.func99, Tryz.ntmps99
  go_wp2_with fail
  go_at_call 120
  refine HS.out.mono ?_
  rintro e w1 ⟨g, cap, rfl, hown, hc⟩
  have c0 : w1.cell? ⟨g, 0, none⟩ = some (.string t) := hown.cellAt 0 (by decide)
  have c1 : w1.cell? ⟨g, 1, none⟩ = some (.string ⟨(Lib.decDigits n).toArray⟩) := hown.cellAt 1 (by decide)
  obtain ⟨hgb, hgl⟩ := hown.lt g rfl
  have HCH := Lib.hid hc
  have hD : (ByteArray.mk (Lib.decDigits n).toArray).data.toList = Lib.decDigits n := by simp
  generalize (ByteArray.mk (Lib.decDigits n).toArray) = D at *
  have hDs : D.size ≤ 9223372036854775806 := by
    have h1 : D.size = D.data.toList.length := by simp
    rw [h1, hD]
    exact Nat.le_trans (dec_len 17 n (Nat.lt_of_lt_of_le hn (by decide))) (by decide)
  have hp : ∀ W, Calls Tryz.prog 133 #[.string t, .string ⟨#[88, 45]⟩] W fun e w' => e = .returned (.bool false) ∧ w' = W := fun W => by
    have h1 := Tryz.strings_HasPrefix t ⟨#[88, 45]⟩ W
    rw [show (ByteArray.mk #[88, 45]).data.toList = [88, 45] from rfl, k2] at h1
    exact h1
  have hu : ∀ W, Calls Tryz.prog 136 #[.string D, .int .i64 10, .int .i64 64] W fun e w' => e = .returned (.tuple #[.int .u64 n, .nilIface]) ∧ Ch (fun _ => False) W w' := fun W =>
    (Tryz.strconv_ParseUint_10_at64_ok D hDs n (by rw [hD]; exact HN.out) W).mono (fun e w' ⟨he, hw⟩ => ⟨he, by
      rcases hw with rfl | rfl
      · exact Ch.refl _ _
      · exact Ch.of_below (Lib.bytesWorld_below W 5 D)⟩)
  have hb1 : (w1.alloc (.cells #[.string ⟨#[67, 84]⟩, .string ⟨#[65, 83]⟩, .string ⟨#[84, 73, 65, 83]⟩, .string ⟨#[82, 83]⟩, .string ⟨#[82, 82]⟩] 9)).heap[w1.heap.size]? = some (.cells #[.string ⟨#[67, 84]⟩, .string ⟨#[65, 83]⟩, .string ⟨#[84, 73, 65, 83]⟩, .string ⟨#[82, 83]⟩, .string ⟨#[82, 82]⟩] 9 (0, 0)) := heap_alloc_new _ _
  have HP := Lib.hid hp
  have HU := Lib.hid hu
  have HB1 := Lib.hid hb1
  clear hp hu hD hDs hc hown hgb hgl hn hb1 k2
  have hany : Calls Tryz.prog 135 #[.string t, .slice (some ⟨w1.heap.size, 0, none⟩) 5 5] (w1.alloc (.cells #[.string ⟨#[67, 84]⟩, .string ⟨#[65, 83]⟩, .string ⟨#[84, 73, 65, 83]⟩, .string ⟨#[82, 83]⟩, .string ⟨#[82, 82]⟩] 9)) fun e w' => e = .returned (.bool true) ∧ (w1.alloc (.cells #[.string ⟨#[67, 84]⟩, .string ⟨#[65, 83]⟩, .string ⟨#[84, 73, 65, 83]⟩, .string ⟨#[82, 83]⟩, .string ⟨#[82, 82]⟩] 9)) = w' := by
    have h1 := anyOf_any w1.heap.size 0 5 5 knownBands t (w1.alloc (.cells #[.string ⟨#[67, 84]⟩, .string ⟨#[65, 83]⟩, .string ⟨#[84, 73, 65, 83]⟩, .string ⟨#[82, 83]⟩, .string ⟨#[82, 82]⟩] 9)) (by decide) (by decide) (fun j hj => by
      have h5 : j < 5 := hj
      have : j = 0 ∨ j = 1 ∨ j = 2 ∨ j = 3 ∨ j = 4 := by omega
      rcases this with rfl | rfl | rfl | rfl | rfl <;> exact blk_cell HB1.out rfl)
    rw [show knownBands.take 5 = knownBands from rfl, (Lib.containsS_iff knownBands t).2 HK.out] at h1
    exact h1
  have HA := Lib.hid hany
  have hcx : Ch (fun _ => False) w1 (w1.alloc (.cells #[.string ⟨#[67, 84]⟩, .string ⟨#[65, 83]⟩, .string ⟨#[84, 73, 65, 83]⟩, .string ⟨#[82, 83]⟩, .string ⟨#[82, 82]⟩] 9)) := Ch.grown (World.grownBy_alloc _ _ none) (by simp)
  have HCX := Lib.hid hcx
  have e0 := hcx.cell c0 id
  have e1 := hcx.cell c1 id
  clear hany hcx
  go_wp2_with (first | (go_at_call 133; refine (HP.out w1).mono ?_; rintro e w2 ⟨rfl, rfl⟩) | (go_at_call 135; refine HA.out.mono ?_; rintro e w2 ⟨rfl, rfl⟩) | fail)
  go_at_call 136
  refine (HU.out _).mono ?_
  rintro e w3 ⟨rfl, hc3⟩
  have f0 := hc3.cell e0 id
  have HC3 := Lib.hid ((HCH.out.trans HCX.out).trans hc3)
  clear hc3 c0 c1 e0 e1
  go_wp2
  refine bodyPost_ret (v := .tuple #[.pointer (some ⟨w3.heap.size, 0, none⟩), .nilIface]) (by simp [results, Tryz.results99]) rfl ?_
  exact ⟨_, rfl, heap_alloc_new _ _, HC3.out.trans (Ch.grown (World.grownBy_alloc _ _ none) (by simp))⟩

theorem Tryz.size45 : (Tryz.prog.info? 45).map (·.size) = some 3 := by kernel_rfl
/-- What a bandwidth's reader answers. -/
def BandRead (x : Bool) (t : ByteArray) (n : Nat) (w : World) (e : Ending) (w' : World) : Prop := ∃ g, e = .returned (.tuple #[.pointer (some ⟨g, 0, none⟩), .nilIface]) ∧ w'.heap[g]? = some (.cells #[.bool x, .string t, .int .u64 n] 134 (0, 0)) ∧ Ch (fun _ => False) w w'

theorem zzBandwidth_ok {s t : ByteArray} {x : Bool} {n : Nat} {w : World} (h : Calls Tryz.prog 99 #[.string s] w (BandRead x t n w)) : Calls Tryz.prog 57 #[.string s] w (BandRead x t n w) := by
  have H := Lib.hid h
  clear h
  go_enter Tryz.func57, Tryz.ntmps57
  go_wp2_with (go_at_call 99; refine H.out.mono ?_; rintro e w1 ⟨g, rfl, hg, hc⟩; have HG := Lib.hid hg; have HC := Lib.hid hc; clear hg hc)
  refine bodyPost_ret (v := .tuple #[.pointer (some ⟨g, 0, none⟩), .nilIface]) (by simp [results, Tryz.results57]) rfl ?_
  exact ⟨g, rfl, HG.out, HC.out⟩

set_option maxRecDepth 100000 in
set_option maxHeartbeats 4000000 in
theorem parseBandwidth_ok {s t : ByteArray} {x : Bool} {n : Nat} {w : World} (h : ∀ W, Calls Tryz.prog 99 #[.string s] W (BandRead x t n W)) :
    Calls Tryz.prog 24 #[.string s] w fun e w' => e = .returned (.tuple #[.agg #[.bool x, .string t, .int .u64 n], .bool true]) ∧ Ch (fun _ => False) w w' := by
  have H := Lib.hid h
  clear h
  have hn0 : (w.alloc (.cells #[.bool false, .string ⟨#[]⟩, .int .u64 0] 45)).heap[w.heap.size]? = some (.cells #[.bool false, .string ⟨#[]⟩, .int .u64 0] 45 (0, 0)) := heap_alloc_new w _
  have HN0 := Lib.hid hn0
  clear hn0
  go_enter Tryz.func24, Tryz.ntmps24
  go_wp2_with fail
  go_at_call 57
  refine (zzBandwidth_ok (H.out _)).mono ?_
  rintro e w1 ⟨g, rfl, hg, hc⟩
  have hr := (hc.block w.heap.size (by simp) id).trans HN0.out
  have c0 : w1.cell? ⟨g, 0, none⟩ = some (.bool x) := blk_cell hg rfl
  have c1 : w1.cell? ⟨g, 1, none⟩ = some (.string t) := blk_cell hg rfl
  have c2 : w1.cell? ⟨g, 2, none⟩ = some (.int .u64 n) := blk_cell hg rfl
  have HC := Lib.hid ((Ch.grown (World.grownBy_alloc w (.cells #[.bool false, .string ⟨#[]⟩, .int .u64 0] 45) none) (by simp)).trans hc)
  have r0 : w1.cell? ⟨w.heap.size, 0, none⟩ = some (.bool false) := blk_cell hr rfl
  have r1 : w1.cell? ⟨w.heap.size, 1, none⟩ = some (.string ⟨#[]⟩) := blk_cell hr rfl
  have r2 : w1.cell? ⟨w.heap.size, 2, none⟩ = some (.int .u64 0) := blk_cell hr rfl
  have z0 : w1.frozen? ⟨w.heap.size, 0, none⟩ = false := blk_frozen hr
  have z1 : w1.frozen? ⟨w.heap.size, 1, none⟩ = false := blk_frozen hr
  have z2 : w1.frozen? ⟨w.heap.size, 2, none⟩ = false := blk_frozen hr
  have HR := Lib.hid hr
  clear hg hc hr
  go_wp2_with fail
  go_region
  go_wp2
  have hR : (((w1.setCell ⟨w.heap.size, 0, none⟩ (.bool x)).setCell ⟨w.heap.size, 1, none⟩ (.string t)).setCell ⟨w.heap.size, 2, none⟩ (.int .u64 n)).drew.heap[w.heap.size]? = some (.cells #[.bool x, .string t, .int .u64 n] 45 (0, 0)) :=
    blk_set (j := 2) _ (blk_set (j := 1) _ (blk_set (j := 0) _ HR.out))
  have hl := run_loadVar_row _ w.heap.size 45 45 #[.bool x, .string t, .int .u64 n] (0, 0) _ hR Tryz.underlying45 rfl Tryz.size45
  have hch : Ch (fun _ => False) w (((w1.setCell ⟨w.heap.size, 0, none⟩ (.bool x)).setCell ⟨w.heap.size, 1, none⟩ (.string t)).setCell ⟨w.heap.size, 2, none⟩ (.int .u64 n)).drew :=
    ((((HC.out.old (grownBy_set _ _ _ _) (fun k hk => .inl (by cases hk; omega))).old (grownBy_set _ _ _ _) (fun k hk => .inl (by cases hk; omega))).old (grownBy_set _ _ _ _) (fun k hk => .inl (by cases hk; omega)))).of_heap rfl rfl rfl rfl
  refine bodyPost_ret (v := .tuple #[.agg #[.bool x, .string t, .int .u64 n], .bool true]) (by simp [results, Tryz.results24, asAddr, hl]) rfl ?_
  exact ⟨rfl, hch⟩

end Go.Proofs.YtimonhimfioohaaGreatDoor
