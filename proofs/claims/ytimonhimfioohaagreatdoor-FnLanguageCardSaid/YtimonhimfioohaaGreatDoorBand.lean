/- FnBandwidth's walk. -/
import Derived.Test.YtimonhimfioohaaGreatDoorSplit
import Derived.Test.YtimonhimfioohaaGreatDoorDecimal
namespace Go.Proofs.YtimonhimfioohaaGreatDoor
open Go.RowKit

/-- A bool that, if it is true, tells something. -/
def Tells (P : Prop) (e : Ending) : Prop := ∃ r, e = .returned (.bool r) ∧ (r = true → P)

/-- A byte of a word. -/
def wordByte (c : UInt8) : Prop := 32 < c.toNat ∧ c.toNat ≤ 126 ∧ c.toNat ≠ 47 ∧ c.toNat ≠ 58

theorem take_snoc {l : List UInt8} {j : Nat} {P : UInt8 → Prop} (hj : j < l.length) (h : ∀ c ∈ l.take j, P c) (hc : P l[j]) : ∀ c ∈ l.take (j + 1), P c := by
  intro c hm
  rw [List.take_succ_eq_append_getElem hj] at hm
  rcases List.mem_append.1 hm with h1 | h1
  · exact h c h1
  · rw [List.mem_singleton.1 h1]
    exact hc

set_option maxRecDepth 100000 in
set_option maxHeartbeats 1600000 in
theorem word_any {s : ByteArray} (hs : s.size ≤ 4294967295) (w : World) :
    Calls Tryz.prog 28 #[.string s] w fun e w' => Tells (s.data.toList ≠ [] ∧ ∀ c ∈ s.data.toList, wordByte c) e ∧ w = w' := by
  go_enter Tryz.func28, Tryz.ntmps28
  go_wp2
  go_loopg [6] s.size (fun g x wr => ∃ j : Nat, g = s.size - j ∧ j ≤ s.size ∧ x = .int .i64 j ∧ (∀ c ∈ s.data.toList.take j, wordByte c) ∧ wr = w)
  case atStart => exact ⟨0, rfl, Nat.zero_le _, rfl, by simp, rfl⟩
  case round =>
    obtain ⟨j, hg, hj, rfl, hall, rfl⟩ := hrel
    have HG := Lib.hid hg
    have HA := Lib.hid hall
    clear hg hall
    by_cases hlt : j < s.size
    · by_cases h1 : s[j].toNat ≤ 32
      · go_wp2
        refine bodyPost_ret (v := .bool false) (by simp [results, Tryz.results28]) rfl ?_
        exact ⟨⟨_, rfl, fun h => nomatch h⟩, rfl⟩
      by_cases h2 : 126 < s[j].toNat
      · go_wp2
        refine bodyPost_ret (v := .bool false) (by simp [results, Tryz.results28]) rfl ?_
        exact ⟨⟨_, rfl, fun h => nomatch h⟩, rfl⟩
      have HB := Lib.hid (And.intro (Nat.lt_of_not_le h1) (Nat.le_of_not_lt h2))
      go_wp2_with fail
      · refine bodyPost_ret (v := .bool false) (by simp [results, Tryz.results28]) rfl ?_
        exact ⟨⟨_, rfl, fun h => nomatch h⟩, rfl⟩
      · refine bodyPost_ret (v := .bool false) (by simp [results, Tryz.results28]) rfl ?_
        exact ⟨⟨_, rfl, fun h => nomatch h⟩, rfl⟩
      · rename_i h3 h4
        have HW := Lib.hid (show wordByte s[j] by
          obtain ⟨⟨_, h5⟩, h6⟩ := h4
          have h5' := beq_eq_false_iff_ne.1 h5
          have h6' := beq_eq_false_iff_ne.1 h6
          exact ⟨HB.out.1, HB.out.2, by omega, by omega⟩)
        go_roundg (s.size - (j + 1))
        case measure => have := HG.out; omega
        case rel => exact ⟨j + 1, rfl, by omega, by simp, take_snoc (by simpa using hlt) HA.out HW.out, rfl⟩
    · go_wp2
      refine bodyPost_ret (v := .bool (!s.toList.isEmpty)) (by simp [results, Tryz.results28]) rfl ?_
      refine ⟨⟨_, rfl, fun h => ⟨fun h0 => ?_, fun c hc => HA.out c ?_⟩⟩, rfl⟩
      · rw [ByteArray.toList_eq, h0] at h
        cases h
      · rw [List.take_of_length_le (by simp; omega)]
        exact hc

theorem bytes_eq {a b : ByteArray} (h : a.toList = b.toList) : a = b := by
  rw [ByteArray.toList_eq, ByteArray.toList_eq] at h
  exact ByteArray.ext (Array.ext' h)

set_option maxRecDepth 100000 in
set_option maxHeartbeats 1600000 in
theorem is_any {s : ByteArray} {L : List ByteArray} {g cap : Nat} {w : World} (hlen : L.length ≤ 4294967295) (hL : ∀ (j : Nat) (h : j < L.length), w.cell? ⟨g, j, none⟩ = some (.string L[j])) :
    Calls Tryz.prog 43 #[.string s, .slice (some ⟨g, 0, none⟩) L.length cap] w fun e w' => Tells (s ∈ L) e ∧ w = w' := by
  have HL := Lib.hid hL
  clear hL
  go_enter Tryz.func43, Tryz.ntmps43
  go_wp2
  go_loopg [9] L.length (fun g' x wr => ∃ j : Nat, g' = L.length - j ∧ j ≤ L.length ∧ x = .int .i64 j ∧ wr = w)
  case atStart => exact ⟨0, rfl, Nat.zero_le _, rfl, rfl⟩
  case round =>
    obtain ⟨j, hg, hj, rfl, rfl⟩ := hrel
    have HG := Lib.hid hg
    clear hg
    by_cases hlt : j < L.length
    · have hc := HL.out j hlt
      have hmem := List.getElem_mem hlt
      generalize L[j] = t at *
      have HM := Lib.hid hmem
      clear hmem
      go_wp2_with fail
      · rename_i he
        refine bodyPost_ret (v := .bool true) (by simp [results, Tryz.results43]) rfl ?_
        have he2 : t = s := bytes_eq (eq_of_beq he)
        exact ⟨⟨_, rfl, fun _ => he2 ▸ HM.out⟩, rfl⟩
      · go_roundg (L.length - (j + 1))
        case measure => have := HG.out; omega
        case rel => exact ⟨j + 1, rfl, by omega, by simp, rfl⟩
    · go_wp2
      refine bodyPost_ret (v := .bool false) (by simp [results, Tryz.results43]) rfl ?_
      exact ⟨⟨_, rfl, fun h => nomatch h⟩, rfl⟩

/-- The bandwidths' known types. -/
def knownBands : List ByteArray := [⟨#[67, 84]⟩, ⟨#[65, 83]⟩, ⟨#[84, 73, 65, 83]⟩, ⟨#[82, 83]⟩, ⟨#[82, 82]⟩]
/-- A bandwidth that can be printed and read. -/
def BandOk (x : Bool) (t : ByteArray) (n : Int) : Prop := (t ∈ knownBands ∨ (x = true ∧ t.data.toList ≠ [] ∧ ∀ c ∈ t.data.toList, wordByte c)) ∧ n < 1125899906842624

set_option maxRecDepth 100000 in
set_option maxHeartbeats 4000000 in
theorem bandwidths_one {x : Bool} {t : ByteArray} {n : Int} {g c : Nat} {w : World} (ht : t.size ≤ 4294967295) (hg : w.heap[g]? = some (.cells #[.bool x, .string t, .int .u64 n] 47 (0, 0))) :
    Calls Tryz.prog 50 #[.slice (some ⟨g, 0, none⟩) 1 c] w fun e w' => Tells (BandOk x t n) e ∧ Ch (fun _ => False) w w' := by
  have c0 : w.cell? ⟨g, 0, none⟩ = some (.bool x) := blk_cell hg rfl
  have c1 : w.cell? ⟨g, 1, none⟩ = some (.string t) := blk_cell hg rfl
  have c2 : w.cell? ⟨g, 2, none⟩ = some (.int .u64 n) := blk_cell hg rfl
  go_enter Tryz.func50, Tryz.ntmps50
  go_wp2
  refine wp_loop_rounds 2 ?_
  rw [rounds_succ]
  have hcx : Ch (fun _ => False) w ((w.alloc (.cells #[.bool x, .string t, .int .u64 n] 47)).alloc (.cells #[.string ⟨#[67, 84]⟩, .string ⟨#[65, 83]⟩, .string ⟨#[84, 73, 65, 83]⟩, .string ⟨#[82, 83]⟩, .string ⟨#[82, 82]⟩] 9)) := (Ch.grown (World.grownBy_alloc _ _ none) (by simp)).trans (Ch.grown (World.grownBy_alloc _ _ none) (by simp))
  have hb1 : ((w.alloc (.cells #[.bool x, .string t, .int .u64 n] 47)).alloc (.cells #[.string ⟨#[67, 84]⟩, .string ⟨#[65, 83]⟩, .string ⟨#[84, 73, 65, 83]⟩, .string ⟨#[82, 83]⟩, .string ⟨#[82, 82]⟩] 9)).heap[w.heap.size + 1]? = some (.cells #[.string ⟨#[67, 84]⟩, .string ⟨#[65, 83]⟩, .string ⟨#[84, 73, 65, 83]⟩, .string ⟨#[82, 83]⟩, .string ⟨#[82, 82]⟩] 9 (0, 0)) := by
    have h1 := heap_alloc_new (w.alloc (.cells #[.bool x, .string t, .int .u64 n] 47)) (.cells #[.string ⟨#[67, 84]⟩, .string ⟨#[65, 83]⟩, .string ⟨#[84, 73, 65, 83]⟩, .string ⟨#[82, 83]⟩, .string ⟨#[82, 82]⟩] 9)
    rw [World.size_alloc] at h1
    exact h1
  have hb0 : ((w.alloc (.cells #[.bool x, .string t, .int .u64 n] 47)).alloc (.cells #[.string ⟨#[67, 84]⟩, .string ⟨#[65, 83]⟩, .string ⟨#[84, 73, 65, 83]⟩, .string ⟨#[82, 83]⟩, .string ⟨#[82, 82]⟩] 9)).heap[w.heap.size]? = some (.cells #[.bool x, .string t, .int .u64 n] 47 (0, 0)) :=
    (heap_alloc_old _ _ (by simp)).trans (heap_alloc_new w _)
  go_wp2_with fail
  generalize ((w.alloc (.cells #[.bool x, .string t, .int .u64 n] 47)).alloc (.cells #[.string ⟨#[67, 84]⟩, .string ⟨#[65, 83]⟩, .string ⟨#[84, 73, 65, 83]⟩, .string ⟨#[82, 83]⟩, .string ⟨#[82, 82]⟩] 9)) = W1 at *
  have d0 : W1.cell? ⟨w.heap.size, 0, none⟩ = some (.bool x) := blk_cell hb0 rfl
  have d1 : W1.cell? ⟨w.heap.size, 1, none⟩ = some (.string t) := blk_cell hb0 rfl
  have d2 : W1.cell? ⟨w.heap.size, 2, none⟩ = some (.int .u64 n) := blk_cell hb0 rfl
  have hL : ∀ (j : Nat) (h : j < knownBands.length), W1.cell? ⟨w.heap.size + 1, j, none⟩ = some (.string knownBands[j]) := by
    intro j hj
    have h5 : j < 5 := hj
    have : j = 0 ∨ j = 1 ∨ j = 2 ∨ j = 3 ∨ j = 4 := by omega
    rcases this with rfl | rfl | rfl | rfl | rfl <;> exact blk_cell hb1 rfl
  have HC := Lib.hid hcx
  clear hcx hb1 hb0 c0 c1 c2 hg
  go_at_call 43
  refine (is_any (L := knownBands) (by decide) hL).mono ?_
  rintro e w1 ⟨⟨r, rfl, hr⟩, rfl⟩
  clear hL
  by_cases hi : 1125899906842624 ≤ n
  rotate_left
  · have hn50 := Lib.hid (show n < 1125899906842624 by omega)
    cases r with
    | true =>
      have HR := Lib.hid (hr rfl)
      clear hr
      go_wp2_with fail
      rw [rounds_succ]
      go_wp2
      refine bodyPost_ret (v := .bool true) (by simp [results, Tryz.results50]) rfl ?_
      exact ⟨⟨_, rfl, fun _ => ⟨.inl HR.out, hn50.out⟩⟩, HC.out⟩
    | false =>
      clear hr
      cases x with
      | false =>
        go_wp2
        refine bodyPost_ret (v := .bool false) (by simp [results, Tryz.results50]) rfl ?_
        exact ⟨⟨_, rfl, fun h => nomatch h⟩, HC.out⟩
      | true =>
        go_wp2_with fail
        go_at_call 28
        refine (word_any ht W1).mono ?_
        rintro e w1 ⟨⟨r, rfl, hr⟩, rfl⟩
        cases r with
        | true =>
          have HR := Lib.hid (hr rfl)
          clear hr
          go_wp2_with fail
          rw [rounds_succ]
          go_wp2
          refine bodyPost_ret (v := .bool true) (by simp [results, Tryz.results50]) rfl ?_
          exact ⟨⟨_, rfl, fun _ => ⟨.inr ⟨rfl, HR.out⟩, hn50.out⟩⟩, HC.out⟩
        | false =>
          clear hr
          go_wp2
          refine bodyPost_ret (v := .bool false) (by simp [results, Tryz.results50]) rfl ?_
          exact ⟨⟨_, rfl, fun h => nomatch h⟩, HC.out⟩
  · cases r with
    | true =>
      clear hr
      go_wp2
      refine bodyPost_ret (v := .bool false) (by simp [results, Tryz.results50]) rfl ?_
      exact ⟨⟨_, rfl, fun h => nomatch h⟩, HC.out⟩
    | false =>
      clear hr
      cases x with
      | false =>
        go_wp2
        refine bodyPost_ret (v := .bool false) (by simp [results, Tryz.results50]) rfl ?_
        exact ⟨⟨_, rfl, fun h => nomatch h⟩, HC.out⟩
      | true =>
        go_wp2_with fail
        go_at_call 28
        refine (word_any ht W1).mono ?_
        rintro e w1 ⟨⟨r, rfl, hr⟩, rfl⟩
        clear hr
        cases r
        all_goals
          go_wp2
          refine bodyPost_ret (v := .bool false) (by simp [results, Tryz.results50]) rfl ?_
          exact ⟨⟨_, rfl, fun h => nomatch h⟩, HC.out⟩

end Go.Proofs.YtimonhimfioohaaGreatDoor
