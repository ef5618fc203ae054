/- zzIndex and zzSplit: a text is parted at a byte. -/
import Derived.Test.YtimonhimfioohaaGreatDoorPort
namespace Go.Proofs.YtimonhimfioohaaGreatDoor
open Go.RowKit

theorem one_byte {s : ByteArray} {j : Nat} (h : j < s.size) : s.extract j (j + 1) = ⟨#[s[j]]⟩ := by
  apply ByteArray.ext
  apply Array.ext'
  have h1 : j < s.data.toList.length := by simpa using h
  have h2 : s.data.toList.drop j = s.data.toList[j] :: s.data.toList.drop (j + 1) := List.drop_eq_getElem_cons h1
  simp only [ByteArray.data_extract, Array.toList_extract, List.extract_eq_take_drop]
  rw [h2]
  simp
  rfl

set_option maxRecDepth 100000 in
set_option maxHeartbeats 1600000 in
theorem index_found {s : ByteArray} {c : UInt8} {k : Nat} (hs : s.size ≤ 4294967295) (hk : k < s.size) (hc : s[k] = c) (hn : ∀ (j : Nat) (h : j < s.size), j < k → s[j] ≠ c) (w : World) :
    Calls Tryz.prog 141 #[.string s, .string ⟨#[c]⟩] w fun e w' => e = .returned (.int .i64 k) ∧ w = w' := by
  have HN := Lib.hid hn
  clear hn
  go_enter Tryz.func141, Tryz.ntmps141
  go_wp2
  go_loopg [5] (s.size + 1) (fun g x wr => ∃ j : Nat, g = s.size + 1 - j ∧ j ≤ k ∧ x = .int .i64 j ∧ wr = w)
  case atStart => exact ⟨0, rfl, Nat.zero_le _, rfl, rfl⟩
  case round =>
    obtain ⟨j, hg, hj, rfl, rfl⟩ := hrel
    have HG := Lib.hid hg
    clear hg
    have hx := one_byte (s := s) (j := j) (by omega)
    by_cases he : j = k
    · subst he
      rw [hc] at hx
      go_wp2
      go_ret
      exact ⟨rfl, rfl⟩
    · have hne := HN.out j (by omega) (by omega)
      go_wp2_with fail
      · exact absurd (eq_of_beq (by assumption)) hne
      · go_roundg (s.size + 1 - (j + 1))
        case measure => have := HG.out; omega
        case rel => exact ⟨j + 1, rfl, by omega, by simp, rfl⟩

set_option maxRecDepth 100000 in
set_option maxHeartbeats 1600000 in
theorem index_none {s : ByteArray} {c : UInt8} (hs : s.size ≤ 4294967295) (hn : ∀ (j : Nat) (h : j < s.size), s[j] ≠ c) (w : World) :
    Calls Tryz.prog 141 #[.string s, .string ⟨#[c]⟩] w fun e w' => e = .returned (.int .i64 (-1)) ∧ w = w' := by
  have HN := Lib.hid hn
  clear hn
  go_enter Tryz.func141, Tryz.ntmps141
  go_wp2
  go_loopg [5] (s.size + 1) (fun g x wr => ∃ j : Nat, g = s.size + 1 - j ∧ j ≤ s.size ∧ x = .int .i64 j ∧ wr = w)
  case atStart => exact ⟨0, rfl, Nat.zero_le _, rfl, rfl⟩
  case round =>
    obtain ⟨j, hg, hj, rfl, rfl⟩ := hrel
    have HG := Lib.hid hg
    clear hg
    by_cases he : j < s.size
    · have hx := one_byte he
      have hne := HN.out j he
      go_wp2_with fail
      · exact absurd (eq_of_beq (by assumption)) hne
      · go_roundg (s.size + 1 - (j + 1))
        case measure => have := HG.out; omega
        case rel => exact ⟨j + 1, rfl, by omega, by simp, rfl⟩
    · go_wp2
      go_ret
      exact ⟨rfl, rfl⟩

/-- Parted at the first such byte, and nowhere else. -/
theorem split_at {s : ByteArray} {A B : List UInt8} {c : UInt8} (h : s.data.toList = A ++ c :: B) : A.length < s.size ∧ (∀ hk : A.length < s.size, s[A.length] = c) ∧ (s.extract 0 A.length).data.toList = A ∧ (s.extract (A.length + 1) s.size).data.toList = B ∧ s.size = A.length + 1 + B.length := by
  have h1 : s.size = s.data.toList.length := by simp
  have h2 : s.size = A.length + 1 + B.length := by rw [h1, h]; simp; omega
  refine ⟨by omega, fun hk => ?_, ?_, ?_, h2⟩
  · have h3 : s.data.toList[A.length]? = some c := by rw [h]; simp
    have h4 : A.length < s.data.toList.length := by omega
    rw [List.getElem?_eq_getElem h4] at h3
    exact Option.some.inj h3
  · simp [h]
  · simp only [ByteArray.data_extract, Array.toList_extract, List.extract_eq_take_drop, h]
    have h5 : (A ++ c :: B).drop (A.length + 1) = B := by
      have h6 : A.length + 1 = (A ++ [c]).length := by simp
      have h7 : A ++ c :: B = (A ++ [c]) ++ B := by simp
      rw [h7, h6, List.drop_left]
    rw [h5]
    exact List.take_of_length_le (by omega)

theorem byte_in {s : ByteArray} {j : Nat} (h : j < s.size) : s[j] ∈ s.data.toList := by
  have h1 : j < s.data.toList.length := by simpa using h
  exact List.getElem_mem h1

theorem byte_before {s : ByteArray} {A B : List UInt8} (h : s.data.toList = A ++ B) {j : Nat} (hj : j < A.length) (hs : j < s.size) : s[j] ∈ A := by
  have h1 : j < s.data.toList.length := by simpa using hs
  have h2 : s[j] = s.data.toList[j] := rfl
  have h3 : s.data.toList[j] = A[j] := by
    have : s.data.toList[j]? = A[j]? := by rw [h, List.getElem?_append_left hj]
    rw [List.getElem?_eq_getElem h1, List.getElem?_eq_getElem hj] at this
    exact Option.some.inj this
  rw [h2, h3]
  exact List.getElem_mem hj

theorem Tryz.info9 : (Tryz.prog.info? 9).map (fun i => (i.zero, i.size, i.bytes)) = some (some (.string ⟨#[]⟩), 1, 16) := by kernel_rfl

set_option maxRecDepth 100000 in
set_option maxHeartbeats 4000000 in
theorem split_one {s : ByteArray} {A B : List UInt8} {c : UInt8} (hs : s.size ≤ 4294967295) (h : s.data.toList = A ++ c :: B) (hA : c ∉ A) (hB : c ∉ B) (w : World) :
    Calls Tryz.prog 120 #[.string s, .string ⟨#[c]⟩] w fun e w' => ∃ g cap, e = .returned (.slice (some ⟨g, 0, none⟩) 2 cap) ∧ w'.ownsRow w.heap.size 9 1 (.slice (some ⟨g, 0, none⟩) 2 cap) 2 [.string ⟨A.toArray⟩, .string ⟨B.toArray⟩] ∧ Ch (fun _ => False) w w' := by
  obtain ⟨h1, h2, h3, h4, h5⟩ := split_at h
  have hfound := index_found hs h1 (h2 h1) (fun j hj hlt => fun e => hA (by rw [← e]; exact byte_before h hlt hj)) w
  have h6 : (s.extract (A.length + 1) s.size).size = B.length := by
    have : (s.extract (A.length + 1) s.size).size = (s.extract (A.length + 1) s.size).data.toList.length := by simp
    rw [this, h4]
  have hS1 : s.extract 0 A.length = ⟨A.toArray⟩ := by
    apply ByteArray.ext
    apply Array.ext'
    rw [h3]
  have hS2 : s.extract (A.length + 1) s.size = ⟨B.toArray⟩ := by
    apply ByteArray.ext
    apply Array.ext'
    rw [h4]
  have hnone : ∀ W, Calls Tryz.prog 141 #[.string ⟨B.toArray⟩, .string ⟨#[c]⟩] W fun e w' => e = .returned (.int .i64 (-1)) ∧ W = w' := fun W =>
    index_none (by rw [← hS2, h6]; omega) (fun j hj e => hB (by rw [← e]; exact byte_in hj)) W
  obtain ⟨i0, hi0, hz0, hz1, hz2⟩ := info_parts Tryz.info9
  have HF := Lib.hid hfound
  have HN := Lib.hid hnone
  clear hfound hnone h3 h4 h h2 hA hB
  have hB1 : (w.alloc (.cells #[.string ⟨A.toArray⟩] 9)).heap[w.heap.size]? = some (.cells #[.string ⟨A.toArray⟩] 9 (0, 0)) := heap_alloc_new w _
  have HB1 := Lib.hid hB1
  clear hB1
  go_enter Tryz.func120, Tryz.ntmps120
  go_wp2
  refine wp_loop_rounds 2 ?_
  rw [rounds_succ]
  go_wp2_with fail
  go_at_call 141
  refine HF.out.mono ?_
  rintro e w1 ⟨rfl, rfl⟩
  go_wp2_with (at_builtin; refine wpList_append_lies _ rfl (.tmp 16) (.tmp 20) 28 rfl w.heap.size 9 i0 _ 1 16 Tryz.underlying28 hi0 hz0 hz1 hz2 rfl (by decide) (.slice none 0 0) 0 [] rfl (World.ownsRow_nil _ _ _ _) ⟨w.heap.size, 0, none⟩ 1 1 [.string ⟨A.toArray⟩] rfl rfl (World.news_of_block HB1.out) (by simp [Value.oneCell']) (by decide) (by decide) (by decide) (by simp) _ rfl ?_; intro g1 cap1 W1 hown1 hgrow1 hat1 hlt1; have HO1 := Lib.hid hown1; have HC1 := Lib.hid ((Ch.grown (World.grownBy_alloc w (.cells #[.string ⟨A.toArray⟩] 9) none) (by simp)).trans (Ch.grown (S := fun _ => False) hgrow1 (by simp [Value.ownBlock]))); clear hown1 hgrow1 hat1 hlt1)
  have hS3 : s.extract (A.length + 1) (A.length + 1 + B.length) = ⟨B.toArray⟩ := by
    rw [← h5]
    exact hS2
  rw [hS3, rounds_succ]
  clear hS1 hS2 hS3
  have hbl : (ByteArray.mk B.toArray).size = B.length := by simp [ByteArray.size]
  have hB2 : (W1.alloc (.cells #[.string ⟨B.toArray⟩] 9)).heap[W1.heap.size]? = some (.cells #[.string ⟨B.toArray⟩] 9 (0, 0)) := heap_alloc_new W1 _
  have HB2 := Lib.hid hB2
  have hsz1 := HC1.out.size
  have HSZ := Lib.hid hsz1
  clear hB2 hsz1
  go_wp2_with (first | (go_at_call 141; refine (HN.out W1).mono ?_; rintro e w1 ⟨rfl, rfl⟩) | (at_builtin; refine wpList_append_lies _ rfl (.tmp 12) (.tmp 14) 28 rfl w.heap.size 9 i0 _ 1 16 Tryz.underlying28 hi0 hz0 hz1 hz2 rfl (by decide) (.slice (some ⟨g1, 0, none⟩) 1 cap1) 1 [.string ⟨A.toArray⟩] rfl (HO1.out.alloc _) ⟨W1.heap.size, 0, none⟩ 1 1 [.string ⟨B.toArray⟩] rfl rfl (World.news_of_block HB2.out) (by simp [Value.oneCell']) (by decide) (by decide) (by decide) (by have := HSZ.out; simp; omega) _ rfl ?_; intro g2 cap2 W2 hown2 hgrow2 hat2 hlt2; have HO2 := Lib.hid hown2; have HC2 := Lib.hid ((HC1.out.trans (Ch.grown (World.grownBy_alloc W1 (.cells #[.string ⟨B.toArray⟩] 9) none) (by simp))).old hgrow2 (fun k hk => .inl (by have h7 := HO1.out.lt g1 rfl; simp [Value.ownBlock] at hk; omega))); clear hown2 hgrow2 hat2 hlt2))
  go_ret
  exact ⟨g2, cap2, rfl, HO2.out, HC2.out⟩

end Go.Proofs.YtimonhimfioohaaGreatDoor
