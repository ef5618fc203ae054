/- spec.Line and spec.Blanks. -/
import Derived.Test.YtimonhimfioohaaGreatDoorBand
namespace Go.Proofs.YtimonhimfioohaaGreatDoor
open Go.RowKit

/-- A test whose 'no' says something. -/
def Denies (p : Prop) (e : Ending) : Prop := ∃ r, e = .returned (.bool r) ∧ (r = false → p)

set_option maxRecDepth 100000 in
set_option maxHeartbeats 1600000 in
theorem blanks_any {s : ByteArray} (hs : s.size ≤ 4294967295) (w : World) :
    Calls Tryz.prog 39 #[.string s] w fun e w' => Denies (∀ c ∈ s.data.toList, c.toNat ≠ 32) e ∧ w = w' := by
  go_enter Tryz.func39, Tryz.ntmps39
  go_wp2
  go_loopg [6] s.size (fun g x wr => ∃ j : Nat, g = s.size - j ∧ j ≤ s.size ∧ x = .int .i64 j ∧ (∀ c ∈ s.data.toList.take j, c.toNat ≠ 32) ∧ wr = w)
  case atStart => exact ⟨0, rfl, Nat.zero_le _, rfl, by simp, rfl⟩
  case round =>
    obtain ⟨j, hg, hj, rfl, hall, rfl⟩ := hrel
    have HG := Lib.hid hg
    have HA := Lib.hid hall
    clear hg hall
    by_cases hlt : j < s.size
    · go_wp2_with fail
      · refine bodyPost_ret (v := .bool true) (by simp [results, Tryz.results39]) rfl ?_
        exact ⟨⟨_, rfl, fun h => nomatch h⟩, rfl⟩
      · rename_i h3
        have HW := Lib.hid (show s[j].toNat ≠ 32 by
          have h5' := beq_eq_false_iff_ne.1 h3
          omega)
        go_roundg (s.size - (j + 1))
        case measure => have := HG.out; omega
        case rel => exact ⟨j + 1, rfl, by omega, by simp, take_snoc (by simpa using hlt) HA.out HW.out, rfl⟩
    · go_wp2
      refine bodyPost_ret (v := .bool false) (by simp [results, Tryz.results39]) rfl ?_
      refine ⟨⟨_, rfl, fun _ c hc => HA.out c ?_⟩, rfl⟩
      rw [List.take_of_length_le (by simp; omega)]
      exact hc

set_option maxRecDepth 100000 in
set_option maxHeartbeats 1600000 in
theorem line_any {s : ByteArray} (hs : s.size ≤ 4294967295) (w : World) :
    Calls Tryz.prog 38 #[.string s] w fun e w' => Tells (s.data.toList ≠ [] ∧ ∀ c ∈ s.data.toList, 32 ≤ c.toNat ∧ c.toNat ≤ 126) e ∧ w = w' := by
  go_enter Tryz.func38, Tryz.ntmps38
  go_wp2
  go_loopg [6] s.size (fun g x wr => ∃ j : Nat, g = s.size - j ∧ j ≤ s.size ∧ x = .int .i64 j ∧ (∀ c ∈ s.data.toList.take j, 32 ≤ c.toNat ∧ c.toNat ≤ 126) ∧ wr = w)
  case atStart => exact ⟨0, rfl, Nat.zero_le _, rfl, by simp, rfl⟩
  case round =>
    obtain ⟨j, hg, hj, rfl, hall, rfl⟩ := hrel
    have HG := Lib.hid hg
    have HA := Lib.hid hall
    clear hg hall
    by_cases hlt : j < s.size
    · by_cases h1 : s[j].toNat < 32
      · go_wp2
        refine bodyPost_ret (v := .bool false) (by simp [results, Tryz.results38]) rfl ?_
        exact ⟨⟨_, rfl, fun h => nomatch h⟩, rfl⟩
      by_cases h2 : 126 < s[j].toNat
      · go_wp2
        refine bodyPost_ret (v := .bool false) (by simp [results, Tryz.results38]) rfl ?_
        exact ⟨⟨_, rfl, fun h => nomatch h⟩, rfl⟩
      have HW := Lib.hid (And.intro (Nat.le_of_not_lt h1) (Nat.le_of_not_lt h2))
      go_wp2_with fail
      go_roundg (s.size - (j + 1))
      case measure => have := HG.out; omega
      case rel => exact ⟨j + 1, rfl, by omega, by simp, take_snoc (by simpa using hlt) HA.out HW.out, rfl⟩
    · have HP := Lib.hid (show ∀ c ∈ s.data.toList, 32 ≤ c.toNat ∧ c.toNat ≤ 126 from fun c hc => HA.out c (by
        rw [List.take_of_length_le (by simp; omega)]
        exact hc))
      by_cases hz : s.size = 0
      · have hfe : s.toList.isEmpty = true := by
          rw [ByteArray.toList_eq]
          cases hl : s.data.toList with
          | nil => rfl
          | cons a l =>
            exfalso
            have h1 : s.size = s.data.toList.length := by simp
            rw [hl] at h1
            simp only [List.length_cons] at h1
            omega
        have HZ := Lib.hid hz
        clear hz
        go_wp2
        refine bodyPost_ret (v := .bool false) (by simp [results, Tryz.results38]) rfl ?_
        exact ⟨⟨_, rfl, fun h => nomatch h⟩, rfl⟩
      · have hfe : s.toList.isEmpty = false := by
          rw [ByteArray.toList_eq]
          cases hl : s.data.toList with
          | nil =>
            exfalso
            have h1 : s.size = s.data.toList.length := by simp
            rw [hl] at h1
            simp only [List.length_nil] at h1
            omega
          | cons a l => rfl
        have hpos : 0 < s.size := by omega
        go_wp2_with fail
        · refine bodyPost_ret (v := .bool false) (by simp [results, Tryz.results38]) rfl ?_
          exact ⟨⟨_, rfl, fun h => nomatch h⟩, rfl⟩
        · refine bodyPost_ret (v := .bool (((s[0].toNat : Int) != 32) && ((s[s.size - 1]'(by omega)).toNat : Int) != 32)) (by simp [results, Tryz.results38]) rfl ?_
          refine ⟨⟨_, rfl, fun _ => ⟨fun h0 => ?_, HP.out⟩⟩, rfl⟩
          rw [ByteArray.toList_eq, h0] at hfe
          cases hfe
end Go.Proofs.YtimonhimfioohaaGreatDoor
