/- laws.lines tells true at two slices that hold the same texts. -/
import Derived.Test.YtimonhimfioohaaGreatDoorAppended
namespace Go.Proofs.YtimonhimfioohaaGreatDoor
open Go.RowKit

set_option maxRecDepth 100000 in
set_option maxHeartbeats 4000000 in
theorem lines_any {A B : Option Addr} {c d : Nat} {l : List ByteArray} {w : World} (hA : Lst w 1 strC A l) (hB : Lst w 1 strC B l) (hl : l.length ≤ 2147483647) :
    Calls Tryz.prog 37 #[.slice A l.length c, .slice B l.length d] w fun e w' => e = .returned (.bool true) ∧ Ch (fun _ => False) w w' := by
  have HA := Lib.hid hA
  have HB := Lib.hid hB
  clear hA hB
  have HGET := Lib.hid (show ∀ j, j < l.length → ∃ s : ByteArray, l[j]? = some s from fun j hj => ⟨_, List.getElem?_eq_getElem hj⟩)
  generalize l.length = N at *
  go_enter Tryz.func37, Tryz.ntmps37
  go_wp2
  go_loopg [5, 13] N (fun g _ x wr => ∃ j : Nat, g = N - j ∧ j ≤ N ∧ x = .int .i64 j ∧ Ch (fun _ => False) w wr)
  case atStart => exact ⟨0, rfl, Nat.zero_le _, rfl, Ch.refl _ _⟩
  case round =>
    obtain ⟨j, hg, hj, rfl, hch⟩ := hrel
    have HGG := Lib.hid hg
    have HCH := Lib.hid hch
    clear hg hch
    by_cases hlt : j < N
    · obtain ⟨s, hget⟩ := HGET.out j hlt
      obtain ⟨b1, o1, hS1, hd1⟩ := (HA.out.ch HCH.out) j _ hget
      obtain ⟨b2, o2, hS2, hd2⟩ := (HB.out.ch HCH.out) j _ hget
      subst hS1 hS2
      have d0 := hd1 0 _ rfl
      have e0 := hd2 0 _ rfl
      rw [Nat.add_zero, Nat.mul_one] at d0 e0
      have i1 : (j : Int) < (N : Int) := by omega
      clear hd1 hd2 hget
      go_wp2_with fail
      go_quiet (fail)
      go_wp2
      go_roundg (N - (j + 1))
      case measure => have := HGG.out; omega
      case rel => exact ⟨j + 1, rfl, by omega, by simp, HCH.out.drewN _⟩
    · go_wp2
      refine bodyPost_ret (v := .bool true) (by simp [results, Tryz.results37]) rfl ?_
      exact ⟨rfl, HCH.out⟩

end Go.Proofs.YtimonhimfioohaaGreatDoor
