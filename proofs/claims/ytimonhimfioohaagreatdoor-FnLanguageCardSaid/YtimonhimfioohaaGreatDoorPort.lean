/- FnPort's walk: digits are a port up to 65535. -/
import Derived.Test.YtimonhimfioohaaGreatDoorWorks
import Derived.Deep.LoopGhost
namespace Go.Proofs.YtimonhimfioohaaGreatDoor
open Go.RowKit

theorem atoi_digits {l : List UInt8} {m : Nat} (h : Lib.decNat l = some m) : Lib.atoi l = some (m : Int) := by
  obtain ⟨hne, hd⟩ := Lib.decNat_some h
  cases l with
  | nil => exact absurd rfl hne
  | cons b r =>
    have hb : 48 ≤ b.toNat := by
      rw [Lib.decFrom] at hd
      cases hv : Lib.digitVal b with
      | none => rw [hv] at hd; cases hd
      | some d => exact (Lib.digitVal_eq hv).1
    have h1 : (b == 45) = false := by
      apply beq_false_of_ne
      rintro rfl
      exact absurd hb (by decide)
    have h2 : (b == 43) = false := by
      apply beq_false_of_ne
      rintro rfl
      exact absurd hb (by decide)
    rw [Lib.atoi, h1, h2]
    simp only [Bool.false_eq_true, if_false, h, Option.map_some]

/-- One digit more. -/
theorem dec_more {s : ByteArray} {j m : Nat} (hlt : j < s.size) (h : Lib.decFrom 0 (s.data.toList.take j) = some m) (h1 : 48 ≤ s[j].toNat) (h2 : s[j].toNat ≤ 57) : Lib.decFrom 0 (s.data.toList.take (j + 1)) = some (m * 10 + (s[j].toNat - 48)) := by
  refine Lib.decFrom_take _ j 0 m s[j] _ h ?_ ?_
  · have : j < s.data.toList.length := by simpa using hlt
    rw [List.getElem?_eq_getElem this]
    rfl
  · rw [Lib.digitVal, if_pos ⟨h1, h2⟩]

/-- What spec.Number answers: a number's digits, no more than so many, are read; else no. -/
def NumRes (s : ByteArray) (most : Int) (e : Ending) : Prop := ∃ n ok, e = .returned (.tuple #[.int .i64 n, .bool ok]) ∧ (ok = true → (s.size : Int) ≤ most ∧ ∃ m : Nat, Lib.decNat s.data.toList = some m ∧ n = m)

set_option maxRecDepth 100000 in
set_option maxHeartbeats 1600000 in
theorem number_any {s : ByteArray} {most : Int} (hm : most ≤ 17) (hs : s.size ≤ 2147483647) (w : World) :
    Calls Tryz.prog 16 #[.string s, .int .i64 most] w fun e w' => NumRes s most e ∧ w = w' := by
  go_enter Tryz.func16, Tryz.ntmps16
  go_wp2
  go_loopg [6, 10] s.size (fun k x y wr => ∃ (j : Nat) (a : Int), k = s.size - j ∧ j ≤ s.size ∧ x = .int .i64 a ∧ y = .int .i64 j ∧ (j ≤ 17 → ∃ m : Nat, Lib.decFrom 0 (s.data.toList.take j) = some m ∧ a = m) ∧ wr = w)
  case atStart => exact ⟨0, 0, by omega, Nat.zero_le _, rfl, rfl, fun _ => ⟨0, rfl, rfl⟩, rfl⟩
  case round =>
    obtain ⟨j, a, hk, hjs, rfl, rfl, hacc, rfl⟩ := hrel
    have HK := Lib.hid hk
    have HA := Lib.hid hacc
    clear hk hacc
    by_cases hlt : j < s.size
    · by_cases h1 : s[j].toNat < 48
      · go_wp2
        refine bodyPost_ret (v := .tuple #[.int .i64 0, .bool false]) (by simp [results, Tryz.results16]) rfl ?_
        exact ⟨⟨_, _, rfl, fun h => nomatch h⟩, rfl⟩
      by_cases h2 : 57 < s[j].toNat
      · go_wp2
        refine bodyPost_ret (v := .tuple #[.int .i64 0, .bool false]) (by simp [results, Tryz.results16]) rfl ?_
        exact ⟨⟨_, _, rfl, fun h => nomatch h⟩, rfl⟩
      have HB := Lib.hid (And.intro (Nat.le_of_not_lt h1) (Nat.le_of_not_lt h2))
      rcases digit_cases (Nat.le_of_not_lt h1) (Nat.le_of_not_lt h2) with ⟨hc, hcb⟩ | ⟨hc, hcb⟩ | ⟨hc, hcb⟩ | ⟨hc, hcb⟩ | ⟨hc, hcb⟩ | ⟨hc, hcb⟩ | ⟨hc, hcb⟩ | ⟨hc, hcb⟩ | ⟨hc, hcb⟩ | ⟨hc, hcb⟩
      all_goals
        have HC := Lib.hid hc
        clear hc h1 h2
        go_wp2
        go_roundg (s.size - (j + 1))
        · refine ⟨j + 1, _, rfl, by omega, rfl, by simp, fun hj => ?_, rfl⟩
          obtain ⟨m, hm1, hm2⟩ := HA.out (by omega)
          have hd := dec_more hlt hm1 HB.out.1 HB.out.2
          rw [HC.out] at hd
          refine ⟨_, hd, ?_⟩
          have hb := Lib.decFrom_take_lt hm1 (by omega)
          subst hm2
          unfold wrap64
          omega
        · have := HK.out
          omega
    · have hj : j = s.size := by omega
      subst hj
      have htk : s.data.toList.take s.size = s.data.toList := List.take_of_length_le (by simp)
      by_cases hmost : (s.size : Int) ≤ most
      · by_cases he : s = ⟨#[]⟩
        · subst he
          go_wp2
          all_goals
            refine bodyPost_ret (v := .tuple #[.int .i64 a, .bool false]) (by simp [results, Tryz.results16]) rfl ?_
            exact ⟨⟨_, _, rfl, fun h => nomatch h⟩, rfl⟩
        · have hne : s.data.toList ≠ [] := fun h => he (by cases s with | mk d => cases d; simp_all)
          have hnt : ¬ s.toList = [] := by rw [ByteArray.toList_eq]; exact hne
          go_wp2
          all_goals
            refine bodyPost_ret (v := .tuple #[.int .i64 a, .bool true]) (by simp [results, Tryz.results16, hnt]) rfl ?_
            refine ⟨⟨_, _, rfl, fun _ => ⟨hmost, ?_⟩⟩, rfl⟩
            obtain ⟨m, hm1, hm2⟩ := HA.out (by omega)
            rw [htk] at hm1
            exact ⟨m, by rw [Lib.decNat, if_neg (by simpa using hne)]; exact hm1, hm2⟩
      · go_wp2
        all_goals
          refine bodyPost_ret (v := .tuple #[.int .i64 a, .bool false]) (by simp [results, Tryz.results16]) rfl ?_
          exact ⟨⟨_, _, rfl, fun h => nomatch h⟩, rfl⟩

theorem Ch.of_below {w w' : World} (h : Below w.heap.size w w') : Ch (fun _ => False) w w' := ⟨h.os, h.tape, h.output, h.size, fun k hk _ => h.block k hk⟩

theorem parsePort_in {s : ByteArray} {m : Nat} (hs : s.size ≤ 18) (hd : Lib.decNat s.data.toList = some m) (hm : m ≤ 65535) (w : World) :
    Calls Tryz.prog 97 #[.string s] w fun e w' => e = .returned (.tuple #[.int .i64 m, .nilIface]) ∧ Ch (fun _ => False) w w' := by
  have HS := Lib.hid hs
  clear hs
  go_enter Tryz.func97, Tryz.ntmps97
  go_wp2_with (go_at_call 131; refine (Tryz.strconv_Atoi s m HS.out (atoi_digits hd) w).mono ?_; rintro e w1 ⟨rfl, t, hw⟩; have hc := Lib.hid (Ch.of_below (Lib.bytesWorld_below w 5 t)); rw [← hw] at hc; clear hw hd)
  all_goals
    go_ret2
    exact ⟨rfl, hc.out⟩

theorem parsePort_out {s : ByteArray} {m : Nat} {ap : Addr} (hs : s.size ≤ 18) (hd : Lib.decNat s.data.toList = some m) (hm : 65535 < m) {w : World} (h2 : w.cell? ⟨2, 0, none⟩ = some (.iface 342 (.pointer (some ap)))) :
    Calls Tryz.prog 97 #[.string s] w fun e w' => e = .returned (.tuple #[.int .i64 0, .iface 342 (.pointer (some ap))]) ∧ Ch (fun _ => False) w w' := by
  have HS := Lib.hid hs
  clear hs
  go_enter Tryz.func97, Tryz.ntmps97
  go_wp2_with (go_at_call 131; refine (Tryz.strconv_Atoi s m HS.out (atoi_digits hd) w).mono ?_; rintro e w1 ⟨rfl, t, hw⟩; have hc := Lib.hid (Ch.of_below (Lib.bytesWorld_below w 5 t)); rw [← hw] at hc; have h2' := hc.out.cell h2 id; clear hw hd h2)
  all_goals
    go_region
    go_wp2
    go_ret2
    exact ⟨rfl, hc.out.of_heap rfl rfl rfl rfl⟩

theorem zzPort_in {s : ByteArray} {m : Nat} (hs : s.size ≤ 18) (hd : Lib.decNat s.data.toList = some m) (hm : m ≤ 65535) (w : World) :
    Calls Tryz.prog 48 #[.string s] w fun e w' => e = .returned (.tuple #[.int .i64 m, .nilIface]) ∧ Ch (fun _ => False) w w' := by
  have HS := Lib.hid hs
  clear hs
  go_enter Tryz.func48, Tryz.ntmps48
  go_wp2_with (go_at_call 97; refine (parsePort_in HS.out hd hm w).mono ?_; rintro e w1 ⟨rfl, hc⟩; have hc := Lib.hid hc)
  go_ret2
  exact ⟨rfl, hc.out⟩
theorem zzPort_out {s : ByteArray} {m : Nat} {ap : Addr} (hs : s.size ≤ 18) (hd : Lib.decNat s.data.toList = some m) (hm : 65535 < m) {w : World} (h2 : w.cell? ⟨2, 0, none⟩ = some (.iface 342 (.pointer (some ap)))) :
    Calls Tryz.prog 48 #[.string s] w fun e w' => e = .returned (.tuple #[.int .i64 0, .iface 342 (.pointer (some ap))]) ∧ Ch (fun _ => False) w w' := by
  have HS := Lib.hid hs
  clear hs
  go_enter Tryz.func48, Tryz.ntmps48
  go_wp2_with (go_at_call 97; refine (parsePort_out HS.out hd hm h2).mono ?_; rintro e w1 ⟨rfl, hc⟩; have hc := Lib.hid hc)
  go_ret2
  exact ⟨rfl, hc.out⟩
theorem port_in {s : ByteArray} {m : Nat} (hs : s.size ≤ 18) (hd : Lib.decNat s.data.toList = some m) (hm : m ≤ 65535) (w : World) :
    Calls Tryz.prog 17 #[.string s] w fun e w' => e = .returned (.tuple #[.int .i64 m, .bool true]) ∧ Ch (fun _ => False) w w' := by
  have HS := Lib.hid hs
  clear hs
  go_enter Tryz.func17, Tryz.ntmps17
  go_wp2_with (go_at_call 48; refine (zzPort_in HS.out hd hm w).mono ?_; rintro e w1 ⟨rfl, hc⟩; have hc := Lib.hid hc)
  go_region
  go_wp2
  go_ret2
  exact ⟨rfl, hc.out.of_heap rfl rfl rfl rfl⟩
theorem port_out {s : ByteArray} {m : Nat} {ap : Addr} (hs : s.size ≤ 18) (hd : Lib.decNat s.data.toList = some m) (hm : 65535 < m) {w : World} (h2 : w.cell? ⟨2, 0, none⟩ = some (.iface 342 (.pointer (some ap)))) :
    Calls Tryz.prog 17 #[.string s] w fun e w' => e = .returned (.tuple #[.int .i64 0, .bool false]) ∧ Ch (fun _ => False) w w' := by
  have HS := Lib.hid hs
  clear hs
  go_enter Tryz.func17, Tryz.ntmps17
  go_wp2_with (go_at_call 48; refine (zzPort_out HS.out hd hm h2).mono ?_; rintro e w1 ⟨rfl, hc⟩; have hc := Lib.hid hc)
  go_region
  go_wp2
  go_ret2
  exact ⟨rfl, hc.out.of_heap rfl rfl rfl rfl⟩

theorem fnPort_walk {ae ap : Addr} {s : ByteArray} {w : World} (h6 : w.cell? ⟨6, 0, none⟩ = some (.iface 342 (.pointer (some ae)))) (h6l : 6 < w.heap.size) (h2 : w.cell? ⟨2, 0, none⟩ = some (.iface 342 (.pointer (some ap)))) :
    Calls Tryz.prog 4 #[.string s] w fun e w' => e = .returned (.bool true) ∧ Ch (fun _ => False) w w' := by
  go_enter Tryz.func4, Tryz.ntmps4
  by_cases hs : 2147483647 < s.size
  · go_wp2
    go_ret
    exact ⟨rfl, Ch.refl _ _⟩
  go_wp2_with fail
  go_at_call 16
  refine (number_any (most := 9) (by decide) (by omega) w).mono ?_
  rintro e w1 ⟨⟨n, ok, rfl, hok⟩, rfl⟩
  cases ok with
  | false =>
    clear hok
    go_wp2_with (go_at_call 13; refine (works_true h6 h6l).mono ?_; rintro e w1 ⟨rfl, hc⟩)
    go_ret
    exact ⟨rfl, hc⟩
  | true =>
    obtain ⟨hsz, m, hm, rfl⟩ := hok rfl
    have hs18 := Lib.hid (show s.size ≤ 18 by omega)
    have HM := Lib.hid hm
    clear hok hm hsz
    by_cases hle : m ≤ 65535
    · go_wp2_with (first | (go_at_call 17; refine (port_in hs18.out HM.out hle w).mono ?_; rintro e w1 ⟨rfl, hc⟩; have hc := Lib.hid hc; have h6' := hc.out.cell h6 id; have h6l' := Nat.lt_of_lt_of_le h6l hc.out.size) | (go_at_call 13; refine (works_true h6' h6l').mono ?_; rintro e w1 ⟨rfl, hd⟩; have hd := Lib.hid hd))
      all_goals
        go_ret
        exact ⟨rfl, hc.out.trans hd.out⟩
    · go_wp2_with (first | (go_at_call 17; refine (port_out hs18.out HM.out (by omega) h2).mono ?_; rintro e w1 ⟨rfl, hc⟩; have hc := Lib.hid hc; have h6' := hc.out.cell h6 id; have h6l' := Nat.lt_of_lt_of_le h6l hc.out.size) | (go_at_call 13; refine (works_true h6' h6l').mono ?_; rintro e w1 ⟨rfl, hd⟩; have hd := Lib.hid hd))
      all_goals
        go_ret
        exact ⟨by simp [show ¬ (m : Int) ≤ 65535 by omega], hc.out.trans hd.out⟩

end Go.Proofs.YtimonhimfioohaaGreatDoor
