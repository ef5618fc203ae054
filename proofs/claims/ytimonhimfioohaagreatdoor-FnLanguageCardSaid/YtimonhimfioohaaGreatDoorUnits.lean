/- FnTimeUnits' walk: digits with a unit are so many seconds. -/
import Derived.Test.YtimonhimfioohaaGreatDoorPort
namespace Go.Proofs.YtimonhimfioohaaGreatDoor
open Go.RowKit

/-- A unit's letter and its seconds. -/
def UnitIs (U : List UInt8) (k : Nat) : Prop := (U = [] ∧ k = 1) ∨ (U = [100] ∧ k = 86400) ∨ (U = [104] ∧ k = 3600) ∨ (U = [109] ∧ k = 60) ∨ (U = [115] ∧ k = 1)
/-- A sign, digits, a unit, and the seconds that they spell. -/
def UnitsOk (s : ByteArray) (n : Int) : Prop := ∃ (neg : Bool) (D U : List UInt8) (k m : Nat), s.data.toList = (if neg then [45] else []) ++ (D ++ U) ∧ D.length ≤ 9 ∧ Lib.decNat D = some m ∧ UnitIs U k ∧ n = (if neg then -1 else 1) * k * m
/-- What spec.Units answers. -/
def UnitsRes (s : ByteArray) (e : Ending) : Prop := ∃ n ok, e = .returned (.tuple #[.int .i64 n, .bool ok]) ∧ (ok = true → UnitsOk s n)

theorem shorthand_d (w : World) : Calls Tryz.prog 132 #[.int .u8 100] w fun e w' => e = .returned (.int .i64 86400) ∧ w = w' := by
  go_enter Tryz.func132, Tryz.ntmps132
  go_wp2
  go_ret
  exact ⟨rfl, rfl⟩
theorem shorthand_h (w : World) : Calls Tryz.prog 132 #[.int .u8 104] w fun e w' => e = .returned (.int .i64 3600) ∧ w = w' := by
  go_enter Tryz.func132, Tryz.ntmps132
  go_wp2
  go_ret
  exact ⟨rfl, rfl⟩
theorem shorthand_m (w : World) : Calls Tryz.prog 132 #[.int .u8 109] w fun e w' => e = .returned (.int .i64 60) ∧ w = w' := by
  go_enter Tryz.func132, Tryz.ntmps132
  go_wp2
  go_ret
  exact ⟨rfl, rfl⟩
theorem shorthand_s (w : World) : Calls Tryz.prog 132 #[.int .u8 115] w fun e w' => e = .returned (.int .i64 1) ∧ w = w' := by
  go_enter Tryz.func132, Tryz.ntmps132
  go_wp2
  go_ret
  exact ⟨rfl, rfl⟩
theorem shorthand_no {z : Int} (h1 : ¬ z = 100) (h2 : ¬ z = 104) (h3 : ¬ z = 109) (h4 : ¬ z = 115) (w : World) : Calls Tryz.prog 132 #[.int .u8 z] w fun e w' => e = .returned (.int .i64 0) ∧ w = w' := by
  go_enter Tryz.func132, Tryz.ntmps132
  go_wp2
  go_ret
  exact ⟨rfl, rfl⟩

theorem shorthand_unit {c : UInt8} {k : Nat} (h : UnitIs [c] k) (w : World) : Calls Tryz.prog 132 #[.int .u8 c.toNat] w fun e w' => e = .returned (.int .i64 k) ∧ w = w' := by
  rcases h with ⟨h, _⟩ | ⟨h, rfl⟩ | ⟨h, rfl⟩ | ⟨h, rfl⟩ | ⟨h, rfl⟩
  · cases h
  all_goals
    obtain rfl : c = _ := (List.cons.inj h).1
  · exact shorthand_d w
  · exact shorthand_h w
  · exact shorthand_m w
  · exact shorthand_s w

theorem atoi_minus {l : List UInt8} {m : Nat} (h : Lib.decNat l = some m) : Lib.atoi (45 :: l) = some (-(m : Int)) := by
  rw [Lib.atoi]
  simp [h]

theorem int_signed {neg : Bool} {s : ByteArray} {D : List UInt8} {m : Nat} (hs : s.data.toList = (if neg then [45] else []) ++ D) (hl : D.length ≤ 9) (hd : Lib.decNat D = some m) :
    Lib.parseIntB 64 s.data.toList = .ok ((if neg then -1 else 1) * (m : Int)) ∧ s.size ≤ 10 := by
  have hsz : s.size ≤ 10 := by
    have h1 : s.size = s.data.toList.length := by simp
    rw [h1, hs]
    cases neg <;> simp <;> omega
  refine ⟨?_, hsz⟩
  rw [Lib.parseIntB_64, Lib.atoiAll_short _ (by simp; omega), hs]
  cases neg
  · simp only [Bool.false_eq_true, if_false, List.nil_append, atoi_digits hd, Lib.NumEnd.ofOption]
    congr 1
    omega
  · simp only [if_true, List.cons_append, List.nil_append, atoi_minus hd, Lib.NumEnd.ofOption]
    congr 1
    omega

theorem last_cat {s : ByteArray} {l : List UInt8} {c : UInt8} (h : s.data.toList = l ++ [c]) : s.size = l.length + 1 := by
  have h1 : s.size = s.data.toList.length := by simp
  rw [h1, h]
  simp

theorem last_at {s : ByteArray} {l : List UInt8} {c : UInt8} (h : s.data.toList = l ++ [c]) (h0 : s.size - 1 < s.size) : s[s.size - 1]'h0 = c := by
  have h1 := last_cat h
  have h2 : s.data.toList[s.size - 1]? = some c := by
    rw [h, h1]
    simp
  have h3 : s.size - 1 < s.data.toList.length := by simpa using h0
  rw [List.getElem?_eq_getElem h3] at h2
  exact Option.some.inj h2

theorem dec_digits : ∀ (l : List UInt8) (acc n : Nat), Lib.decFrom acc l = some n → ∀ c ∈ l, 48 ≤ c.toNat ∧ c.toNat ≤ 57
  | [], _, _, _, _, hc => nomatch hc
  | b :: r, acc, n, h, c, hc => by
    rw [Lib.decFrom] at h
    cases hv : Lib.digitVal b with
    | none => rw [hv] at h; cases h
    | some d =>
      rw [hv] at h
      rcases List.mem_cons.1 hc with rfl | hc
      · exact ⟨(Lib.digitVal_eq hv).1, (Lib.digitVal_eq hv).2.1⟩
      · exact dec_digits r _ n h c hc

theorem dec_last {D : List UInt8} {m : Nat} (hd : Lib.decNat D = some m) : ∃ D0 c, D = D0 ++ [c] ∧ 48 ≤ c.toNat ∧ c.toNat ≤ 57 := by
  obtain ⟨hne, h⟩ := Lib.decNat_some hd
  refine ⟨D.dropLast, D.getLast hne, (List.dropLast_concat_getLast hne).symm, dec_digits D 0 m h _ (List.getLast_mem hne)⟩

theorem sign_bounds {neg : Bool} {m : Nat} (h : m < 1000000000) : -1000000000 < (if neg then -1 else 1) * (m : Int) ∧ (if neg then -1 else 1) * (m : Int) < 1000000000 := by
  cases neg
  · simp only [Bool.false_eq_true, if_false]
    omega
  · simp only [if_true]
    omega

set_option maxHeartbeats 1000000 in
theorem parseUnits_plain {s : ByteArray} {neg : Bool} {D : List UInt8} {v : Int} (hs : s.data.toList = (if neg then [45] else []) ++ D) (hsz : s.size ≤ 10) {m : Nat} (hd : Lib.decNat D = some m) (hp : Lib.parseIntB 64 s.data.toList = .ok v) (hv : -1000000000 < v ∧ v < 1000000000) (w : World) :
    Calls Tryz.prog 98 #[.string s] w fun e w' => e = .returned (.tuple #[.int .i64 v, .nilIface]) ∧ Ch (fun _ => False) w w' := by
  obtain ⟨D0, c, rfl, hc1, hc2⟩ := dec_last hd
  rw [← List.append_assoc] at hs
  have hsz1 := last_cat hs
  have h0 : 0 < s.size := by omega
  have hlt0 : s.size - 1 < s.size := by omega
  have hlast := last_at hs hlt0
  have HP := Lib.hid hp
  have HC := Lib.hid (And.intro hc1 hc2)
  have HV := Lib.hid hv
  obtain ⟨hv1, hv2⟩ := hv
  clear hp hs hd hc1 hc2 hsz1
  go_enter Tryz.func98, Tryz.ntmps98
  go_wp2_with fail
  go_at_call 132
  have hc := HC.out
  refine (shorthand_no (by omega) (by omega) (by omega) (by omega) w).mono ?_
  rintro e w1 ⟨rfl, rfl⟩
  clear hlast hlt0 hc
  go_wp2_with fail
  go_at_call 121
  refine (Tryz.strconv_ParseInt_10_at64_ok s (by omega) _ HP.out w).mono ?_
  rintro e w1 ⟨rfl, hw⟩
  have hc : Hid (Ch (fun _ => False) w w1) := Lib.hid (by
    rcases hw with rfl | ⟨t, rfl⟩
    · exact Ch.refl _ _
    · exact Ch.of_below (Lib.bytesWorld_below w 5 t))
  clear hw
  go_wp2
  go_ret2
  exact ⟨rfl, hc.out⟩

set_option maxHeartbeats 1000000 in
theorem parseUnits_unit {s : ByteArray} {l : List UInt8} {c : UInt8} {k : Nat} {v : Int} (hs : s.data.toList = l ++ [c]) (hsz : s.size ≤ 11) (hu : UnitIs [c] k) (hp : Lib.parseIntB 64 l = .ok v) (hv : -1000000000 < v ∧ v < 1000000000) (w : World) :
    Calls Tryz.prog 98 #[.string s] w fun e w' => e = .returned (.tuple #[.int .i64 (v * k), .nilIface]) ∧ Ch (fun _ => False) w w' := by
  have hsz1 := last_cat hs
  have h0 : 0 < s.size := by omega
  have hlt0 : s.size - 1 < s.size := by omega
  have hlast := last_at hs hlt0
  have ht : (s.extract 0 (s.size - 1)).data.toList = l := by
    simp [hs, hsz1]
  rw [← ht] at hp
  have HP := Lib.hid hp
  have hk : 0 < k ∧ k ≤ 86400 := by
    rcases hu with ⟨h, _⟩ | ⟨_, rfl⟩ | ⟨_, rfl⟩ | ⟨_, rfl⟩ | ⟨_, rfl⟩
    · cases h
    all_goals decide
  have hb : -9223372036854775808 ≤ v * (k : Int) ∧ v * (k : Int) ≤ 9223372036854775807 := by
    have h1 : v * (k : Int) ≤ 1000000000 * 86400 := by
      by_cases hv0 : 0 ≤ v
      · exact Int.mul_le_mul (by omega) (by omega) (by omega) (by decide)
      · have : v * (k : Int) ≤ 0 := Int.mul_nonpos_of_nonpos_of_nonneg (by omega) (by omega)
        omega
    have h2 : -(1000000000 * 86400) ≤ v * (k : Int) := by
      by_cases hv0 : 0 ≤ v
      · have : 0 ≤ v * (k : Int) := Int.mul_nonneg hv0 (by omega)
        omega
      · have h3 : (-v) * (k : Int) ≤ 1000000000 * 86400 := Int.mul_le_mul (by omega) (by omega) (by omega) (by decide)
        rw [Int.neg_mul] at h3
        omega
    omega
  have HB := Lib.hid hb
  have HU := Lib.hid hu
  have HS := Lib.hid hs
  obtain ⟨hk1, hk2⟩ := hk
  have HV := Lib.hid hv
  clear hp hs hsz1 hb hu ht hv
  go_enter Tryz.func98, Tryz.ntmps98
  go_wp2_with fail
  go_at_call 132
  refine (shorthand_unit HU.out w).mono ?_
  rintro e w1 ⟨rfl, rfl⟩
  clear hlast hlt0
  go_wp2_with fail
  go_at_call 121
  refine (Tryz.strconv_ParseInt_10_at64_ok _ (by simp; omega) _ HP.out w).mono ?_
  rintro e w1 ⟨rfl, hw⟩
  have hc : Hid (Ch (fun _ => False) w w1) := Lib.hid (by
    rcases hw with rfl | ⟨t, rfl⟩
    · exact Ch.refl _ _
    · exact Ch.of_below (Lib.bytesWorld_below w 5 t))
  clear hw
  obtain ⟨hb1, hb2⟩ := HB.out
  go_wp2
  go_ret2
  exact ⟨rfl, hc.out⟩

theorem dec_small {D : List UInt8} {m : Nat} (hl : D.length ≤ 9) (hd : Lib.decNat D = some m) : m < 1000000000 := by
  have h1 := Lib.decFrom_lt D 0 m (Lib.decNat_some hd).2
  have hp : 10 ^ D.length ≤ 10 ^ 9 := Nat.pow_le_pow_right (by decide) hl
  have e9 : (10 : Nat) ^ 9 = 1000000000 := by decide
  omega

theorem int_of {neg : Bool} {D : List UInt8} {m : Nat} (hl : D.length ≤ 9) (hd : Lib.decNat D = some m) :
    Lib.parseIntB 64 ((if neg then [45] else []) ++ D) = .ok ((if neg then -1 else 1) * (m : Int)) := by
  have h := (int_signed (neg := neg) (s := ⟨((if neg then [45] else []) ++ D).toArray⟩) (D := D) (m := m) (by simp) hl hd).1
  simpa using h

theorem parseUnits_ok {s : ByteArray} {n : Int} (h : UnitsOk s n) (w : World) :
    Calls Tryz.prog 98 #[.string s] w fun e w' => e = .returned (.tuple #[.int .i64 n, .nilIface]) ∧ Ch (fun _ => False) w w' := by
  obtain ⟨neg, D, U, k, m, hs, hl, hd, hu, rfl⟩ := h
  have hb := sign_bounds (neg := neg) (dec_small hl hd)
  have hsz : s.size ≤ 10 + U.length := by
    have h1 : s.size = s.data.toList.length := by simp
    rw [h1, hs]
    cases neg <;> simp <;> omega
  have hnil : U = [] → Calls Tryz.prog 98 #[.string s] w fun e w' => e = .returned (.tuple #[.int .i64 ((if neg then -1 else 1) * (m : Int)), .nilIface]) ∧ Ch (fun _ => False) w w' := by
    rintro rfl
    rw [List.append_nil] at hs
    exact parseUnits_plain hs (by simpa using hsz) hd (by rw [hs]; exact int_of hl hd) hb w
  have hone : ∀ c, U = [c] → Calls Tryz.prog 98 #[.string s] w fun e w' => e = .returned (.tuple #[.int .i64 ((if neg then -1 else 1) * (m : Int) * k), .nilIface]) ∧ Ch (fun _ => False) w w' := by
    rintro c rfl
    rw [← List.append_assoc] at hs
    exact parseUnits_unit hs (by simpa using hsz) hu (int_of hl hd) hb w
  have hcomm : (if neg then -1 else 1) * (k : Int) * (m : Int) = (if neg then -1 else 1) * (m : Int) * (k : Int) := by
    rw [Int.mul_assoc, Int.mul_comm (k : Int), ← Int.mul_assoc]
  rw [hcomm]
  rcases hu with ⟨h, rfl⟩ | ⟨h, rfl⟩ | ⟨h, rfl⟩ | ⟨h, rfl⟩ | ⟨h, rfl⟩
  · have := hnil h
    simpa using this
  all_goals exact hone _ h

theorem zzUnits_ok {s : ByteArray} {n : Int} (h : UnitsOk s n) (w : World) :
    Calls Tryz.prog 49 #[.string s] w fun e w' => e = .returned (.tuple #[.int .i64 n, .nilIface]) ∧ Ch (fun _ => False) w w' := by
  have H := Lib.hid h
  clear h
  go_enter Tryz.func49, Tryz.ntmps49
  go_wp2_with (go_at_call 98; refine (parseUnits_ok H.out w).mono ?_; rintro e w1 ⟨rfl, hc⟩; have hc := Lib.hid hc)
  go_ret2
  exact ⟨rfl, hc.out⟩

theorem units_ok {s : ByteArray} {n : Int} (h : UnitsOk s n) (w : World) :
    Calls Tryz.prog 19 #[.string s] w fun e w' => e = .returned (.tuple #[.int .i64 n, .bool true]) ∧ Ch (fun _ => False) w w' := by
  have H := Lib.hid h
  clear h
  go_enter Tryz.func19, Tryz.ntmps19
  go_wp2_with (go_at_call 49; refine (zzUnits_ok H.out w).mono ?_; rintro e w1 ⟨rfl, hc⟩; have hc := Lib.hid hc)
  go_region
  go_wp2
  go_ret2
  exact ⟨rfl, hc.out.of_heap rfl rfl rfl rfl⟩

theorem leaf_unit (neg : Bool) {s S : ByteArray} {c : UInt8} {k m : Nat} (hS : s.data.toList = (if neg then [45] else []) ++ S.data.toList) (h0 : S.size - 1 < S.size) (hc : S[S.size - 1]'h0 = c) (hu : UnitIs [c] k)
    (hle : ((S.extract 0 (S.size - 1)).size : Int) ≤ 9) (hd : Lib.decNat (S.extract 0 (S.size - 1)).data.toList = some m) : UnitsOk s ((if neg then -1 else 1) * k * m) := by
  refine ⟨neg, (S.extract 0 (S.size - 1)).data.toList, [c], k, m, ?_, by rw [Array.length_toList]; exact Int.ofNat_le.1 hle, hd, hu, rfl⟩
  have hT : (S.extract 0 (S.size - 1)).data.toList = S.data.toList.take (S.size - 1) := by simp [List.dropLast_eq_take]
  rw [hS, hT]
  congr 1
  have h1 : S.size - 1 < S.data.toList.length := by simpa using h0
  have h2 : S.data.toList = S.data.toList.take (S.size - 1) ++ [c] := by
    have h3 : S.data.toList[S.size - 1] = c := hc
    rw [← h3, ← List.take_succ_eq_append_getElem h1]
    rw [List.take_of_length_le (by simp; omega)]
  exact h2

theorem leaf_none (neg : Bool) {s S : ByteArray} {m : Nat} (hS : s.data.toList = (if neg then [45] else []) ++ S.data.toList)
    (hle : (S.size : Int) ≤ 9) (hd : Lib.decNat S.data.toList = some m) : UnitsOk s ((if neg then -1 else 1) * m) := by
  refine ⟨neg, S.data.toList, [], 1, m, by simpa using hS, by rw [Array.length_toList]; exact Int.ofNat_le.1 hle, hd, .inl ⟨rfl, rfl⟩, by simp⟩

theorem byte_is {x : UInt8} {K : Int} {c : UInt8} (h : ((x.toNat : Int) == K) = true) (hc : (c.toNat : Int) = K) : x = c := by
  have h1 : (x.toNat : Int) = K := by simpa using h
  apply UInt8.toNat_inj.1
  omega

theorem minus_split {s : ByteArray} (h0 : 0 < s.size) (h : s[0] = 45) : s.data.toList = (if true then [45] else []) ++ (s.extract 1 s.size).data.toList := by
  have h1 : 0 < s.data.toList.length := by simpa using h0
  have h2 : s.data.toList[0] = 45 := h
  have h4 : (s.extract 1 s.size).data.toList = s.data.toList.drop 1 := by
    have h5 : (s.data.toList.drop 1).length ≤ s.size - 1 := by simp
    simp only [ByteArray.data_extract, Array.toList_extract, List.extract_eq_take_drop]
    exact List.take_of_length_le h5
  rw [h4, if_pos rfl, List.cons_append, List.nil_append]
  have h3 : s.data.toList.drop 0 = s.data.toList[0] :: s.data.toList.drop 1 := List.drop_eq_getElem_cons h1
  rw [h2] at h3
  exact h3

set_option maxHeartbeats 2000000 in
theorem specUnits_any {s : ByteArray} (hs : s.size ≤ 2147483647) (w : World) :
    Calls Tryz.prog 18 #[.string s] w fun e w' => UnitsRes s e ∧ Ch (fun _ => False) w w' := by
  by_cases he : s = ⟨#[]⟩
  · subst he
    go_enter Tryz.func18, Tryz.ntmps18
    go_wp2_with fail
    go_at_call 16
    refine (number_any (most := 9) (by decide) (by decide) w).mono ?_
    rintro e w1 ⟨⟨n, ok, rfl, hok⟩, rfl⟩
    cases ok with
    | true =>
      obtain ⟨_, m, hm, _⟩ := hok rfl
      cases hm
    | false =>
      clear hok
      go_wp2
      refine bodyPost_ret (by simp [results, Tryz.results18]; rfl) rfl ?_
      exact ⟨⟨_, _, rfl, fun h => nomatch h⟩, Ch.refl _ _⟩
  · have hne : s.data.toList ≠ [] := fun h => he (by cases s with | mk d => cases d; simp_all)
    have hnt : ¬ s.toList = [] := by rw [ByteArray.toList_eq]; exact hne
    have h0 : 0 < s.size := by
      rcases Nat.eq_zero_or_pos s.size with h | h
      · exact absurd (List.eq_nil_of_length_eq_zero (by simpa using h)) hne
      · exact h
    go_enter Tryz.func18, Tryz.ntmps18
    by_cases h45 : s[0] = 45
    · have hms := minus_split h0 h45
      have hSs : (s.extract 1 s.size).size ≤ 2147483647 := by simp; omega
      go_wp2_with fail
      rotate_left
      · exact absurd (show (!s.toList.isEmpty) = false by assumption) (by simp [hnt])
      clear h45 he hne hnt
      go_region
      clear h0
      generalize s.extract 1 s.size = S at *
      have HS := Lib.hid hms
      clear hms
      by_cases he : S = ⟨#[]⟩
      · subst he
        go_wp2_with fail
        go_at_call 16
        refine (number_any (most := 9) (by decide) (by decide) w.drew).mono ?_
        rintro e w1 ⟨⟨n, ok, rfl, hok⟩, rfl⟩
        cases ok with
        | true =>
          obtain ⟨_, m, hm, _⟩ := hok rfl
          cases hm
        | false =>
          clear hok
          go_wp2
          refine bodyPost_ret (by simp [results, Tryz.results18]; rfl) rfl ?_
          exact ⟨⟨_, _, rfl, fun h => nomatch h⟩, (Ch.refl _ _).of_heap rfl rfl rfl rfl⟩
      have hne : S.data.toList ≠ [] := fun h => he (by cases S with | mk d => cases d; simp_all)
      have hnt : ¬ S.toList = [] := by rw [ByteArray.toList_eq]; exact hne
      have h0 : 0 < S.size := by
        rcases Nat.eq_zero_or_pos S.size with h | h
        · exact absurd (List.eq_nil_of_length_eq_zero (by simpa using h)) hne
        · exact h
      go_wp2_with fail
      all_goals try (exact absurd (show (!S.toList.isEmpty) = false by assumption) (by simp [hnt]))
      all_goals
        go_at_call 16
        refine (number_any (most := 9) (by decide) (by first | omega | (simp; omega)) w.drew).mono ?_
        rintro e w1 ⟨⟨n, ok, rfl, hok⟩, rfl⟩
        cases ok with
        | false =>
          clear hok
          go_wp2
          refine bodyPost_ret (by simp [results, Tryz.results18]; rfl) rfl ?_
          exact ⟨⟨_, _, rfl, fun h => nomatch h⟩, (Ch.refl _ _).of_heap rfl rfl rfl rfl⟩
        | true =>
          obtain ⟨hle, m, hm, rfl⟩ := hok rfl
          have HM := Lib.hid (And.intro hle hm)
          have hm1 := dec_small (by rw [Array.length_toList]; exact Int.ofNat_le.1 hle) hm
          clear hok hle hm
          go_wp2
          refine bodyPost_ret (by simp [results, Tryz.results18]; rfl) rfl ?_
          refine ⟨⟨_, _, rfl, fun _ => ?_⟩, (Ch.refl _ _).of_heap rfl rfl rfl rfl⟩
          first
            | exact leaf_unit true HS.out (by omega) (byte_is (by assumption) (c := 100) rfl) (k := 86400) (.inr (.inl ⟨rfl, rfl⟩)) HM.out.1 HM.out.2
            | exact leaf_unit true HS.out (by omega) (byte_is (by assumption) (c := 104) rfl) (k := 3600) (.inr (.inr (.inl ⟨rfl, rfl⟩))) HM.out.1 HM.out.2
            | exact leaf_unit true HS.out (by omega) (byte_is (by assumption) (c := 109) rfl) (k := 60) (.inr (.inr (.inr (.inl ⟨rfl, rfl⟩)))) HM.out.1 HM.out.2
            | exact (by have h := leaf_unit true HS.out (by omega) (byte_is (by assumption) (c := 115) rfl) (k := 1) (.inr (.inr (.inr (.inr ⟨rfl, rfl⟩)))) HM.out.1 HM.out.2; simpa using h)
            | exact (by have h := leaf_none true HS.out HM.out.1 HM.out.2; simpa using h)
    · have h45n : (((s[0].toNat : Nat) : Int) == 45) = false := by
        apply beq_false_of_ne
        intro h
        exact h45 (UInt8.toNat_inj.1 (by have : (45 : UInt8).toNat = 45 := rfl; omega))
      have HS := Lib.hid (show s.data.toList = (if false then [45] else []) ++ s.data.toList from rfl)
      go_wp2_with fail
      all_goals try (exfalso; simp_all; done)
      all_goals
        go_at_call 16
        refine (number_any (most := 9) (by decide) (by first | omega | (simp; omega)) w).mono ?_
        rintro e w1 ⟨⟨n, ok, rfl, hok⟩, rfl⟩
        cases ok with
        | false =>
          clear hok
          go_wp2
          refine bodyPost_ret (by simp [results, Tryz.results18]; rfl) rfl ?_
          exact ⟨⟨_, _, rfl, fun h => nomatch h⟩, Ch.refl _ _⟩
        | true =>
          obtain ⟨hle, m, hm, rfl⟩ := hok rfl
          have HM := Lib.hid (And.intro hle hm)
          have hm1 := dec_small (by rw [Array.length_toList]; exact Int.ofNat_le.1 hle) hm
          clear hok hle hm
          go_wp2
          refine bodyPost_ret (by simp [results, Tryz.results18]; rfl) rfl ?_
          refine ⟨⟨_, _, rfl, fun _ => ?_⟩, Ch.refl _ _⟩
          first
            | exact leaf_unit false HS.out (by omega) (byte_is (by assumption) (c := 100) rfl) (k := 86400) (.inr (.inl ⟨rfl, rfl⟩)) HM.out.1 HM.out.2
            | exact leaf_unit false HS.out (by omega) (byte_is (by assumption) (c := 104) rfl) (k := 3600) (.inr (.inr (.inl ⟨rfl, rfl⟩))) HM.out.1 HM.out.2
            | exact leaf_unit false HS.out (by omega) (byte_is (by assumption) (c := 109) rfl) (k := 60) (.inr (.inr (.inr (.inl ⟨rfl, rfl⟩)))) HM.out.1 HM.out.2
            | exact (by have h := leaf_unit false HS.out (by omega) (byte_is (by assumption) (c := 115) rfl) (k := 1) (.inr (.inr (.inr (.inr ⟨rfl, rfl⟩)))) HM.out.1 HM.out.2; simpa using h)
            | exact (by have h := leaf_none false HS.out HM.out.1 HM.out.2; simpa using h)

theorem fnTimeUnits_walk {ae : Addr} {s : ByteArray} {w : World} (h6 : w.cell? ⟨6, 0, none⟩ = some (.iface 342 (.pointer (some ae)))) (h6l : 6 < w.heap.size) :
    Calls Tryz.prog 5 #[.string s] w fun e w' => e = .returned (.bool true) ∧ Ch (fun _ => False) w w' := by
  go_enter Tryz.func5, Tryz.ntmps5
  by_cases hs : 2147483647 < s.size
  · go_wp2
    go_ret
    exact ⟨rfl, Ch.refl _ _⟩
  go_wp2_with fail
  go_at_call 18
  refine (specUnits_any (by omega) w).mono ?_
  rintro e w1 ⟨⟨n, ok, rfl, hok⟩, hc⟩
  have h6a := hc.cell h6 id
  have h6b := Nat.lt_of_lt_of_le h6l hc.size
  have hc := Lib.hid hc
  cases ok with
  | false =>
    clear hok
    go_wp2_with (go_at_call 13; refine (works_true h6a h6b).mono ?_; rintro e w1 ⟨rfl, hd⟩)
    go_ret
    exact ⟨rfl, hc.out.trans hd⟩
  | true =>
    have HU := Lib.hid (hok rfl)
    clear hok
    go_wp2_with (first | (go_at_call 19; refine (units_ok HU.out w1).mono ?_; rintro e w2 ⟨rfl, hd⟩; have hd := Lib.hid (hc.out.trans hd); have h6' := hd.out.cell h6 id; have h6l' := Nat.lt_of_lt_of_le h6l hd.out.size) | (go_at_call 13; refine (works_true h6' h6l').mono ?_; rintro e w3 ⟨rfl, hq⟩; have hq := Lib.hid hq))
    go_ret
    exact ⟨rfl, hd.out.trans hq.out⟩

end Go.Proofs.YtimonhimfioohaaGreatDoor
