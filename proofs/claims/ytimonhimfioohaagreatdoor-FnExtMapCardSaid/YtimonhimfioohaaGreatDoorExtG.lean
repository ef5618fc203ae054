/- An extension's text is read as the extension, and the extension printed is the text. -/
import Derived.Test.YtimonhimfioohaaGreatDoorExtE
import Derived.Test.YtimonhimfioohaaGreatDoorBandIn
namespace Go.Proofs.YtimonhimfioohaaGreatDoor
open Go.RowKit

/-- The text. -/
def extW (D : ByteArray) (d : Int) (U : ByteArray) (ax : List ByteArray) (X : ByteArray) : Prop :=
  ∃ PT, ((d = 0 ∧ PT = (ByteArray.mk #[101, 120, 116, 109, 97, 112, 58]) ++ D) ∨ (1 ≤ d ∧ PT = (ByteArray.mk #[101, 120, 116, 109, 97, 112, 58]) ++ D ++ ((ByteArray.mk #[47]) ++ directionText d))) ∧ ((ax = [] ∧ X = PT ++ ((ByteArray.mk #[32]) ++ U)) ∨ ∃ A, ax = [A] ∧ X = PT ++ ((ByteArray.mk #[32]) ++ U) ++ ((ByteArray.mk #[32]) ++ A))
def good (U : ByteArray) : Prop := U.data.toList ≠ [] ∧ ∀ c ∈ U.data.toList, 32 < c.toNat ∧ c.toNat ≤ 126

theorem good_sp {b : UInt8} (h : 32 < b.toNat) : Lib.isSp b = false := by
  unfold Lib.isSp
  simp only [Bool.or_eq_false_iff, beq_eq_false_iff_ne]
  refine ⟨⟨⟨⟨⟨?_, ?_⟩, ?_⟩, ?_⟩, ?_⟩, ?_⟩ <;> (intro e; rw [e] at h; exact absurd h (by decide))
theorem bytes_self (U : ByteArray) : (⟨U.data.toList.toArray⟩ : ByteArray) = U := by
  apply ByteArray.ext
  simp
theorem dec_good' : ∀ v : Fin 256, ((Lib.decDigits v.val).all fun b => !Lib.isSp b && decide (b.toNat < 128)) = true := by decide +kernel
theorem dec_good {v : Nat} (hv : v ≤ 255) : ∀ x ∈ Lib.decDigits v, Lib.isSp x = false ∧ x.toNat < 128 := fun x hx => by
  have h := List.all_eq_true.1 (dec_good' ⟨v, by omega⟩) x hx
  simpa using h
theorem dir_good {v : Nat} {d : Int} (hv : v ≤ 255) (h1 : 1 ≤ d) (h4 : d ≤ 4) : ∀ x ∈ Lib.decDigits v ++ 47 :: (directionText d).data.toList, Lib.isSp x = false ∧ x.toNat < 128 := fun x hx => by
  simp only [List.mem_append, List.mem_cons] at hx
  rcases hx with hx | rfl | hx
  · exact dec_good hv x hx
  · decide
  · exact ⟨((dir_slash h1 h4).2.2 x hx).2, ((dir_slash h1 h4).2.2 x hx).1⟩
theorem one_size (a : UInt8) : (ByteArray.mk #[a]).size = 1 := rfl

theorem want_reads {v E : Nat} {d : Int} {U X : ByteArray} {ax : List ByteArray} {W : World} (h : extW ⟨(Lib.decDigits v).toArray⟩ d U ax X) (hv1 : 1 ≤ v) (hv2 : v ≤ 246) (hd4 : d ≤ 4) (hU : good U) (hA : ∀ A ∈ ax, good A) (hXs : X.size ≤ 8589934592)
    (hE : W.heap[E]? = some (.cells #[.int .i64 0, .int .i64 0, .pointer none, .pointer none] 159 (0, 0))) (hT : AsciiT W) : Calls Tryz.prog 77 #[.pointer (some ⟨E, 0, none⟩), .string X] W (ExtPost E v d U ax W) := by
  have hv3 : v ≤ 255 := by omega
  have hUs : ∀ x ∈ U.data.toList, Lib.isSp x = false := fun x hx => good_sp (hU.2 x hx).1
  have hUa : ∀ x ∈ U.data.toList, x.toNat < 128 := fun x hx => by have := (hU.2 x hx).2; omega
  obtain ⟨PT, hPT, hX⟩ := h
  rcases hPT with ⟨rfl, hPT⟩ | ⟨hd1, hPT⟩ <;> rcases hX with ⟨rfl, hX⟩ | ⟨A, rfl, hX⟩
  · skip
    have hraw : X.data.toList = [101, 120, 116, 109, 97, 112] ++ 58 :: ((Lib.decDigits v) ++ 32 :: U.data.toList) := by
      rw [hX, hPT]
      simp
    have hTs : ∀ x ∈ (Lib.decDigits v), Lib.isSp x = false ∧ x.toNat < 128 := dec_good hv3
    have hfl := fields_two (fun x hx => (hTs x hx).1) hUs (decDigits_ne v) hU.1 
    have h := extRead_00 (U := U.data.toList) hE hv1 hv2 hXs hraw hfl (by
      intro b hb
      simp only [List.mem_append, List.mem_cons] at hb
      rcases hb with hb | rfl | hb
      · exact (hTs b (by simp [hb])).2
      · decide
      · exact hUa b hb) hT
    rw [bytes_self U] at h
    exact h
  · have hA := hA A (by simp)
    have hAs : ∀ x ∈ A.data.toList, Lib.isSp x = false := fun x hx => good_sp (hA.2 x hx).1
    have hAa : ∀ x ∈ A.data.toList, x.toNat < 128 := fun x hx => by have := (hA.2 x hx).2; omega
    have hraw : X.data.toList = [101, 120, 116, 109, 97, 112] ++ 58 :: ((Lib.decDigits v) ++ 32 :: (U.data.toList ++ 32 :: A.data.toList)) := by
      rw [hX, hPT]
      simp
    have hTs : ∀ x ∈ (Lib.decDigits v), Lib.isSp x = false ∧ x.toNat < 128 := dec_good hv3
    have hfl := fields_three (fun x hx => (hTs x hx).1) hUs hAs (decDigits_ne v) hU.1 hA.1
    have h := extRead_01 (U := U.data.toList) (A := A.data.toList) hE hv1 hv2 hXs hraw hfl (by
      intro b hb
      simp only [List.mem_append, List.mem_cons] at hb
      rcases hb with hb | rfl | hb | rfl | hb
      · exact (hTs b (by simp [hb])).2
      · decide
      · exact hUa b hb
      · decide
      · exact hAa b hb) hT
    rw [bytes_self U, bytes_self A] at h
    exact h
  · skip
    have hraw : X.data.toList = [101, 120, 116, 109, 97, 112] ++ 58 :: ((Lib.decDigits v ++ 47 :: (directionText d).data.toList) ++ 32 :: U.data.toList) := by
      rw [hX, hPT]
      simp
    have hTs : ∀ x ∈ (Lib.decDigits v ++ 47 :: (directionText d).data.toList), Lib.isSp x = false ∧ x.toNat < 128 := dir_good hv3 hd1 hd4
    have hfl := fields_two (fun x hx => (hTs x hx).1) hUs (by simp) hU.1 
    have h := extRead_10 (U := U.data.toList) hE hv1 hv2 hd1 hd4 hXs hraw hfl (by
      intro b hb
      simp only [List.mem_append, List.mem_cons] at hb
      rcases hb with (hb | rfl | hb) | rfl | hb
      · exact (hTs b (by simp [hb])).2
      · decide
      · exact (hTs b (by simp [hb])).2
      · decide
      · exact hUa b hb) hT
    rw [bytes_self U] at h
    exact h
  · have hA := hA A (by simp)
    have hAs : ∀ x ∈ A.data.toList, Lib.isSp x = false := fun x hx => good_sp (hA.2 x hx).1
    have hAa : ∀ x ∈ A.data.toList, x.toNat < 128 := fun x hx => by have := (hA.2 x hx).2; omega
    have hraw : X.data.toList = [101, 120, 116, 109, 97, 112] ++ 58 :: ((Lib.decDigits v ++ 47 :: (directionText d).data.toList) ++ 32 :: (U.data.toList ++ 32 :: A.data.toList)) := by
      rw [hX, hPT]
      simp
    have hTs : ∀ x ∈ (Lib.decDigits v ++ 47 :: (directionText d).data.toList), Lib.isSp x = false ∧ x.toNat < 128 := dir_good hv3 hd1 hd4
    have hfl := fields_three (fun x hx => (hTs x hx).1) hUs hAs (by simp) hU.1 hA.1
    have h := extRead_11 (U := U.data.toList) (A := A.data.toList) hE hv1 hv2 hd1 hd4 hXs hraw hfl (by
      intro b hb
      simp only [List.mem_append, List.mem_cons] at hb
      rcases hb with (hb | rfl | hb) | rfl | hb | rfl | hb
      · exact (hTs b (by simp [hb])).2
      · decide
      · exact (hTs b (by simp [hb])).2
      · decide
      · exact hUa b hb
      · decide
      · exact hAa b hb) hT
    rw [bytes_self U, bytes_self A] at h
    exact h

theorem want_prints {v k : Nat} {d : Int} {U X : ByteArray} {ax : List ByteArray} {p q : Option Addr} {W : World} (h : extW ⟨(Lib.decDigits v).toArray⟩ d U ax X) (hv2 : v ≤ 246) (hd4 : d ≤ 4) (hUz : U.size ≤ 2147483647) (hAz : ∀ A ∈ ax, A.size ≤ 2147483647)
    (hk : W.heap[k]? = some (.cells #[.int .i64 v, .int .i64 d, .pointer p, .pointer q] 159 (0, 0))) (hp : OptP W 249 p [U]) (hq : OptP W 9 q ax) (ht : Lib.TabIs Tryz.prog W "internal/strconv.uint64pow10" .u64 Lib.pow10Tab) :
    Calls Tryz.prog 82 #[.pointer (some ⟨k, 0, none⟩)] W fun e w' => e = .returned (.string X) ∧ Ch (fun _ => False) W w' := by
  obtain ⟨u, rfl, hu⟩ := hp
  have hdl : (⟨(Lib.decDigits v).toArray⟩ : ByteArray).size ≤ 20 := dec_len 19 v (Nat.lt_of_le_of_lt hv2 (by decide))
  obtain ⟨PT, hPT, hX⟩ := h
  rcases hPT with ⟨rfl, hPT⟩ | ⟨hd1, hPT⟩ <;> rcases hX with ⟨rfl, hX⟩ | ⟨A, rfl, hX⟩
  · skip
    obtain rfl : q = none := hq
    have h := extMarshal_any (by
      skip
      skip
      simp only [ByteArray.size_append, one_size]
      omega) (extString_00 hk hu hv2 hUz ht)
    refine h.mono ?_
    rintro e w' ⟨rfl, hc⟩
    refine ⟨?_, hc⟩
    rw [hX, hPT, show (ByteArray.mk #[101, 120, 116, 109, 97, 112]) ++ (ByteArray.mk #[58]) = (ByteArray.mk #[101, 120, 116, 109, 97, 112, 58]) from by rfl]
    simp only [ByteArray.append_assoc]
  · have hAz := hAz A (by simp)
    obtain ⟨a, rfl, ha⟩ := hq
    have h := extMarshal_any (by
      skip
      skip
      simp only [ByteArray.size_append, one_size]
      omega) (extString_01 hk hu ha hv2 hUz hAz ht)
    refine h.mono ?_
    rintro e w' ⟨rfl, hc⟩
    refine ⟨?_, hc⟩
    rw [hX, hPT, show (ByteArray.mk #[101, 120, 116, 109, 97, 112]) ++ (ByteArray.mk #[58]) = (ByteArray.mk #[101, 120, 116, 109, 97, 112, 58]) from by rfl]
    simp only [ByteArray.append_assoc]
  · skip
    obtain rfl : q = none := hq
    have h := extMarshal_any (by
      have hl := (dir_slash hd1 hd4).2.1
      have hl2 : (directionText d).size = 8 := hl
      simp only [ByteArray.size_append, one_size]
      omega) (extString_10 hk hu hv2 hd1 hd4 hUz ht)
    refine h.mono ?_
    rintro e w' ⟨rfl, hc⟩
    refine ⟨?_, hc⟩
    rw [hX, hPT, show (ByteArray.mk #[101, 120, 116, 109, 97, 112]) ++ (ByteArray.mk #[58]) = (ByteArray.mk #[101, 120, 116, 109, 97, 112, 58]) from by rfl]
    simp only [ByteArray.append_assoc]
  · have hAz := hAz A (by simp)
    obtain ⟨a, rfl, ha⟩ := hq
    have h := extMarshal_any (by
      have hl := (dir_slash hd1 hd4).2.1
      have hl2 : (directionText d).size = 8 := hl
      simp only [ByteArray.size_append, one_size]
      omega) (extString_11 hk hu ha hv2 hd1 hd4 hUz hAz ht)
    refine h.mono ?_
    rintro e w' ⟨rfl, hc⟩
    refine ⟨?_, hc⟩
    rw [hX, hPT, show (ByteArray.mk #[101, 120, 116, 109, 97, 112]) ++ (ByteArray.mk #[58]) = (ByteArray.mk #[101, 120, 116, 109, 97, 112, 58]) from by rfl]
    simp only [ByteArray.append_assoc]

end Go.Proofs.YtimonhimfioohaaGreatDoor
