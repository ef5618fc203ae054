/- spec.Decimal prints a number's digits. -/
import Derived.Test.YtimonhimfioohaaGreatDoorPort
namespace Go.Proofs.YtimonhimfioohaaGreatDoor
open Go.RowKit

theorem dec_len : ∀ (k n : Nat), n < 10 ^ (k + 1) → (Lib.decDigits n).length ≤ k + 1
  | k, n, hn => by
    by_cases h : n < 10
    · rw [Lib.decDigits_one h]
      simp
    · rw [Lib.decDigits, dif_neg h, List.length_append]
      cases k with
      | zero => exact absurd (by simpa using hn) h
      | succ k =>
        have h1 := dec_len k (n / 10) (by rw [Nat.pow_succ] at hn; omega)
        simp only [List.length_cons, List.length_nil]
        omega
  termination_by k => k

theorem bytes_cat (a b : List UInt8) : (ByteArray.mk a.toArray ++ ByteArray.mk b.toArray) = ByteArray.mk (a ++ b).toArray := by
  apply ByteArray.ext
  simp

theorem conv_one (w : World) (c : UInt8) : (convert 143 9 (.slice (some ⟨w.heap.size, 0, none⟩) 1 1)).run Tryz.prog (w.alloc (.cells #[.int .u8 (c.toNat : Int)] 5)) = .ok (.string ⟨#[c]⟩) (w.alloc (.cells #[.int .u8 (c.toNat : Int)] 5)) :=
  run_convert_bytes_back _ 143 9 5 ⟨w.heap.size, 0, none⟩ 1 [c] Tryz.underlying143 Tryz.underlying5 Tryz.underlying9 (fun j hj => by
    have hj0 : j = 0 := by simpa using hj
    subst hj0
    exact blk_cell (heap_alloc_new w _) rfl)

set_option maxRecDepth 100000 in
theorem decimal_ok (n : Nat) : ∀ (_ : n < 18446744073709551616) (w : World),
    Calls Tryz.prog 29 #[.int .u64 n] w fun e w' => e = .returned (.string ⟨(Lib.decDigits n).toArray⟩) ∧ Ch (fun _ => False) w w' := by
  induction n using Nat.strongRecOn with
  | ind n ih =>
    intro hn w
    by_cases h : n < 10
    · have hd : Lib.decDigits n = [UInt8.ofNat (48 + n)] := Lib.decDigits_one h
      rw [hd]
      clear ih hd hn
      have : n = 0 ∨ n = 1 ∨ n = 2 ∨ n = 3 ∨ n = 4 ∨ n = 5 ∨ n = 6 ∨ n = 7 ∨ n = 8 ∨ n = 9 := by omega
      rcases this with rfl | rfl | rfl | rfl | rfl | rfl | rfl | rfl | rfl | rfl
      · have hconv : (convert 143 9 (.slice (some ⟨w.heap.size, 0, none⟩) 1 1)).run Tryz.prog (w.alloc (.cells #[.int .u8 48] 5)) = .ok (.string ⟨#[48]⟩) (w.alloc (.cells #[.int .u8 48] 5)) := conv_one w 48
        go_enter Tryz.func29, Tryz.ntmps29
        go_wp2
        go_ret
        exact ⟨rfl, Ch.grown (World.grownBy_alloc _ _ none) (by simp)⟩
      · have hconv : (convert 143 9 (.slice (some ⟨w.heap.size, 0, none⟩) 1 1)).run Tryz.prog (w.alloc (.cells #[.int .u8 49] 5)) = .ok (.string ⟨#[49]⟩) (w.alloc (.cells #[.int .u8 49] 5)) := conv_one w 49
        go_enter Tryz.func29, Tryz.ntmps29
        go_wp2
        go_ret
        exact ⟨rfl, Ch.grown (World.grownBy_alloc _ _ none) (by simp)⟩
      · have hconv : (convert 143 9 (.slice (some ⟨w.heap.size, 0, none⟩) 1 1)).run Tryz.prog (w.alloc (.cells #[.int .u8 50] 5)) = .ok (.string ⟨#[50]⟩) (w.alloc (.cells #[.int .u8 50] 5)) := conv_one w 50
        go_enter Tryz.func29, Tryz.ntmps29
        go_wp2
        go_ret
        exact ⟨rfl, Ch.grown (World.grownBy_alloc _ _ none) (by simp)⟩
      · have hconv : (convert 143 9 (.slice (some ⟨w.heap.size, 0, none⟩) 1 1)).run Tryz.prog (w.alloc (.cells #[.int .u8 51] 5)) = .ok (.string ⟨#[51]⟩) (w.alloc (.cells #[.int .u8 51] 5)) := conv_one w 51
        go_enter Tryz.func29, Tryz.ntmps29
        go_wp2
        go_ret
        exact ⟨rfl, Ch.grown (World.grownBy_alloc _ _ none) (by simp)⟩
      · have hconv : (convert 143 9 (.slice (some ⟨w.heap.size, 0, none⟩) 1 1)).run Tryz.prog (w.alloc (.cells #[.int .u8 52] 5)) = .ok (.string ⟨#[52]⟩) (w.alloc (.cells #[.int .u8 52] 5)) := conv_one w 52
        go_enter Tryz.func29, Tryz.ntmps29
        go_wp2
        go_ret
        exact ⟨rfl, Ch.grown (World.grownBy_alloc _ _ none) (by simp)⟩
      · have hconv : (convert 143 9 (.slice (some ⟨w.heap.size, 0, none⟩) 1 1)).run Tryz.prog (w.alloc (.cells #[.int .u8 53] 5)) = .ok (.string ⟨#[53]⟩) (w.alloc (.cells #[.int .u8 53] 5)) := conv_one w 53
        go_enter Tryz.func29, Tryz.ntmps29
        go_wp2
        go_ret
        exact ⟨rfl, Ch.grown (World.grownBy_alloc _ _ none) (by simp)⟩
      · have hconv : (convert 143 9 (.slice (some ⟨w.heap.size, 0, none⟩) 1 1)).run Tryz.prog (w.alloc (.cells #[.int .u8 54] 5)) = .ok (.string ⟨#[54]⟩) (w.alloc (.cells #[.int .u8 54] 5)) := conv_one w 54
        go_enter Tryz.func29, Tryz.ntmps29
        go_wp2
        go_ret
        exact ⟨rfl, Ch.grown (World.grownBy_alloc _ _ none) (by simp)⟩
      · have hconv : (convert 143 9 (.slice (some ⟨w.heap.size, 0, none⟩) 1 1)).run Tryz.prog (w.alloc (.cells #[.int .u8 55] 5)) = .ok (.string ⟨#[55]⟩) (w.alloc (.cells #[.int .u8 55] 5)) := conv_one w 55
        go_enter Tryz.func29, Tryz.ntmps29
        go_wp2
        go_ret
        exact ⟨rfl, Ch.grown (World.grownBy_alloc _ _ none) (by simp)⟩
      · have hconv : (convert 143 9 (.slice (some ⟨w.heap.size, 0, none⟩) 1 1)).run Tryz.prog (w.alloc (.cells #[.int .u8 56] 5)) = .ok (.string ⟨#[56]⟩) (w.alloc (.cells #[.int .u8 56] 5)) := conv_one w 56
        go_enter Tryz.func29, Tryz.ntmps29
        go_wp2
        go_ret
        exact ⟨rfl, Ch.grown (World.grownBy_alloc _ _ none) (by simp)⟩
      · have hconv : (convert 143 9 (.slice (some ⟨w.heap.size, 0, none⟩) 1 1)).run Tryz.prog (w.alloc (.cells #[.int .u8 57] 5)) = .ok (.string ⟨#[57]⟩) (w.alloc (.cells #[.int .u8 57] 5)) := conv_one w 57
        go_enter Tryz.func29, Tryz.ntmps29
        go_wp2
        go_ret
        exact ⟨rfl, Ch.grown (World.grownBy_alloc _ _ none) (by simp)⟩
    · have hd : Lib.decDigits n = Lib.decDigits (n / 10) ++ [UInt8.ofNat (48 + n % 10)] := by
        rw [Lib.decDigits, dif_neg h]
      have hd2 : Lib.decDigits (n % 10) = [UInt8.ofNat (48 + n % 10)] := Lib.decDigits_one (by omega)
      have ih1 := ih (n / 10) (by omega) (by omega)
      have ih2 := ih (n % 10) (by omega) (by omega)
      rw [hd]
      rw [hd2] at ih2
      have H1 := Lib.hid ih1
      have H2 := Lib.hid ih2
      have e1 : ((n : Int) / 10) = ((n / 10 : Nat) : Int) := by omega
      have e2 : ((n : Int) % 10) = ((n % 10 : Nat) : Int) := by omega
      have E1 := Lib.hid e1
      have E2 := Lib.hid e2
      have l1 : (Lib.decDigits (n / 10)).length ≤ 20 := dec_len 19 _ (Nat.lt_of_lt_of_le (show n / 10 < 18446744073709551616 by omega) (by decide))
      have l2 : [UInt8.ofNat (48 + n % 10)].length ≤ 20 := by simp
      clear ih ih1 ih2 hd hd2 e1 e2
      generalize [UInt8.ofNat (48 + n % 10)] = L2 at *
      generalize Lib.decDigits (n / 10) = L1 at *
      go_enter Tryz.func29, Tryz.ntmps29
      go_wp2_with fail
      rw [E1.out]
      go_at_call 29
      refine (H1.out w).mono ?_
      rintro e w1 ⟨rfl, hc1⟩
      have HC1 := Lib.hid hc1
      clear hc1
      go_wp2_with fail
      rw [E2.out]
      go_at_call 29
      refine (H2.out w1).mono ?_
      rintro e w2 ⟨rfl, hc2⟩
      have HC2 := Lib.hid (HC1.out.trans hc2)
      clear hc2
      have s1 : (ByteArray.mk L1.toArray).size ≤ 20 := l1
      have s2 : (ByteArray.mk L2.toArray).size ≤ 20 := l2
      go_wp2
      go_ret
      exact ⟨by rw [← bytes_cat]; rfl, HC2.out⟩

end Go.Proofs.YtimonhimfioohaaGreatDoor
