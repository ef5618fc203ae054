/- strconv.FormatUint at base 10. -/
import Derived.Test.YtimonhimfioohaaGreatDoorPort
import Derived.Lib.AppendIntMem
namespace Go.Proofs.YtimonhimfioohaaGreatDoor
open Go.RowKit Go.Sort

theorem Ch.more (w : World) (os : Array Obj) : Ch (fun _ => False) w (Sort.grow w os) :=
  ⟨rfl, rfl, rfl, by simp [Sort.grow], fun k hk _ => by simp [Sort.grow, Array.getElem?_append_left hk]⟩
theorem Ch.drewN {S : Nat → Prop} {a w : World} (h : Ch S a w) (n : Nat) : Ch S a (w.drewN n) := h.of_heap rfl rfl rfl rfl

set_option maxRecDepth 100000 in
set_option maxHeartbeats 4000000 in
theorem innerFormatUint (u : Nat) (hu64 : u < 18446744073709551616) (w : World) (htab : Lib.TabIs Tryz.prog w "internal/strconv.uint64pow10" .u64 Lib.pow10Tab) :
    Calls Tryz.prog 138 #[.int .u64 u, .int .i64 10] w fun e w' => e = .returned (.string ⟨(Lib.decDigits u).toArray⟩) ∧ Ch (fun _ => False) w w' := by
  have HU := Lib.hid hu64
  by_cases hs : u < 100
  · clear htab
    go_enter Tryz.func138, Tryz.ntmps138
    go_wp2_with (go_at_call 159; refine (Tryz.internal_strconv_small u hs _).mono ?_; rintro e w' ⟨rfl, rfl⟩)
    go_ret
    exact ⟨rfl, Ch.refl _ _⟩
  · have hu1 : 1 ≤ u := by omega
    have hnd20 : Lib.nDigits u ≤ 20 := by have := Lib.numDigits_eq u hu1 hu64; split at this <;> omega
    have hal : Tryz.prog.arrayLen 280 = 24 := by simp [Program.arrayLen, Tryz.underlying280]
    have hb24 : Lib.nDigits u ≤ 24 := by omega
    have hsl1 : ∀ W, (Instr.sliceAt 280 (.pointer (some ⟨w.heap.size, 0, none⟩)) none (some (.int .i64 (Lib.nDigits u : Int))) none).run Tryz.prog W = .ok (.slice (some ⟨w.heap.size, 0, none⟩) (Lib.nDigits u) 24) W := fun W => by
      rw [run_sliceAt_array_h W 280 ⟨w.heap.size, 0, none⟩ (by simp [Program.arrayLen, Program.elem, Tryz.underlying280]) .i64 (Lib.nDigits u : Int) (by omega) (by rw [hal]; omega)]
      go_simp
    have hH0 := Lib.holds_zero0 w 280 (Lib.nDigits u) hb24
    have hfmt := Tryz.internal_strconv_formatBase10 w.heap.size 0 24 u (Array.replicate (Lib.nDigits u) 0) (w.alloc (.cells Lib.zeros24 280)) hH0 (by rw [Array.size_replicate]; exact Lib.lt_pow_nDigits u) hu64 (by rw [Array.size_replicate]; omega)
    rw [Array.size_replicate] at hfmt
    have HH0 := Lib.hid hH0
    have HF := Lib.hid hfmt
    have h1 := hu1
    clear hH0 hal hfmt hu64
    have hnd := fun (W : World) (ht : Lib.TabIs Tryz.prog W "internal/strconv.uint64pow10" .u64 Lib.pow10Tab) => Tryz.internal_strconv_numDigits u hu1 HU.out W ht
    have HN := Lib.hid hnd
    have HT := Lib.hid (Lib.tabIs_alloc htab (.cells Lib.zeros24 280))
    clear hnd htab
    go_enter Tryz.func138, Tryz.ntmps138
    go_wp2_with (go_at_call 160; refine (HN.out _ HT.out).mono ?_; rintro e w' ⟨rfl, rfl⟩)
    refine HF.out.mono ?_
    rintro e w' ⟨rfl, k, v', dk, rfl, hF⟩
    have hcv : (convert 143 9 (.slice (some ⟨w.heap.size, 0, none⟩) (Lib.nDigits u) 24)).run Tryz.prog ((putRow (fun (b : UInt8) => Value.int .u8 (b.toNat : Int)) (w.alloc (.cells Lib.zeros24 280)) w.heap.size 0 dk).drewN k) = .ok (.string ⟨(Lib.decDigits u).toArray⟩) ((putRow (fun (b : UInt8) => Value.int .u8 (b.toNat : Int)) (w.alloc (.cells Lib.zeros24 280)) w.heap.size 0 dk).drewN k) := by
      have h := run_convert_bytes_back (P := Tryz.prog) ((putRow (fun (b : UInt8) => Value.int .u8 (b.toNat : Int)) (w.alloc (.cells Lib.zeros24 280)) w.heap.size 0 dk).drewN k) 143 9 5 ⟨w.heap.size, 0, none⟩ 24 (Lib.decDigits u) Tryz.underlying143 Tryz.underlying5 Tryz.underlying9 (fun j hj => by
        rw [Lib.row_is_numeral hF j hj, Lib.add_plain, World.cell?_drewN]
        exact cell?_putRow (fun (b : UInt8) => Value.int .u8 (b.toNat : Int)) _ w.heap.size 0 _ dk HH0.out (by rw [hF.size, Array.size_replicate]) j (by rw [hF.size]; rw [Lib.decDigits_length] at hj; exact hj))
      rw [Lib.decDigits_length] at h
      exact h
    have hc : Ch (fun _ => False) w ((putRow (fun (b : UInt8) => Value.int .u8 (b.toNat : Int)) (w.alloc (.cells Lib.zeros24 280)) w.heap.size 0 dk).drewN k) := by
      obtain ⟨os', _, e⟩ := putRow_grow_new (fun (b : UInt8) => Value.int .u8 (b.toNat : Int)) w #[.cells Lib.zeros24 280] w.heap.size 0 dk (Nat.le_refl _)
      rw [alloc_eq_grow, e]
      exact (Ch.more w os').drewN k
    have HC := Lib.hid hc
    clear hc hF
    go_wp2
    go_ret
    exact ⟨rfl, HC.out⟩

theorem formatUint_any (u : Nat) (hu64 : u < 18446744073709551616) (w : World) (htab : Lib.TabIs Tryz.prog w "internal/strconv.uint64pow10" .u64 Lib.pow10Tab) :
    Calls Tryz.prog 110 #[.int .u64 u, .int .i64 10] w fun e w' => e = .returned (.string ⟨(Lib.decDigits u).toArray⟩) ∧ Ch (fun _ => False) w w' := by
  have HU := Lib.hid hu64
  have HT := Lib.hid htab
  clear hu64 htab
  go_enter Tryz.func110, Tryz.ntmps110
  go_wp2_with (go_at_call 138; refine (innerFormatUint u HU.out _ HT.out).mono ?_; rintro e w1 ⟨rfl, hc⟩; have HC := Lib.hid hc; clear hc)
  go_ret
  exact ⟨rfl, HC.out⟩

end Go.Proofs.YtimonhimfioohaaGreatDoor
