/- spec.Lines at a session of one bandwidth. -/
import Derived.Test.YtimonhimfioohaaGreatDoorBandIn
import Derived.Test.YtimonhimfioohaaGreatDoorReg
namespace Go.Proofs.YtimonhimfioohaaGreatDoor
open Go.RowKit

theorem text_nil (k : ByteArray) (w : World) : Calls Tryz.prog 52 #[.string k, .slice none 0 0] w fun e w' => e = .returned (.slice none 0 0) ∧ w = w' := by
  go_enter Tryz.func52, Tryz.ntmps52
  go_wp2
  refine wp_loop_rounds 1 ?_
  rw [rounds_succ]
  go_wp2
  go_ret
  exact ⟨rfl, rfl⟩
theorem timed_nil (w : World) : Calls Tryz.prog 54 #[.slice none 0 0] w fun e w' => e = .returned (.slice none 0 0) ∧ w = w' := by
  go_enter Tryz.func54, Tryz.ntmps54
  go_wp2
  refine wp_loop_rounds 1 ?_
  rw [rounds_succ]
  go_wp2
  go_ret
  exact ⟨rfl, rfl⟩
theorem marked_nil (w : World) : Calls Tryz.prog 56 #[.slice none 0 0] w fun e w' => e = .returned (.slice none 0 0) ∧ w = w' := by
  go_enter Tryz.func56, Tryz.ntmps56
  go_wp2
  refine wp_loop_rounds 1 ?_
  rw [rounds_succ]
  go_wp2
  go_ret
  exact ⟨rfl, rfl⟩
theorem signed_zero (w : World) : Calls Tryz.prog 51 #[.int .i64 0] w fun e w' => e = .returned (.string ⟨#[48]⟩) ∧ Ch (fun _ => False) w w' := by
  go_enter Tryz.func51, Tryz.ntmps51
  go_wp2_with (go_at_call 29; refine (decimal_ok 0 (by decide) w).mono ?_; rintro e w1 ⟨rfl, hc⟩)
  go_ret
  exact ⟨by rw [Lib.decDigits_one (by decide)]; rfl, hc⟩

/-- A bandwidth's line. -/
def bandLine (x : Bool) (t : ByteArray) (n : Nat) : List UInt8 := 98 :: 61 :: ((if x then [88, 45] else []) ++ (t.data.toList ++ 58 :: Lib.decDigits n))

theorem experimental_any {x : Bool} {t : ByteArray} {n : Int} {w : World} (ht : t.size ≤ 4294967295) :
    Calls Tryz.prog 22 #[.agg #[.bool x, .string t, .int .u64 n]] w fun e w' => Tells (BandOk x t n) e ∧ Ch (fun _ => False) w w' := by
  have hc : Ch (fun _ => False) w ((w.alloc (.cells #[.bool x, .string t, .int .u64 n] 47)).alloc (.cells #[.bool x, .string t, .int .u64 n] 47)) := (Ch.grown (World.grownBy_alloc _ _ none) (by simp)).trans (Ch.grown (World.grownBy_alloc _ _ none) (by simp))
  have hb : ((w.alloc (.cells #[.bool x, .string t, .int .u64 n] 47)).alloc (.cells #[.bool x, .string t, .int .u64 n] 47)).heap[w.heap.size + 1]? = some (.cells #[.bool x, .string t, .int .u64 n] 47 (0, 0)) := by
    have h1 := heap_alloc_new (w.alloc (.cells #[.bool x, .string t, .int .u64 n] 47)) (.cells #[.bool x, .string t, .int .u64 n] 47)
    rw [World.size_alloc] at h1
    exact h1
  go_enter Tryz.func22, Tryz.ntmps22
  go_wp2_with fail
  go_at_call 50
  refine (bandwidths_one ht hb).mono ?_
  rintro e w1 ⟨⟨r, rfl, hr⟩, hc1⟩
  go_wp2
  refine bodyPost_ret (v := .bool r) (by simp [results, Tryz.results22]) rfl ?_
  exact ⟨⟨_, rfl, hr⟩, hc.trans hc1⟩

theorem zzFits9_any {x : Bool} {t : ByteArray} {n : Int} {w : World} :
    Calls Tryz.prog 20 #[.agg #[.bool x, .string t, .int .u64 n]] w fun e w' => e = .returned (.bool (decide (t.size ≤ 2147483647))) ∧ Ch (fun _ => False) w w' := by
  have hc : Ch (fun _ => False) w (w.alloc (.cells #[.bool x, .string t, .int .u64 n] 45)) := Ch.grown (World.grownBy_alloc _ _ none) (by simp)
  by_cases h : t.size ≤ 2147483647
  · rw [decide_eq_true h]
    go_enter Tryz.func20, Tryz.ntmps20
    go_wp2
    go_ret
    exact ⟨rfl, hc⟩
  · rw [decide_eq_false h]
    go_enter Tryz.func20, Tryz.ntmps20
    go_wp2
    go_ret
    exact ⟨rfl, hc⟩

theorem Tryz.info47 : (Tryz.prog.info? 47).map (fun i => (i.zero, i.size, i.bytes)) = some (some (.agg #[.bool false, .string ⟨#[]⟩, .int .u64 0]), 3, 32) := by kernel_rfl

set_option maxRecDepth 100000 in
set_option maxHeartbeats 4000000 in
theorem lawBandwidths_one {x : Bool} {t : ByteArray} {n : Int} {g c : Nat} {w : World} (hg : w.heap[g]? = some (.cells #[.bool x, .string t, .int .u64 n] 45 (0, 0))) :
    Calls Tryz.prog 21 #[.slice (some ⟨g, 0, none⟩) 1 c] w fun e w' => ∃ h cap, e = .returned (.slice (some ⟨h, 0, none⟩) 1 cap) ∧ w'.ownsRow w.heap.size 47 3 (.slice (some ⟨h, 0, none⟩) 1 cap) 1 [.bool x, .string t, .int .u64 n] ∧ Ch (fun _ => False) w w' := by
  have c0 : w.cell? ⟨g, 0, none⟩ = some (.bool x) := blk_cell hg rfl
  have c1 : w.cell? ⟨g, 1, none⟩ = some (.string t) := blk_cell hg rfl
  have c2 : w.cell? ⟨g, 2, none⟩ = some (.int .u64 n) := blk_cell hg rfl
  obtain ⟨i0, hi0, hz0, hz1, hz2⟩ := info_parts Tryz.info47
  have hcx : Ch (fun _ => False) w ((w.alloc (.cells #[.bool x, .string t, .int .u64 n] 45)).alloc (.cells #[.bool x, .string t, .int .u64 n] 47)) := (Ch.grown (World.grownBy_alloc _ _ none) (by simp)).trans (Ch.grown (World.grownBy_alloc _ _ none) (by simp))
  have hb : ((w.alloc (.cells #[.bool x, .string t, .int .u64 n] 45)).alloc (.cells #[.bool x, .string t, .int .u64 n] 47)).heap[w.heap.size + 1]? = some (.cells #[.bool x, .string t, .int .u64 n] 47 (0, 0)) := by
    have h1 := heap_alloc_new (w.alloc (.cells #[.bool x, .string t, .int .u64 n] 45)) (.cells #[.bool x, .string t, .int .u64 n] 47)
    rw [World.size_alloc] at h1
    exact h1
  have HB := Lib.hid hb
  have HCX := Lib.hid hcx
  clear hb hcx
  go_enter Tryz.func21, Tryz.ntmps21
  go_wp2
  refine wp_loop_rounds 2 ?_
  rw [rounds_succ]
  go_wp2_with (at_builtin; refine wpList_append_lies _ rfl (.tmp 12) (.tmp 20) 48 rfl w.heap.size 47 i0 _ 3 32 Tryz.underlying48 hi0 hz0 hz1 hz2 rfl (by decide) (.slice none 0 0) 0 [] rfl (World.ownsRow_nil _ _ _ _) ⟨w.heap.size + 1, 0, none⟩ 1 1 [.bool x, .string t, .int .u64 n] rfl rfl (World.news_of_block HB.out) (by simp [Value.oneCell']) (by decide) (by decide) (by decide) (by simp; omega) _ rfl ?_; intro g1 cap1 W1 hown1 hgrow1 hat1 hlt1; have HO1 := Lib.hid hown1; have HC1 := Lib.hid (HCX.out.trans (Ch.grown (S := fun _ => False) hgrow1 (by simp [Value.ownBlock]))); clear hown1 hgrow1 hat1 hlt1)
  rw [rounds_succ]
  go_wp2
  refine bodyPost_ret (v := .slice (some ⟨g1, 0, none⟩) 1 cap1) (by simp [results, Tryz.results21]) rfl ?_
  exact ⟨g1, cap1, rfl, HO1.out, HC1.out⟩

end Go.Proofs.YtimonhimfioohaaGreatDoor
