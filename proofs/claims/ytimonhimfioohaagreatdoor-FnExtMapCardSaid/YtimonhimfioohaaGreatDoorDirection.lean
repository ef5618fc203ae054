/- FnDirection's walk. -/
import Derived.Test.YtimonhimfioohaaGreatDoorWorks
namespace Go.Proofs.YtimonhimfioohaaGreatDoor
open Go.RowKit

/-- The four directions' texts. -/
def directionText : Int → ByteArray := fun d => if d = 1 then ⟨#[115, 101, 110, 100, 114, 101, 99, 118]⟩ else if d = 2 then ⟨#[115, 101, 110, 100, 111, 110, 108, 121]⟩ else if d = 3 then ⟨#[114, 101, 99, 118, 111, 110, 108, 121]⟩ else ⟨#[105, 110, 97, 99, 116, 105, 118, 101]⟩

theorem newDirection_1 (w : World) : Calls Tryz.prog 58 #[.string ⟨#[115, 101, 110, 100, 114, 101, 99, 118]⟩] w fun e w' => e = .returned (.tuple #[.int .i64 1, .nilIface]) ∧ w = w' := by
  go_enter Tryz.func58, Tryz.ntmps58
  go_wp2
  go_ret2
  exact ⟨rfl, rfl⟩
theorem newDirection_2 (w : World) : Calls Tryz.prog 58 #[.string ⟨#[115, 101, 110, 100, 111, 110, 108, 121]⟩] w fun e w' => e = .returned (.tuple #[.int .i64 2, .nilIface]) ∧ w = w' := by
  go_enter Tryz.func58, Tryz.ntmps58
  go_wp2
  go_ret2
  exact ⟨rfl, rfl⟩
theorem newDirection_3 (w : World) : Calls Tryz.prog 58 #[.string ⟨#[114, 101, 99, 118, 111, 110, 108, 121]⟩] w fun e w' => e = .returned (.tuple #[.int .i64 3, .nilIface]) ∧ w = w' := by
  go_enter Tryz.func58, Tryz.ntmps58
  go_wp2
  go_ret2
  exact ⟨rfl, rfl⟩
theorem newDirection_4 (w : World) : Calls Tryz.prog 58 #[.string ⟨#[105, 110, 97, 99, 116, 105, 118, 101]⟩] w fun e w' => e = .returned (.tuple #[.int .i64 4, .nilIface]) ∧ w = w' := by
  go_enter Tryz.func58, Tryz.ntmps58
  go_wp2
  go_ret2
  exact ⟨rfl, rfl⟩
theorem newDirection_ok {d : Int} (h1 : 1 ≤ d) (h4 : d ≤ 4) (w : World) : Calls Tryz.prog 58 #[.string (directionText d)] w fun e w' => e = .returned (.tuple #[.int .i64 d, .nilIface]) ∧ w = w' := by
  have : d = 1 ∨ d = 2 ∨ d = 3 ∨ d = 4 := by omega
  rcases this with rfl | rfl | rfl | rfl
  · exact newDirection_1 w
  · exact newDirection_2 w
  · exact newDirection_3 w
  · exact newDirection_4 w

theorem directionString_1 (w : World) : Calls Tryz.prog 59 #[.int .i64 1] w fun e w' => e = .returned (.string ⟨#[115, 101, 110, 100, 114, 101, 99, 118]⟩) ∧ w = w' := by
  go_enter Tryz.func59, Tryz.ntmps59
  go_wp2
  go_ret
  exact ⟨rfl, rfl⟩
theorem directionString_2 (w : World) : Calls Tryz.prog 59 #[.int .i64 2] w fun e w' => e = .returned (.string ⟨#[115, 101, 110, 100, 111, 110, 108, 121]⟩) ∧ w = w' := by
  go_enter Tryz.func59, Tryz.ntmps59
  go_wp2
  go_ret
  exact ⟨rfl, rfl⟩
theorem directionString_3 (w : World) : Calls Tryz.prog 59 #[.int .i64 3] w fun e w' => e = .returned (.string ⟨#[114, 101, 99, 118, 111, 110, 108, 121]⟩) ∧ w = w' := by
  go_enter Tryz.func59, Tryz.ntmps59
  go_wp2
  go_ret
  exact ⟨rfl, rfl⟩
theorem directionString_4 (w : World) : Calls Tryz.prog 59 #[.int .i64 4] w fun e w' => e = .returned (.string ⟨#[105, 110, 97, 99, 116, 105, 118, 101]⟩) ∧ w = w' := by
  go_enter Tryz.func59, Tryz.ntmps59
  go_wp2
  go_ret
  exact ⟨rfl, rfl⟩
theorem directionString_ok {d : Int} (h1 : 1 ≤ d) (h4 : d ≤ 4) (w : World) : Calls Tryz.prog 59 #[.int .i64 d] w fun e w' => e = .returned (.string (directionText d)) ∧ w = w' := by
  have : d = 1 ∨ d = 2 ∨ d = 3 ∨ d = 4 := by omega
  rcases this with rfl | rfl | rfl | rfl
  · exact directionString_1 w
  · exact directionString_2 w
  · exact directionString_3 w
  · exact directionString_4 w

theorem parseDirection_ok {d : Int} (h1 : 1 ≤ d) (h4 : d ≤ 4) (w : World) : Calls Tryz.prog 25 #[.string (directionText d)] w fun e w' => e = .returned (.tuple #[.int .i64 d, .bool true]) ∧ Ch (fun _ => False) w w' := by
  go_enter Tryz.func25, Tryz.ntmps25
  go_wp2_with (go_at_call 58; refine (newDirection_ok h1 h4 w).mono ?_; rintro e w1 ⟨rfl, rfl⟩)
  go_region
  go_wp2
  go_ret2
  exact ⟨rfl, (Ch.refl _ _).of_heap rfl rfl rfl rfl⟩

theorem directionText_ok {d : Int} (h1 : 1 ≤ d) (h4 : d ≤ 4) (w : World) : Calls Tryz.prog 26 #[.int .i64 d] w fun e w' => e = .returned (.string (directionText d)) ∧ w = w' := by
  go_enter Tryz.func26, Tryz.ntmps26
  go_wp2_with (go_at_call 59; refine (directionString_ok h1 h4 w).mono ?_; rintro e w1 ⟨rfl, rfl⟩)
  go_ret
  exact ⟨rfl, rfl⟩

theorem fnDirection_1 {ae : Addr} {w : World} (h6 : w.cell? ⟨6, 0, none⟩ = some (.iface 342 (.pointer (some ae)))) (h6l : 6 < w.heap.size) :
    Calls Tryz.prog 7 #[.int .i64 1] w fun e w' => e = .returned (.bool true) ∧ Ch (fun _ => False) w w' := by
  go_enter Tryz.func7, Tryz.ntmps7
  go_wp2_with fail
  go_at_call 25
  refine (parseDirection_ok (d := 1) (by decide) (by decide) _).mono ?_
  rintro e w1 ⟨rfl, hc⟩
  have hc1 := (Ch.grown (World.grownBy_alloc _ _ none) (by simp) : Ch (fun _ => False) w (w.alloc (.cells _ _))).trans hc
  have h6' := hc1.cell h6 id
  have h6l' := Nat.lt_of_lt_of_le h6l hc1.size
  clear hc
  go_wp2_with (first | (go_at_call 26; refine (directionText_ok (d := 1) (by decide) (by decide) w1).mono ?_; rintro e w2 ⟨rfl, rfl⟩; rw [show directionText 1 = ⟨#[115, 101, 110, 100, 114, 101, 99, 118]⟩ from rfl]) | (go_at_call 13; refine (works_true h6' h6l').mono ?_; rintro e w1 ⟨rfl, hc⟩))
  go_ret
  exact ⟨rfl, hc1.trans hc⟩
theorem fnDirection_2 {ae : Addr} {w : World} (h6 : w.cell? ⟨6, 0, none⟩ = some (.iface 342 (.pointer (some ae)))) (h6l : 6 < w.heap.size) :
    Calls Tryz.prog 7 #[.int .i64 2] w fun e w' => e = .returned (.bool true) ∧ Ch (fun _ => False) w w' := by
  go_enter Tryz.func7, Tryz.ntmps7
  go_wp2_with fail
  go_at_call 25
  refine (parseDirection_ok (d := 2) (by decide) (by decide) _).mono ?_
  rintro e w1 ⟨rfl, hc⟩
  have hc1 := (Ch.grown (World.grownBy_alloc _ _ none) (by simp) : Ch (fun _ => False) w (w.alloc (.cells _ _))).trans hc
  have h6' := hc1.cell h6 id
  have h6l' := Nat.lt_of_lt_of_le h6l hc1.size
  clear hc
  go_wp2_with (first | (go_at_call 26; refine (directionText_ok (d := 2) (by decide) (by decide) w1).mono ?_; rintro e w2 ⟨rfl, rfl⟩; rw [show directionText 2 = ⟨#[115, 101, 110, 100, 111, 110, 108, 121]⟩ from rfl]) | (go_at_call 13; refine (works_true h6' h6l').mono ?_; rintro e w1 ⟨rfl, hc⟩))
  go_ret
  exact ⟨rfl, hc1.trans hc⟩
theorem fnDirection_3 {ae : Addr} {w : World} (h6 : w.cell? ⟨6, 0, none⟩ = some (.iface 342 (.pointer (some ae)))) (h6l : 6 < w.heap.size) :
    Calls Tryz.prog 7 #[.int .i64 3] w fun e w' => e = .returned (.bool true) ∧ Ch (fun _ => False) w w' := by
  go_enter Tryz.func7, Tryz.ntmps7
  go_wp2_with fail
  go_at_call 25
  refine (parseDirection_ok (d := 3) (by decide) (by decide) _).mono ?_
  rintro e w1 ⟨rfl, hc⟩
  have hc1 := (Ch.grown (World.grownBy_alloc _ _ none) (by simp) : Ch (fun _ => False) w (w.alloc (.cells _ _))).trans hc
  have h6' := hc1.cell h6 id
  have h6l' := Nat.lt_of_lt_of_le h6l hc1.size
  clear hc
  go_wp2_with (first | (go_at_call 26; refine (directionText_ok (d := 3) (by decide) (by decide) w1).mono ?_; rintro e w2 ⟨rfl, rfl⟩; rw [show directionText 3 = ⟨#[114, 101, 99, 118, 111, 110, 108, 121]⟩ from rfl]) | (go_at_call 13; refine (works_true h6' h6l').mono ?_; rintro e w1 ⟨rfl, hc⟩))
  go_ret
  exact ⟨rfl, hc1.trans hc⟩
theorem fnDirection_4 {ae : Addr} {w : World} (h6 : w.cell? ⟨6, 0, none⟩ = some (.iface 342 (.pointer (some ae)))) (h6l : 6 < w.heap.size) :
    Calls Tryz.prog 7 #[.int .i64 4] w fun e w' => e = .returned (.bool true) ∧ Ch (fun _ => False) w w' := by
  go_enter Tryz.func7, Tryz.ntmps7
  go_wp2_with fail
  go_at_call 25
  refine (parseDirection_ok (d := 4) (by decide) (by decide) _).mono ?_
  rintro e w1 ⟨rfl, hc⟩
  have hc1 := (Ch.grown (World.grownBy_alloc _ _ none) (by simp) : Ch (fun _ => False) w (w.alloc (.cells _ _))).trans hc
  have h6' := hc1.cell h6 id
  have h6l' := Nat.lt_of_lt_of_le h6l hc1.size
  clear hc
  go_wp2_with (first | (go_at_call 26; refine (directionText_ok (d := 4) (by decide) (by decide) w1).mono ?_; rintro e w2 ⟨rfl, rfl⟩; rw [show directionText 4 = ⟨#[105, 110, 97, 99, 116, 105, 118, 101]⟩ from rfl]) | (go_at_call 13; refine (works_true h6' h6l').mono ?_; rintro e w1 ⟨rfl, hc⟩))
  go_ret
  exact ⟨rfl, hc1.trans hc⟩

theorem fnDirection_walk {ae : Addr} {d : Int} {w : World} (h6 : w.cell? ⟨6, 0, none⟩ = some (.iface 342 (.pointer (some ae)))) (h6l : 6 < w.heap.size) :
    Calls Tryz.prog 7 #[.int .i64 d] w fun e w' => e = .returned (.bool true) ∧ Ch (fun _ => False) w w' := by
  by_cases h1 : d < 1
  · go_enter Tryz.func7, Tryz.ntmps7
    go_wp2_with (go_at_call 13; refine (works_true h6 h6l).mono ?_; rintro e w1 ⟨rfl, hc⟩)
    go_ret
    exact ⟨rfl, hc⟩
  by_cases h4 : 4 < d
  · go_enter Tryz.func7, Tryz.ntmps7
    go_wp2_with (go_at_call 13; refine (works_true h6 h6l).mono ?_; rintro e w1 ⟨rfl, hc⟩)
    go_ret
    exact ⟨rfl, hc⟩
  have : d = 1 ∨ d = 2 ∨ d = 3 ∨ d = 4 := by omega
  rcases this with rfl | rfl | rfl | rfl
  · exact fnDirection_1 h6 h6l
  · exact fnDirection_2 h6 h6l
  · exact fnDirection_3 h6 h6l
  · exact fnDirection_4 h6 h6l

end Go.Proofs.YtimonhimfioohaaGreatDoor
