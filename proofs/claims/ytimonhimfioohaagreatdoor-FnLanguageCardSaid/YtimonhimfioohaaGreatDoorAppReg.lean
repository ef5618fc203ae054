/- Regions that append to an older row; a copy of a list of numbers. -/
import Derived.Test.YtimonhimfioohaaGreatDoorMem2
import Derived.Test.YtimonhimfioohaaGreatDoorMedia
import Derived.Test.YtimonhimfioohaaGreatDoorSource
import Derived.Test.YtimonhimfioohaaGreatDoorAppended
import Derived.Test.YtimonhimfioohaaGreatDoorReg8
namespace Go.Proofs.YtimonhimfioohaaGreatDoor
open Go.RowKit

/-- The world of a region that appends to an older row. -/
def appR (L e size n : Nat) (v : Value) (xs : List Value) (IA : Nat) (W0 : World) (f : Nat → Bool) (W : World) : Prop := Ch (fun j => v.ownBlock = some j) W0 W ∧ (f IA = true ∨ W.ownsRow L e size v n xs)
theorem appR_step {L e size n IA i : Nat} {v : Value} {xs : List Value} {W0 W W' : World} {f : Nat → Bool} (_hi : i ≠ IA) (hc : Ch (fun _ => False) W W') (h : appR L e size n v xs IA W0 f W) : appR L e size n v xs IA W0 (upd f i) W' :=
  ⟨h.1.trans (hc.mono (fun _ h => h.elim)), h.2.elim (fun h => .inl (by unfold upd; split <;> first | rfl | exact h)) (fun h => .inr (own_ch h hc))⟩
theorem appR_app {L e size n IA : Nat} {v : Value} {xs : List Value} {W0 W W' : World} {f : Nat → Bool} (hc : Ch (fun j => v.ownBlock = some j) W W') (h : appR L e size n v xs IA W0 f W) : appR L e size n v xs IA W0 (upd f IA) W' :=
  ⟨h.1.trans hc, .inl (by simp [upd])⟩
theorem own_not {w : World} {b e size n j T : Nat} {v : Value} {xs : List Value} {cs : Array Value} {fr : Nat × Nat} (h : w.ownsRow b e size v n xs) (hb : w.heap[j]? = some (.cells cs T fr)) (hT : T ≠ e) : v.ownBlock ≠ some j := fun hj => hT (own_type h hj hb)

theorem own_slice {w : World} {b e size n : Nat} {v : Value} {xs : List Value} (h : w.ownsRow b e size v n xs) : ∃ S c, v = .slice S n c := by
  rcases h.2 with ⟨rfl, rfl⟩ | ⟨g, cap, cur, rfl, _⟩
  · exact ⟨none, 0, rfl⟩
  · exact ⟨_, _, rfl⟩
theorem own_form {w : World} {b e size n : Nat} {v : Value} {xs : List Value} (h : w.ownsRow b e size v (n + 1) xs) : ∃ g c, v = .slice (some ⟨g, 0, none⟩) (n + 1) c := by
  rcases h.2 with ⟨rfl, h0⟩ | ⟨g, cap, cur, rfl, _⟩
  · omega
  · exact ⟨_, _, rfl⟩

def intC (n : Int) : List Value := [.int .i64 n]
theorem intC_one (p : Int) : ∀ u ∈ intC p, u.oneCell' = true := by
  intro u hu
  simp only [intC, List.mem_cons, List.not_mem_nil, or_false] at hu
  subst hu
  rfl
theorem Els.ints {w : World} {A : Option Addr} {n : Nat} (h : Els w 1 isInt A n) : ∃ l : List Int, l.length = n ∧ Lst w 1 intC A l := Els.list (h.mono fun _ ⟨s, h⟩ => ⟨s, h⟩)
theorem info2_c : (Tryz.prog.info? 2).map (fun i => (i.zero, i.size, i.bytes)) = some (some (.int .i64 0), 1, 8) := by kernel_rfl

set_option maxRecDepth 100000 in
set_option maxHeartbeats 1600000 in
theorem cloneInts_any {A : Option Addr} {n c : Nat} {w : World} (hn : n ≤ 2147483647) (h : Els w 1 isInt A n) : Calls Tryz.prog 96 #[.slice A n c] w fun e w' => ∃ S m d, e = .returned (.slice S m d) ∧ Ch (fun _ => False) w w' := by
  obtain ⟨l, rfl, hl⟩ := h.ints
  have q197 : ∀ (w : World) (a : Option Addr) (n c n' c' : Nat), (binOp .eql 197 (.slice a n c) (.slice none n' c')).run Tryz.prog w = .ok (.bool a.isNone) w := fun w a n c n' c' => Lib.run_eql_slice_nil w _ _ a n c n' c' Tryz.underlying197
  cases A with
  | none =>
    have h0 : l = [] := by
      cases l with
      | nil => rfl
      | cons a l => obtain ⟨b, o, he, _⟩ := hl 0 a rfl; cases he
    subst h0
    go_enter Tryz.func96, Tryz.ntmps96
    go_wp2
    refine bodyPost_ret (v := .slice none 0 0) (by simp [results, Tryz.results96]) rfl ?_
    exact ⟨_, _, _, rfl, Ch.refl _ _⟩
  | some a =>
    obtain ⟨i0, hi0, hz0, hz1, hz2⟩ := info_parts info2_c
    have hcE : Ch (fun _ => False) w (w.alloc (.cells #[] 2)) := Ch.grown (World.grownBy_alloc _ _ none) (by simp)
    have HC := Lib.hid hcE
    have HL := Lib.hid (hl.ch hcE)
    have HO := Lib.hid (show (w.alloc (.cells #[] 2)).ownsRow w.heap.size 2 1 (.slice (some ⟨w.heap.size, 0, none⟩) 0 0) 0 [] from ⟨rfl, .inr ⟨_, 0, #[], rfl, Nat.le_refl _, heap_alloc_new _ _, Nat.le_refl _, by decide, rfl, rfl⟩⟩)
    have HS := Lib.hid hcE.size
    clear hl h hcE
    go_enter Tryz.func96, Tryz.ntmps96
    go_wp2_with (at_builtin; refine wpList_append_lst rfl (.tmp 5) (.tmp 6) 197 rfl w.heap.size 2 i0 _ 1 8 Tryz.underlying197 hi0 hz0 hz1 hz2 rfl (by decide) (.slice (some ⟨w.heap.size, 0, none⟩) 0 0) 0 [] rfl HO.out intC (fun _ => rfl) intC_one (some a) c l rfl HL.out (by unfold maxLen; omega) (by omega) HS.out ?_; intro v1 W1 hown1 hgrow1; have HO1 := Lib.hid hown1; have HC1 := Lib.hid (HC.out.old hgrow1 (fun k hk => .inl (HO.out.lt k hk).1)); clear hown1 hgrow1)
    obtain ⟨S, d, hv, _, _⟩ := Lst.of_own (f := intC) (l := l) (n := 0 + l.length) (fun _ => rfl) (by simpa using HO1.out) (by omega)
    subst hv
    refine bodyPost_ret (v := .slice S (0 + l.length) d) (by simp [results, Tryz.results96]) rfl ?_
    exact ⟨_, _, _, rfl, HC1.out⟩
end Go.Proofs.YtimonhimfioohaaGreatDoor
