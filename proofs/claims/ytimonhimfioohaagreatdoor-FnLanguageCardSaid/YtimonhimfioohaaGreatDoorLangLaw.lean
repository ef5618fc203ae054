/- The language of descriptions: the states of the reference and those of the parser take the same types, where it is told. -/
namespace Go.Proofs.YtimonhimfioohaaGreatDoor

/-- The place of a letter in an order, as spec.next finds it: to is above the state, or the same one for b and a. -/
def atF (s : Nat) (c : UInt8) (from_ : Nat) : List UInt8 → Nat → Option Nat
  | [], _ => none
  | x :: l, to => if x == c && (decide (s < to) || (to == s && (c == 98 || c == 97))) && decide (from_ ≤ s) then some to else atF s c from_ l (to + 1)

/-- spec.next. -/
def nextS (s : Nat) (c : UInt8) : Option Nat :=
  if s < 3 then atF s c 0 ([[118], [111], [115]].getD s []) (s + 1)
  else if s < 10 && c == 116 then some 10
  else if s < 10 then atF s c 3 [105, 117, 101, 112, 99, 98] 4
  else if s == 10 && (c == 116 || c == 114) then some 10
  else if c == 109 then some 14
  else if s < 14 then atF s c 10 [122, 107, 97] 11
  else atF s c 14 [105, 99, 98, 107, 97] 15

/-- spec.state. -/
def runS : Nat → List UInt8 → Option Nat
  | s, [] => some s
  | s, c :: l => match nextS s c with
    | none => none
    | some s' => runS s' l
def acceptsS (l : List UInt8) : Bool := match runS 0 l with
  | none => false
  | some s => decide (10 ≤ s)

/-- The parser's states. -/
def nextP : Nat → UInt8 → Option Nat
  | 1, c => if c == 118 then some 2 else none
  | 2, c => if c == 111 then some 3 else none
  | 3, c => if c == 115 then some 4 else none
  | 4, c => if c == 105 then some 7 else if c == 117 then some 10 else if c == 101 then some 6 else if c == 112 then some 8 else if c == 99 then some 5 else if c == 98 then some 5 else if c == 116 then some 9 else none
  | 5, c => if c == 98 then some 5 else if c == 116 then some 9 else none
  | 6, c => if c == 112 then some 8 else if c == 99 then some 5 else if c == 98 then some 5 else if c == 116 then some 9 else none
  | 7, c => if c == 117 then some 10 else if c == 101 then some 6 else if c == 112 then some 8 else if c == 99 then some 5 else if c == 98 then some 5 else if c == 116 then some 9 else none
  | 8, c => if c == 99 then some 5 else if c == 98 then some 5 else if c == 116 then some 9 else none
  | 9, c => if c == 122 then some 13 else if c == 107 then some 11 else if c == 97 then some 11 else if c == 114 then some 9 else if c == 116 then some 9 else if c == 109 then some 12 else none
  | 10, c => if c == 101 then some 6 else if c == 112 then some 8 else if c == 99 then some 5 else if c == 98 then some 5 else if c == 116 then some 9 else none
  | 11, c => if c == 97 then some 11 else if c == 109 then some 12 else none
  | 13, c => if c == 97 then some 11 else if c == 107 then some 11 else if c == 109 then some 12 else none
  | _, c => if c == 97 then some 14 else if c == 107 then some 14 else if c == 98 then some 15 else if c == 99 then some 15 else if c == 105 then some 16 else if c == 109 then some 12 else none
def runP : Nat → List UInt8 → Option Nat
  | s, [] => some s
  | s, c :: l => match nextP s c with
    | none => none
    | some s' => runP s' l

def mapS (s : Nat) : Nat := [1, 2, 3, 4, 7, 10, 6, 8, 5, 5, 9, 13, 11, 11, 12, 16, 15, 15, 14, 14].getD s 0
def lateL (c : UInt8) : Bool := c == 105 || c == 99 || c == 98 || c == 107 || c == 97

def check1 (s : Nat) (c : UInt8) : Bool := match nextS s c with
  | some s' => nextP (mapS s) c == some (mapS s') && decide (s' < 20) && (decide (s' < 14) || (decide (14 ≤ s) || c == 109))
  | none => (lateL c && decide (14 ≤ s)) || (nextP (mapS s) c).isNone
theorem check_all : ∀ s, s < 20 → ∀ c : Fin 256, check1 s (UInt8.ofNat c.val) = true := by decide +kernel
theorem check_at {s : Nat} (hs : s < 20) (c : UInt8) : check1 s c = true := by
  have h := check_all s hs ⟨c.toNat, c.toNat_lt⟩
  simpa using h

/-- spec.Told tells so at most of such types. -/
def toldS (l : List UInt8) : Prop := acceptsS l = true ∨ ∃ a c b s, l = a ++ c :: b ∧ runS 0 a = some s ∧ nextS s c = none ∧ (c = 109 ∨ (∀ x ∈ a, x ≠ 109) ∨ lateL c = false)

theorem run_ok : ∀ (l : List UInt8) (s s' : Nat), s < 20 → runS s l = some s' → runP (mapS s) l = some (mapS s') ∧ s' < 20 ∧ ((∀ x ∈ l, x ≠ 109) → s < 14 → s' < 14)
  | [], s, s', hs, h => by
    obtain rfl : s = s' := by simpa [runS] using h
    exact ⟨rfl, hs, fun _ h => h⟩
  | c :: l, s, s', hs, h => by
    have hc := check_at hs c
    simp only [runS] at h
    cases hn : nextS s c with
    | none => rw [hn] at h; cases h
    | some t =>
      rw [hn] at h
      unfold check1 at hc
      rw [hn] at hc
      simp only [Bool.and_eq_true, beq_iff_eq, decide_eq_true_eq, Bool.or_eq_true] at hc
      obtain ⟨⟨h1, h2⟩, h3⟩ := hc
      obtain ⟨h4, h5, h6⟩ := run_ok l t s' h2 h
      refine ⟨by simp only [runP]; rw [h1]; exact h4, h5, fun hx h14 => h6 (fun x hx' => hx x (List.mem_cons_of_mem _ hx')) ?_⟩
      have := hx c List.mem_cons_self
      rcases h3 with h3 | h3 | h3
      · exact h3
      · omega
      · exact absurd h3 this
theorem runP_app : ∀ (a l : List UInt8) (s s' : Nat), runP s a = some s' → runP s (a ++ l) = runP s' l
  | [], l, s, s', h => by
    obtain rfl : s = s' := by simpa [runP] using h
    rfl
  | c :: a, l, s, s', h => by
    simp only [runP, List.cons_append] at h ⊢
    cases hn : nextP s c with
    | none => rw [hn] at h; cases h
    | some t => rw [hn] at h; exact runP_app a l t s' h
theorem runS_app : ∀ (a l : List UInt8) (s s' : Nat), runS s a = some s' → runS s (a ++ l) = runS s' l
  | [], l, s, s', h => by
    obtain rfl : s = s' := by simpa [runS] using h
    rfl
  | c :: a, l, s, s', h => by
    simp only [runS, List.cons_append] at h ⊢
    cases hn : nextS s c with
    | none => rw [hn] at h; cases h
    | some t => rw [hn] at h; exact runS_app a l t s' h

/-- Where it is told, the parser takes just the types that make a description. -/
theorem told_law {l : List UInt8} (h : toldS l) : (runP 1 l).isSome = acceptsS l := by
  rcases h with h | ⟨a, c, b, s, rfl, ha, hn, hc⟩
  · rw [h]
    unfold acceptsS at h
    cases hr : runS 0 l with
    | none => rw [hr] at h; cases h
    | some s => rw [show (1 : Nat) = mapS 0 from rfl, (run_ok l 0 s (by omega) hr).1]; rfl
  · obtain ⟨h1, h2, h3⟩ := run_ok a 0 s (by omega) ha
    have e1 : runP 1 (a ++ c :: b) = runP (mapS s) (c :: b) := runP_app a _ 1 _ h1
    have e2 : runS 0 (a ++ c :: b) = runS s (c :: b) := runS_app a _ 0 _ ha
    have hk := check_at h2 c
    unfold check1 at hk
    rw [hn] at hk
    have hnp : nextP (mapS s) c = none := by
      simp only [Bool.or_eq_true, Bool.and_eq_true, decide_eq_true_eq, Option.isNone_iff_eq_none] at hk
      rcases hk with ⟨hl, h14⟩ | hk
      · rcases hc with hc | hc | hc
        · subst hc
          exact absurd hl (by decide)
        · have := h3 hc (by omega)
          omega
        · rw [hc] at hl
          cases hl
      · exact hk
    unfold acceptsS
    rw [e1, e2]
    simp only [runP, runS, hn, hnp]
    rfl
end Go.Proofs.YtimonhimfioohaaGreatDoor
