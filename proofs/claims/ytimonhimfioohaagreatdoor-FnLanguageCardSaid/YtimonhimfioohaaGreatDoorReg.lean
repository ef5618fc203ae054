/- A region that draws its order, shown by an invariant: each operation once, whatever the order. -/
import Derived.RegionTactic
namespace Go.Proofs.YtimonhimfioohaaGreatDoor
open Go

/-- The operations that must stand ahead of operation i. -/
def depsOf (ops : Array Oper) (i : Nat) : List Nat := ((ops[i]?).map fun o => (o.after.toList.filter (Region.binds .any)).map (·.on)).getD []
/-- The slots that an operation reads. -/
def readsOf (o : Oper) : List Nat := o.op.operands.toList.filterMap fun | .tmp t => some t | _ => none
/-- All that must stand ahead of what is listed in l, among the first k. -/
def aheadOf (ops : Array Oper) : Nat → List Nat → List Nat
  | 0, l => l
  | k + 1, l => aheadOf ops k (if l.contains k then depsOf ops k ++ l else l)

def dstOf (ops : Array Oper) (i : Nat) : Option Nat := (ops[i]?).bind (·.dst)

/-- The region has the form that the law serves. -/
def regOk (ops : Array Oper) (W : List Nat) (m : Nat) : Bool :=
  ops.size == m + 1 &&
  (List.range (m + 1)).all (fun i =>
    ((ops[i]?).map (fun o => o.guard.isNone && (readsOf o).all fun t => !W.contains t || (depsOf ops i).any fun j => dstOf ops j == some t)).getD false &&
    (depsOf ops i).all (fun j => decide (j < i)) &&
    (match dstOf ops i with | none => true | some d => i == m || (W.contains d && (List.range m).all fun j => j == i || !(dstOf ops j == some d)))) &&
  (List.range m).all fun j => (aheadOf ops m (depsOf ops m)).contains j

/-- The frame a with u in the slots W. -/
def frameOf (a : Act) (W : List Nat) (u : Nat → Value) : Act :=
  ⟨((List.range a.tmps.size).map fun k => if W.contains k then u k else a.tmps.getD k undef).toArray, a.defers⟩

theorem frameOf_self (a : Act) (W : List Nat) : frameOf a W (fun k => a.tmps.getD k undef) = a := by
  cases a with
  | mk tmps defers =>
    simp only [frameOf, Act.mk.injEq, and_true]
    apply Array.ext
    · simp
    · intro i h1 h2
      simp only [List.getElem_toArray, List.getElem_map, List.getElem_range]
      split <;> simp

theorem frameOf_put (a : Act) (W : List Nat) (u : Nat → Value) (d : Nat) (v : Value) (hd : W.contains d = true) :
    (frameOf a W u).put (some d) v = frameOf a W (fun k => if k = d then v else u k) := by
  simp only [frameOf, Act.put, Act.mk.injEq, and_true]
  apply Array.ext
  · simp
  · intro i h1 h2
    rw [Array.getElem_setIfInBounds]
    · simp only [List.getElem_toArray, List.getElem_map, List.getElem_range]
      by_cases h : d = i
      · subst h
        have hd' : d ∈ W := by simpa using hd
        simp [hd']
      · have h' : ¬ i = d := fun e => h e.symm
        simp [h, h']
    · simpa using h1

section
variable {P : Program} {ops : Array Oper} {Q : Exit → Act → World → Prop} {md : Region.Mode}

theorem wpAny_inv (J : Array Bool → Act → World → Prop)
    (_hsize : ∀ listed a w, J listed a w → listed.size = ops.size)
    (hstep : ∀ listed a w i, J listed a w → i ∈ Region.ready md ops listed → wpOp P ops Q i (J (listed.setIfInBounds i true)) a w)
    (hend : ∀ listed a w, J listed a w → Region.ready md ops listed = [] → Q .normal a w) :
    ∀ fuel listed a w, J listed a w → listed.toList.countP (fun b => !b) ≤ fuel → wpAny P md ops Q fuel listed a w := by
  intro fuel
  induction fuel with
  | zero =>
    intro listed a w hJ hc
    have hr : Region.ready md ops listed = [] := by
      apply List.eq_nil_iff_forall_not_mem.2
      intro i hi
      obtain ⟨h0, _⟩ := mem_ready.1 hi
      have hlt : i < listed.size := by
        rcases Nat.lt_or_ge i listed.size with h | h
        · exact h
        · rw [Array.getD_eq_getD_getElem?, Array.getElem?_eq_none h] at h0; cases h0
      have h1 : listed[i] = false := by rw [Array.getD_eq_getD_getElem?, Array.getElem?_eq_getElem hlt] at h0; exact h0
      have h2 : 0 < listed.toList.countP (fun b => !b) := List.countP_pos_iff.2 ⟨listed[i], by simp, by rw [h1]; rfl⟩
      omega
    exact ⟨hr, hend _ _ _ hJ hr⟩
  | succ fuel ih =>
    intro listed a w hJ hc
    refine ⟨fun hr => hend _ _ _ hJ hr, fun i hi => ?_⟩
    refine wpOp_mono (fun a' w' hJ' => ih _ _ _ hJ' ?_) (hstep _ _ _ i hJ hi)
    obtain ⟨h0, _⟩ := mem_ready.1 hi
    have hlt : i < listed.size := by
      rcases Nat.lt_or_ge i listed.size with h | h
      · exact h
      · rw [Array.getD_eq_getD_getElem?, Array.getElem?_eq_none h] at h0; cases h0
    have h1 : listed[i] = false := by rw [Array.getD_eq_getD_getElem?, Array.getElem?_eq_getElem hlt] at h0; exact h0
    have h2 : (listed.setIfInBounds i true).toList = listed.toList.set i true := by simp
    rw [h2]
    have hlt' : i < listed.toList.length := by simpa using hlt
    have h3 : listed.toList = listed.toList.take i ++ listed[i] :: listed.toList.drop (i + 1) := by
      have := List.take_append_drop i listed.toList
      rw [List.drop_eq_getElem_cons hlt'] at this
      simpa using this.symm
    have h4 : listed.toList.set i true = listed.toList.take i ++ true :: listed.toList.drop (i + 1) := by rw [List.set_eq_take_append_cons_drop, if_pos hlt']
    rw [h3, h1] at hc
    rw [h4]
    simp only [List.countP_append, List.countP_cons] at hc ⊢
    simp at hc ⊢
    omega

theorem ahead_listed {listed : Nat → Prop} (hdown : ∀ i, listed i → ∀ j ∈ depsOf ops i, listed j) : ∀ (k : Nat) (l : List Nat), (∀ j ∈ l, listed j) → ∀ j ∈ aheadOf ops k l, listed j
  | 0, _, h => h
  | k + 1, l, h => by
    unfold aheadOf
    apply ahead_listed hdown k
    intro j hj
    split at hj
    · rename_i hk
      rcases List.mem_append.1 hj with h1 | h1
      · exact hdown k (h k (by simpa using hk)) j h1
      · exact h j h1
    · exact h j hj
end

theorem deps_spec {ops : Array Oper} {i : Nat} {o : Oper} (ho : ops[i]? = some o) {j : Nat} : j ∈ depsOf ops i ↔ ∃ e ∈ o.after, Region.binds .any e = true ∧ e.on = j := by
  unfold depsOf
  rw [ho]
  simp [List.mem_map, List.mem_filter, and_assoc]

/-- THE LAW: T says what each slot holds once its operation is done, and stays true as the world goes on by R. -/
theorem wp_region_inv {P : Program} {id : Nat} {ops : Array Oper} {Q : Exit → Act → World → Prop} {a : Act} {w : World} (hm : P.follows .mixedOrders = true)
    (W : List Nat) (m : Nat) (hok : regOk ops W m = true) (T : Nat → Value → World → Prop) (R : World → World → Prop) (hRr : ∀ w, R w w) (hRt : ∀ a b c, R a b → R b c → R a c)
    (hT : ∀ d v w w', T d v w → R w w' → T d v w')
    (hbody : ∀ i o, i < m → ops[i]? = some o → ∀ u w', R w.drew w' → (∀ t ∈ readsOf o, W.contains t = true → T t (u t) w') →
      ∀ K : Act → World → Prop, (∀ v w'', (∀ d, o.dst = some d → T d v w'') → R w' w'' → K ((frameOf a W u).put o.dst v) w'') → o.wp P (frameOf a W u) w' K Q)
    (hlast : ∀ o, ops[m]? = some o → ∀ u w', R w.drew w' → (∀ i d, i < m → dstOf ops i = some d → T d (u d) w') → o.wp P (frameOf a W u) w' (Q .normal) Q) :
    (Code.region id ops true).wp P Q a w := by
  simp only [regOk, Bool.and_eq_true, beq_iff_eq, List.all_eq_true, List.mem_range] at hok
  obtain ⟨⟨hsz, hall⟩, hreach⟩ := hok
  refine wp_region_any hm ?_
  let J : Array Bool → Act → World → Prop := fun listed a' w' => listed.size = ops.size ∧
    ((listed.getD m false = true ∧ (∀ i, i < ops.size → listed.getD i false = true) ∧ Q .normal a' w') ∨
     (listed.getD m false = false ∧ (∀ i, listed.getD i false = true → ∀ j ∈ depsOf ops i, listed.getD j false = true) ∧
      ∃ u, a' = frameOf a W u ∧ R w.drew w' ∧ ∀ i d, i < m → dstOf ops i = some d → listed.getD i false = true → T d (u d) w'))
  have hmono : ∀ (listed : Array Bool) (i j : Nat), listed.getD j false = true → (listed.setIfInBounds i true).getD j false = true := fun listed i j h => getD_set_true h
  have hnew : ∀ (listed : Array Bool) (i j : Nat), (listed.setIfInBounds i true).getD j false = true → j = i ∨ listed.getD j false = true := by
    intro listed i j h
    by_cases hij : j = i
    · exact .inl hij
    · right; rw [getD_set_ne false (fun e => hij e.symm)] at h; exact h
  refine wpAny_inv J (fun _ _ _ h => h.1) ?_ ?_ _ _ _ _ ?_ ?_
  · intro listed a' w' i hJ hi
    obtain ⟨h0, o, ho, hdep⟩ := mem_ready.1 hi
    have hilt : i < ops.size := (Array.getElem?_eq_some_iff.1 ho).1
    have hig : listed.getD i false = false := by
      rw [Array.getD_eq_getD_getElem?] at h0 ⊢
      rw [Array.getElem?_eq_getElem (by rw [hJ.1]; exact hilt)] at h0 ⊢
      exact h0
    have hset : (listed.setIfInBounds i true).getD i false = true := by
      rw [Array.getD_eq_getD_getElem?, Array.getElem?_setIfInBounds_self_of_lt (by rw [hJ.1]; exact hilt)]; rfl
    rcases hJ.2 with ⟨_, hl, _⟩ | ⟨hmn, hdown, u, rfl, hR, hTs⟩
    · rw [hl i hilt] at hig; cases hig
    have hi' := hall i (by omega)
    obtain ⟨⟨hA, hB⟩, hC⟩ := hi'
    rw [ho] at hA
    simp only [Option.map_some, Option.getD_some, Bool.and_eq_true, List.all_eq_true, Bool.or_eq_true, Bool.not_eq_true', List.any_eq_true, beq_iff_eq, Option.isNone_iff_eq_none] at hA
    obtain ⟨hgd, hreads⟩ := hA
    have hdepl : ∀ j ∈ depsOf ops i, listed.getD j false = true := by
      intro j hj
      obtain ⟨e, he, hb, rfl⟩ := (deps_spec ho).1 hj
      exact hdep e he hb
    have hdj : ∀ j ∈ depsOf ops i, j < i := fun j hj => by simpa using hB j hj
    have hw : Region.wanted o (yielded ops (frameOf a W u).tmps) = true := by simp [Region.wanted, hgd]
    unfold wpOp
    rw [ho]
    dsimp only
    rw [if_pos hw]
    left
    have hread : ∀ t ∈ readsOf o, W.contains t = true → T t (u t) w' := by
      intro t ht hWt
      rcases hreads t ht with h | ⟨j, hj, hd⟩
      · rw [hWt] at h; cases h
      · exact hTs j t (by have := hdj j hj; omega) hd (hdepl j hj)
    by_cases him : i = m
    · subst him
      have hallL : ∀ j, j < i → listed.getD j false = true := by
        intro j hj
        have h1 := hreach j hj
        exact ahead_listed (listed := fun j => listed.getD j false = true) hdown i (depsOf ops i) hdepl j (by simpa using h1)
      refine Oper.wp_mono (fun a2 w2 hq => ⟨by simp [hJ.1], .inl ⟨hset, fun j hj => ?_, hq⟩⟩) (hlast o ho u w' hR (fun j d hj hd => hTs j d hj hd (hallL j hj)))
      by_cases hji : j = i
      · subst hji; exact hset
      · exact hmono _ _ _ (hallL j (by omega))
    · have him' : i < m := by omega
      refine hbody i o him' ho u w' hR hread _ (fun v w2 hv hR2 => ⟨by simp [hJ.1], .inr ⟨?_, ?_, ?_⟩⟩)
      · rw [getD_set_ne false him]; exact hmn
      · intro k hk j hj
        rcases hnew _ _ _ hk with rfl | hk
        · exact hmono _ _ _ (hdepl j hj)
        · exact hmono _ _ _ (hdown k hk j hj)
      · have hdst : dstOf ops i = o.dst := by simp [dstOf, ho]
        rw [hdst] at hC
        cases hd : o.dst with
        | none =>
          refine ⟨u, rfl, hRt _ _ _ hR hR2, fun j d hj hdj2 hl => ?_⟩
          rcases hnew _ _ _ hl with rfl | hl
          · rw [hdst, hd] at hdj2; cases hdj2
          · exact hT _ _ _ _ (hTs j d hj hdj2 hl) hR2
        | some d0 =>
          rw [hd] at hC
          simp only [Bool.and_eq_true, Bool.or_eq_true, beq_iff_eq, List.all_eq_true, List.mem_range, Bool.not_eq_true', beq_eq_false_iff_ne] at hC
          have hC := hC.resolve_left him
          refine ⟨fun k => if k = d0 then v else u k, frameOf_put a W u d0 v hC.1, hRt _ _ _ hR hR2, fun j d hj hdj2 hl => ?_⟩
          by_cases hji : j = i
          · subst hji
            rw [hdst, hd] at hdj2
            obtain rfl := Option.some.inj hdj2
            simp only [if_true]
            exact hv _ hd
          · have hne : d ≠ d0 := by
              intro e
              subst e
              rcases hC.2 j hj with h' | h'
              · exact hji h'
              · exact h' hdj2
            simp only [if_neg hne]
            rcases hnew _ _ _ hl with h | h
            · exact absurd h hji
            · exact hT _ _ _ _ (hTs j d hj hdj2 h) hR2
  · intro listed a' w' hJ hr
    rcases hJ.2 with ⟨_, _, hq⟩ | ⟨hmn, _⟩
    · exact hq
    · exfalso
      have hlist : ∀ i, i ≤ m → listed.getD i false = true := by
        intro i
        induction i using Nat.strongRecOn with
        | _ i ih =>
          intro him
          refine Classical.byContradiction fun hne => ?_
          have hlt : i < ops.size := by omega
          have hf : listed.getD i true = false := by
            rw [Array.getD_eq_getD_getElem?, Array.getElem?_eq_getElem (by rw [hJ.1]; exact hlt)] at hne ⊢
            simpa using hne
          have hmem : i ∈ Region.ready .any ops listed := by
            refine mem_ready.2 ⟨hf, ops[i], Array.getElem?_eq_getElem hlt, fun e he hb => ?_⟩
            have hj : e.on ∈ depsOf ops i := (deps_spec (Array.getElem?_eq_getElem hlt)).2 ⟨e, he, hb, rfl⟩
            have hB := (hall i (by omega)).1.2 e.on hj
            have hlt2 : e.on < i := by simpa using hB
            exact ih e.on hlt2 (by omega)
          rw [hr] at hmem; cases hmem
      rw [hlist m (Nat.le_refl m)] at hmn; cases hmn
  · have hrep : ∀ i, (Array.replicate ops.size false).getD i false = false := by
      intro i
      rw [Array.getD_eq_getD_getElem?, Array.getElem?_replicate]
      split <;> rfl
    refine ⟨by simp, .inr ⟨hrep m, ?_, fun k => a.tmps.getD k undef, (frameOf_self a W).symm, hRr _, ?_⟩⟩
    · intro i hi; rw [hrep] at hi; cases hi
    · intro i d _ _ hi; rw [hrep] at hi; cases hi
  · exact Nat.le_trans List.countP_le_length (by simp)

theorem frameOf_in (a : Act) (W : List Nat) (u : Nat → Value) {t : Nat} (hW : W.contains t = true) (ht : t < a.tmps.size) : (frameOf a W u).eval (.tmp t) = u t := by
  have hW' : t ∈ W := by simpa using hW
  simp [Act.eval, frameOf, Array.getD_eq_getD_getElem?, ht, hW']
theorem frameOf_out (a : Act) (W : List Nat) (u : Nat → Value) {t : Nat} (hW : W.contains t = false) : (frameOf a W u).eval (.tmp t) = a.eval (.tmp t) := by
  have hW' : ¬ t ∈ W := by simpa using hW
  rcases Nat.lt_or_ge t a.tmps.size with ht | ht
  · simp [Act.eval, frameOf, Array.getD_eq_getD_getElem?, ht, hW']
  · simp [Act.eval, frameOf, Array.getD_eq_getD_getElem?, ht]
theorem frameOf_congr (a : Act) (W : List Nat) {u v : Nat → Value} (h : ∀ t, W.contains t = true → u t = v t) : frameOf a W u = frameOf a W v := by
  simp only [frameOf, Act.mk.injEq, and_true]
  congr 1
  apply List.map_congr_left
  intro k _
  by_cases hk : W.contains k = true
  · rw [if_pos hk, if_pos hk, h k hk]
  · rw [if_neg hk, if_neg hk]

/-- THE LAW, each operation at whatever frame. -/
theorem wp_region_ops {P : Program} {id : Nat} {ops : Array Oper} {Q : Exit → Act → World → Prop} {a : Act} {w : World} (hm : P.follows .mixedOrders = true)
    (W : List Nat) (m : Nat) (hok : regOk ops W m = true) (hW : W.all (fun t => decide (t < a.tmps.size)) = true) (hW2 : W.all (fun t => (List.range m).any fun j => dstOf ops j == some t) = true)
    (T : Nat → Value → World → Prop) (R : World → World → Prop) (hRr : ∀ w, R w w) (hRt : ∀ a b c, R a b → R b c → R a c)
    (hT : ∀ d v w w', T d v w → R w w' → T d v w')
    (hbody : ∀ i o, i < m → ops[i]? = some o → ∀ (A : Act) w', R w.drew w' → (∀ t ∈ readsOf o, W.contains t = true → T t (A.eval (.tmp t)) w') → (∀ t, W.contains t = false → A.eval (.tmp t) = a.eval (.tmp t)) →
      ∀ K : Act → World → Prop, (∀ v w'', (∀ d, o.dst = some d → T d v w'') → R w' w'' → K (A.put o.dst v) w'') → o.wp P A w' K Q)
    (hlast : ∀ o, ops[m]? = some o → ∀ u w', R w.drew w' → (∀ t, W.contains t = true → T t (u t) w') → o.wp P (frameOf a W u) w' (Q .normal) Q) :
    (Code.region id ops true).wp P Q a w :=
  wp_region_inv hm W m hok T R hRr hRt hT (fun i o hi ho u w' hR hr K hK => hbody i o hi ho (frameOf a W u) w' hR
    (fun t ht hw => by
      have hlt : t < a.tmps.size := by
        have h1 := List.all_eq_true.1 hW t (by simpa using hw)
        simpa using h1
      rw [frameOf_in a W u hw hlt]; exact hr t ht hw)
    (fun t hw => frameOf_out a W u hw) K hK) (fun o ho u w' hR hu => hlast o ho u w' hR (fun t ht => by
      have h1 := List.all_eq_true.1 hW2 t (by simpa using ht)
      obtain ⟨j, hj, hd⟩ := List.any_eq_true.1 h1
      exact hu j t (List.mem_range.1 hj) (by simpa using hd)))
end Go.Proofs.YtimonhimfioohaaGreatDoor
