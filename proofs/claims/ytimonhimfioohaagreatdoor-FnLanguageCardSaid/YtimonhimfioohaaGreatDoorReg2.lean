/- The law of drawn regions, each operation with a step of its own. -/
import Derived.Test.YtimonhimfioohaaGreatDoorReg
namespace Go.Proofs.YtimonhimfioohaaGreatDoor
open Go

/-- THE LAW: T says what each slot holds once its operation is done, and stays true as the world goes on by R. -/
theorem wp_region_inv2 {P : Program} {id : Nat} {ops : Array Oper} {Q : Exit → Act → World → Prop} {a : Act} {w : World} (hm : P.follows .mixedOrders = true)
    (W : List Nat) (m : Nat) (hok : regOk ops W m = true) (T : Nat → Value → World → Prop) (R : Bool → World → World → Prop) (S : Nat → World → World → Prop) (p : Nat) (hRr : ∀ w, R false w w) (hS : ∀ i b w0 w1 w2, i < m → (i = p → b = false) → R b w0 w1 → S i w1 w2 → R (if i = p then true else b) w0 w2)
    (hT : ∀ i d v w w', i < m → dstOf ops i ≠ some d → T d v w → S i w w' → T d v w')
    (hbody : ∀ i o, i < m → ops[i]? = some o → ∀ u b w', (i = p → b = false) → R b w.drew w' → (∀ t ∈ readsOf o, W.contains t = true → T t (u t) w') →
      ∀ K : Act → World → Prop, (∀ v w'', (∀ d, o.dst = some d → T d v w'') → S i w' w'' → K ((frameOf a W u).put o.dst v) w'') → o.wp P (frameOf a W u) w' K Q)
    (hlast : ∀ o, ops[m]? = some o → ∀ u b w', (p < m → b = true) → R b w.drew w' → (∀ i d, i < m → dstOf ops i = some d → T d (u d) w') → o.wp P (frameOf a W u) w' (Q .normal) Q) :
    (Code.region id ops true).wp P Q a w := by
  simp only [regOk, Bool.and_eq_true, beq_iff_eq, List.all_eq_true, List.mem_range] at hok
  obtain ⟨⟨hsz, hall⟩, hreach⟩ := hok
  refine wp_region_any hm ?_
  let J : Array Bool → Act → World → Prop := fun listed a' w' => listed.size = ops.size ∧
    ((listed.getD m false = true ∧ (∀ i, i < ops.size → listed.getD i false = true) ∧ Q .normal a' w') ∨
     (listed.getD m false = false ∧ (∀ i, listed.getD i false = true → ∀ j ∈ depsOf ops i, listed.getD j false = true) ∧
      ∃ u, a' = frameOf a W u ∧ R (listed.getD p false) w.drew w' ∧ ∀ i d, i < m → dstOf ops i = some d → listed.getD i false = true → T d (u d) w'))
  have hmono : ∀ (listed : Array Bool) (i j : Nat), listed.getD j false = true → (listed.setIfInBounds i true).getD j false = true := fun listed i j h => getD_set_true h
  have hnew : ∀ (listed : Array Bool) (i j : Nat), (listed.setIfInBounds i true).getD j false = true → j = i ∨ listed.getD j false = true := by
    intro listed i j h
    by_cases hij : j = i
    · exact .inl hij
    · right; rw [getD_set_ne false (fun e => hij e.symm)] at h; exact h
  refine wpAny_inv J (fun _ _ _ h => h.1) ?_ ?_ _ _ _ _ ?_ ?_
  · intro listed a' w' i hJ hi
    obtain ⟨h0, o, ho, hdep⟩ := mem_ready.1 hi
    have hilt : i < ops.size := (Array.getElem?_eq_some_iff.1 ho).1
    have hig : listed.getD i false = false := by
      rw [Array.getD_eq_getD_getElem?] at h0 ⊢
      rw [Array.getElem?_eq_getElem (by rw [hJ.1]; exact hilt)] at h0 ⊢
      exact h0
    have hset : (listed.setIfInBounds i true).getD i false = true := by
      rw [Array.getD_eq_getD_getElem?, Array.getElem?_setIfInBounds_self_of_lt (by rw [hJ.1]; exact hilt)]; rfl
    rcases hJ.2 with ⟨_, hl, _⟩ | ⟨hmn, hdown, u, rfl, hR, hTs⟩
    · rw [hl i hilt] at hig; cases hig
    have hi' := hall i (by omega)
    obtain ⟨⟨hA, hB⟩, hC⟩ := hi'
    rw [ho] at hA
    simp only [Option.map_some, Option.getD_some, Bool.and_eq_true, List.all_eq_true, Bool.or_eq_true, Bool.not_eq_true', List.any_eq_true, beq_iff_eq, Option.isNone_iff_eq_none] at hA
    obtain ⟨hgd, hreads⟩ := hA
    have hdepl : ∀ j ∈ depsOf ops i, listed.getD j false = true := by
      intro j hj
      obtain ⟨e, he, hb, rfl⟩ := (deps_spec ho).1 hj
      exact hdep e he hb
    have hdj : ∀ j ∈ depsOf ops i, j < i := fun j hj => by simpa using hB j hj
    have hw : Region.wanted o (yielded ops (frameOf a W u).tmps) = true := by simp [Region.wanted, hgd]
    unfold wpOp
    rw [ho]
    dsimp only
    rw [if_pos hw]
    left
    have hread : ∀ t ∈ readsOf o, W.contains t = true → T t (u t) w' := by
      intro t ht hWt
      rcases hreads t ht with h | ⟨j, hj, hd⟩
      · rw [hWt] at h; cases h
      · exact hTs j t (by have := hdj j hj; omega) hd (hdepl j hj)
    by_cases him : i = m
    · subst him
      have hallL : ∀ j, j < i → listed.getD j false = true := by
        intro j hj
        have h1 := hreach j hj
        exact ahead_listed (listed := fun j => listed.getD j false = true) hdown i (depsOf ops i) hdepl j (by simpa using h1)
      refine Oper.wp_mono (fun a2 w2 hq => ⟨by simp [hJ.1], .inl ⟨hset, fun j hj => ?_, hq⟩⟩) (hlast o ho u _ w' (fun hp => hallL p hp) hR (fun j d hj hd => hTs j d hj hd (hallL j hj)))
      by_cases hji : j = i
      · subst hji; exact hset
      · exact hmono _ _ _ (hallL j (by omega))
    · have him' : i < m := by omega
      have hpb : i = p → listed.getD p false = false := fun e => by rw [← e]; exact hig
      refine hbody i o him' ho u _ w' hpb hR hread _ (fun v w2 hv hS2 => ⟨by simp [hJ.1], .inr ⟨?_, ?_, ?_⟩⟩)
      · rw [getD_set_ne false him]; exact hmn
      · intro k hk j hj
        rcases hnew _ _ _ hk with rfl | hk
        · exact hmono _ _ _ (hdepl j hj)
        · exact hmono _ _ _ (hdown k hk j hj)
      · have hdst : dstOf ops i = o.dst := by simp [dstOf, ho]
        have hR3 : R ((listed.setIfInBounds i true).getD p false) w.drew w2 := by
          have h3 := hS i _ _ _ _ him' hpb hR hS2
          by_cases hip : i = p
          · rw [if_pos hip] at h3
            rw [← hip, hset]
            exact h3
          · rw [if_neg hip] at h3
            have e3 : (listed.setIfInBounds i true).getD p false = listed.getD p false := getD_set_ne false hip
            rw [e3]
            exact h3
        rw [hdst] at hC
        cases hd : o.dst with
        | none =>
          refine ⟨u, rfl, hR3, fun j d hj hdj2 hl => ?_⟩
          rcases hnew _ _ _ hl with rfl | hl
          · rw [hdst, hd] at hdj2; cases hdj2
          · exact hT _ _ _ _ _ him' (by rw [hdst, hd]; exact fun h => nomatch h) (hTs j d hj hdj2 hl) hS2
        | some d0 =>
          rw [hd] at hC
          simp only [Bool.and_eq_true, Bool.or_eq_true, beq_iff_eq, List.all_eq_true, List.mem_range, Bool.not_eq_true', beq_eq_false_iff_ne] at hC
          have hC := hC.resolve_left him
          refine ⟨fun k => if k = d0 then v else u k, frameOf_put a W u d0 v hC.1, hR3, fun j d hj hdj2 hl => ?_⟩
          by_cases hji : j = i
          · subst hji
            rw [hdst, hd] at hdj2
            obtain rfl := Option.some.inj hdj2
            simp only [if_true]
            exact hv _ hd
          · have hne : d ≠ d0 := by
              intro e
              subst e
              rcases hC.2 j hj with h' | h'
              · exact hji h'
              · exact h' hdj2
            simp only [if_neg hne]
            rcases hnew _ _ _ hl with h | h
            · exact absurd h hji
            · exact hT _ _ _ _ _ him' (by rw [hdst, hd]; exact fun h => hne (Option.some.inj h).symm) (hTs j d hj hdj2 h) hS2
  · intro listed a' w' hJ hr
    rcases hJ.2 with ⟨_, _, hq⟩ | ⟨hmn, _⟩
    · exact hq
    · exfalso
      have hlist : ∀ i, i ≤ m → listed.getD i false = true := by
        intro i
        induction i using Nat.strongRecOn with
        | _ i ih =>
          intro him
          refine Classical.byContradiction fun hne => ?_
          have hlt : i < ops.size := by omega
          have hf : listed.getD i true = false := by
            rw [Array.getD_eq_getD_getElem?, Array.getElem?_eq_getElem (by rw [hJ.1]; exact hlt)] at hne ⊢
            simpa using hne
          have hmem : i ∈ Region.ready .any ops listed := by
            refine mem_ready.2 ⟨hf, ops[i], Array.getElem?_eq_getElem hlt, fun e he hb => ?_⟩
            have hj : e.on ∈ depsOf ops i := (deps_spec (Array.getElem?_eq_getElem hlt)).2 ⟨e, he, hb, rfl⟩
            have hB := (hall i (by omega)).1.2 e.on hj
            have hlt2 : e.on < i := by simpa using hB
            exact ih e.on hlt2 (by omega)
          rw [hr] at hmem; cases hmem
      rw [hlist m (Nat.le_refl m)] at hmn; cases hmn
  · have hrep : ∀ i, (Array.replicate ops.size false).getD i false = false := by
      intro i
      rw [Array.getD_eq_getD_getElem?, Array.getElem?_replicate]
      split <;> rfl
    refine ⟨by simp, .inr ⟨hrep m, ?_, fun k => a.tmps.getD k undef, (frameOf_self a W).symm, by rw [hrep]; exact hRr _, ?_⟩⟩
    · intro i hi; rw [hrep] at hi; cases hi
    · intro i d _ _ hi; rw [hrep] at hi; cases hi
  · exact Nat.le_trans List.countP_le_length (by simp)

/-- THE LAW, each operation at whatever frame. -/
theorem wp_region_ops2 {P : Program} {id : Nat} {ops : Array Oper} {Q : Exit → Act → World → Prop} {a : Act} {w : World} (hm : P.follows .mixedOrders = true)
    (W : List Nat) (m : Nat) (hok : regOk ops W m = true) (hW : W.all (fun t => decide (t < a.tmps.size)) = true) (hW2 : W.all (fun t => (List.range m).any fun j => dstOf ops j == some t) = true)
    (T : Nat → Value → World → Prop) (R : Bool → World → World → Prop) (S : Nat → World → World → Prop) (p : Nat) (hRr : ∀ w, R false w w) (hS : ∀ i b w0 w1 w2, i < m → (i = p → b = false) → R b w0 w1 → S i w1 w2 → R (if i = p then true else b) w0 w2)
    (hT : ∀ i d v w w', i < m → dstOf ops i ≠ some d → T d v w → S i w w' → T d v w')
    (hbody : ∀ i o, i < m → ops[i]? = some o → ∀ (A : Act) b w', (i = p → b = false) → R b w.drew w' → (∀ t ∈ readsOf o, W.contains t = true → T t (A.eval (.tmp t)) w') → (∀ t, W.contains t = false → A.eval (.tmp t) = a.eval (.tmp t)) →
      ∀ K : Act → World → Prop, (∀ v w'', (∀ d, o.dst = some d → T d v w'') → S i w' w'' → K (A.put o.dst v) w'') → o.wp P A w' K Q)
    (hlast : ∀ o, ops[m]? = some o → ∀ u b w', (p < m → b = true) → R b w.drew w' → (∀ t, W.contains t = true → T t (u t) w') → o.wp P (frameOf a W u) w' (Q .normal) Q) :
    (Code.region id ops true).wp P Q a w :=
  wp_region_inv2 hm W m hok T R S p hRr hS hT (fun i o hi ho u b w' hb hR hr K hK => hbody i o hi ho (frameOf a W u) b w' hb hR
    (fun t ht hw => by
      have hlt : t < a.tmps.size := by
        have h1 := List.all_eq_true.1 hW t (by simpa using hw)
        simpa using h1
      rw [frameOf_in a W u hw hlt]; exact hr t ht hw)
    (fun t hw => frameOf_out a W u hw) K hK) (fun o ho u b w' hb hR hu => hlast o ho u b w' hb hR (fun t ht => by
      have h1 := List.all_eq_true.1 hW2 t (by simpa using ht)
      obtain ⟨j, hj, hd⟩ := List.any_eq_true.1 h1
      exact hu j t (List.mem_range.1 hj) (by simpa using hd)))
end Go.Proofs.YtimonhimfioohaaGreatDoor
