/- The law of drawn regions: rows that its operations make lie apart. -/
import Derived.Test.YtimonhimfioohaaGreatDoorReg
import Derived.Laws.AppendOwn
namespace Go.Proofs.YtimonhimfioohaaGreatDoor
open Go

/-- THE LAW: T says what each slot holds once its operation is done, and stays true as the world goes on by R. -/
theorem wp_region_inv4 {P : Program} {id : Nat} {ops : Array Oper} {Q : Exit → Act → World → Prop} {a : Act} {w : World} (hm : P.follows .mixedOrders = true)
    (W : List Nat) (m : Nat) (hok : regOk ops W m = true) (T : Nat → Value → World → Prop) (R : World → World → Prop) (hRr : ∀ w, R w w) (hRt : ∀ a b c, R a b → R b c → R a c)
    (hT : ∀ d v w w', T d v w → R w w' → T d v w') (F : List Nat) (hF : ∀ d ∈ F, ∀ v w k, T d v w → v.ownBlock = some k → k < w.heap.size) (hFo : F.all (fun d => (List.range m).any fun j => dstOf ops j == some d) = true)
    (hbody : ∀ i o, i < m → ops[i]? = some o → ∀ u w', R w.drew w' → (∀ t ∈ readsOf o, W.contains t = true → T t (u t) w') → (∀ t ∈ readsOf o, ∀ t' ∈ readsOf o, W.contains t = true → W.contains t' = true → t ∈ F → t' ∈ F → t ≠ t' → ∀ k, (u t).ownBlock = some k → (u t').ownBlock ≠ some k) →
      ∀ K : Act → World → Prop, (∀ v w'', (∀ d, o.dst = some d → T d v w'') → R w' w'' → (∀ d, o.dst = some d → d ∈ F → ∀ k, v.ownBlock = some k → w'.heap.size ≤ k) → K ((frameOf a W u).put o.dst v) w'') → o.wp P (frameOf a W u) w' K Q)
    (hlast : ∀ o, ops[m]? = some o → ∀ u w', R w.drew w' → (∀ i d, i < m → dstOf ops i = some d → T d (u d) w') → (∀ d ∈ F, ∀ d' ∈ F, d ≠ d' → ∀ k, (u d).ownBlock = some k → (u d').ownBlock ≠ some k) → o.wp P (frameOf a W u) w' (Q .normal) Q) :
    (Code.region id ops true).wp P Q a w := by
  simp only [regOk, Bool.and_eq_true, beq_iff_eq, List.all_eq_true, List.mem_range] at hok
  obtain ⟨⟨hsz, hall⟩, hreach⟩ := hok
  refine wp_region_any hm ?_
  let J : Array Bool → Act → World → Prop := fun listed a' w' => listed.size = ops.size ∧
    ((listed.getD m false = true ∧ (∀ i, i < ops.size → listed.getD i false = true) ∧ Q .normal a' w') ∨
     (listed.getD m false = false ∧ (∀ i, listed.getD i false = true → ∀ j ∈ depsOf ops i, listed.getD j false = true) ∧
      ∃ u, a' = frameOf a W u ∧ R w.drew w' ∧ (∀ i d, i < m → dstOf ops i = some d → listed.getD i false = true → T d (u d) w') ∧ (∀ i d i' d', i < m → i' < m → dstOf ops i = some d → dstOf ops i' = some d' → listed.getD i false = true → listed.getD i' false = true → d ∈ F → d' ∈ F → d ≠ d' → ∀ k, (u d).ownBlock = some k → (u d').ownBlock ≠ some k)))
  have hmono : ∀ (listed : Array Bool) (i j : Nat), listed.getD j false = true → (listed.setIfInBounds i true).getD j false = true := fun listed i j h => getD_set_true h
  have hnew : ∀ (listed : Array Bool) (i j : Nat), (listed.setIfInBounds i true).getD j false = true → j = i ∨ listed.getD j false = true := by
    intro listed i j h
    by_cases hij : j = i
    · exact .inl hij
    · right; rw [getD_set_ne false (fun e => hij e.symm)] at h; exact h
  refine wpAny_inv J (fun _ _ _ h => h.1) ?_ ?_ _ _ _ _ ?_ ?_
  · intro listed a' w' i hJ hi
    obtain ⟨h0, o, ho, hdep⟩ := mem_ready.1 hi
    have hilt : i < ops.size := (Array.getElem?_eq_some_iff.1 ho).1
    have hig : listed.getD i false = false := by
      rw [Array.getD_eq_getD_getElem?] at h0 ⊢
      rw [Array.getElem?_eq_getElem (by rw [hJ.1]; exact hilt)] at h0 ⊢
      exact h0
    have hset : (listed.setIfInBounds i true).getD i false = true := by
      rw [Array.getD_eq_getD_getElem?, Array.getElem?_setIfInBounds_self_of_lt (by rw [hJ.1]; exact hilt)]; rfl
    rcases hJ.2 with ⟨_, hl, _⟩ | ⟨hmn, hdown, u, rfl, hR, hTs, hAp⟩
    · rw [hl i hilt] at hig; cases hig
    have hi' := hall i (by omega)
    obtain ⟨⟨hA, hB⟩, hC⟩ := hi'
    rw [ho] at hA
    simp only [Option.map_some, Option.getD_some, Bool.and_eq_true, List.all_eq_true, Bool.or_eq_true, Bool.not_eq_true', List.any_eq_true, beq_iff_eq, Option.isNone_iff_eq_none] at hA
    obtain ⟨hgd, hreads⟩ := hA
    have hdepl : ∀ j ∈ depsOf ops i, listed.getD j false = true := by
      intro j hj
      obtain ⟨e, he, hb, rfl⟩ := (deps_spec ho).1 hj
      exact hdep e he hb
    have hdj : ∀ j ∈ depsOf ops i, j < i := fun j hj => by simpa using hB j hj
    have hw : Region.wanted o (yielded ops (frameOf a W u).tmps) = true := by simp [Region.wanted, hgd]
    unfold wpOp
    rw [ho]
    dsimp only
    rw [if_pos hw]
    left
    have hread : ∀ t ∈ readsOf o, W.contains t = true → T t (u t) w' := by
      intro t ht hWt
      rcases hreads t ht with h | ⟨j, hj, hd⟩
      · rw [hWt] at h; cases h
      · exact hTs j t (by have := hdj j hj; omega) hd (hdepl j hj)
    have hreadAp : ∀ t ∈ readsOf o, ∀ t' ∈ readsOf o, W.contains t = true → W.contains t' = true → t ∈ F → t' ∈ F → t ≠ t' → ∀ k, (u t).ownBlock = some k → (u t').ownBlock ≠ some k := by
      intro t ht t' ht' hWt hWt' hF1 hF2 hne
      rcases hreads t ht with h | ⟨j, hj, hd⟩
      · rw [hWt] at h; cases h
      rcases hreads t' ht' with h | ⟨j', hj', hd'⟩
      · rw [hWt'] at h; cases h
      exact hAp j t j' t' (by have := hdj j hj; omega) (by have := hdj j' hj'; omega) hd hd' (hdepl j hj) (hdepl j' hj') hF1 hF2 hne
    by_cases him : i = m
    · subst him
      have hallL : ∀ j, j < i → listed.getD j false = true := by
        intro j hj
        have h1 := hreach j hj
        exact ahead_listed (listed := fun j => listed.getD j false = true) hdown i (depsOf ops i) hdepl j (by simpa using h1)
      refine Oper.wp_mono (fun a2 w2 hq => ⟨by simp [hJ.1], .inl ⟨hset, fun j hj => ?_, hq⟩⟩) (hlast o ho u w' hR (fun j d hj hd => hTs j d hj hd (hallL j hj)) (fun d hd d' hd' hne => by
        obtain ⟨j, hj, he⟩ := List.any_eq_true.1 (List.all_eq_true.1 hFo d hd)
        obtain ⟨j', hj', he'⟩ := List.any_eq_true.1 (List.all_eq_true.1 hFo d' hd')
        have h1 := List.mem_range.1 hj
        have h2 := List.mem_range.1 hj'
        exact hAp j d j' d' h1 h2 (by simpa using he) (by simpa using he') (hallL j h1) (hallL j' h2) hd hd' hne))
      by_cases hji : j = i
      · subst hji; exact hset
      · exact hmono _ _ _ (hallL j (by omega))
    · have him' : i < m := by omega
      refine hbody i o him' ho u w' hR hread hreadAp _ (fun v w2 hv hR2 hfr => ⟨by simp [hJ.1], .inr ⟨?_, ?_, ?_⟩⟩)
      · rw [getD_set_ne false him]; exact hmn
      · intro k hk j hj
        rcases hnew _ _ _ hk with rfl | hk
        · exact hmono _ _ _ (hdepl j hj)
        · exact hmono _ _ _ (hdown k hk j hj)
      · have hdst : dstOf ops i = o.dst := by simp [dstOf, ho]
        rw [hdst] at hC
        cases hd : o.dst with
        | none =>
          refine ⟨u, rfl, hRt _ _ _ hR hR2, fun j d hj hdj2 hl => ?_, fun j d j' d' hj hj' hdA hdB hl hl' => ?_⟩
          · rcases hnew _ _ _ hl with rfl | hl
            · rw [hdst, hd] at hdj2; cases hdj2
            · exact hT _ _ _ _ (hTs j d hj hdj2 hl) hR2
          · rcases hnew _ _ _ hl with rfl | hl
            · rw [hdst, hd] at hdA; cases hdA
            · rcases hnew _ _ _ hl' with rfl | hl'
              · rw [hdst, hd] at hdB; cases hdB
              · exact hAp j d j' d' hj hj' hdA hdB hl hl'
        | some d0 =>
          rw [hd] at hC
          simp only [Bool.and_eq_true, Bool.or_eq_true, beq_iff_eq, List.all_eq_true, List.mem_range, Bool.not_eq_true', beq_eq_false_iff_ne] at hC
          have hC := hC.resolve_left him
          refine ⟨fun k => if k = d0 then v else u k, frameOf_put a W u d0 v hC.1, hRt _ _ _ hR hR2, fun j d hj hdj2 hl => ?_, fun j d j' d' hj hj' hdA hdB hl hl' hdF hdF' hne => ?_⟩
          rotate_left
          · have hsame : ∀ q dq, q < m → dstOf ops q = some dq → q ≠ i → dq ≠ d0 := fun q dq hq hdq hqi e => by
              subst e
              rcases hC.2 q hq with h' | h'
              · exact hqi h'
              · exact h' hdq
            by_cases hji : j = i
            · subst hji
              rw [hdst, hd] at hdA
              obtain rfl := Option.some.inj hdA
              have hji' : j' ≠ j := fun e => by subst e; rw [hdst, hd] at hdB; exact hne (Option.some.inj hdB)
              have hd2 := hsame j' d' hj' hdB hji'
              simp only [if_true, if_neg hd2]
              intro k hk hk'
              rcases hnew _ _ _ hl' with h | h
              · exact hji' h
              · have h1 := hF d' hdF' _ _ _ (hTs j' d' hj' hdB h) hk'
                have h2 := hfr _ hd hdF k hk
                omega
            · have hd1 := hsame j d hj hdA hji
              by_cases hji' : j' = i
              · subst hji'
                rw [hdst, hd] at hdB
                obtain rfl := Option.some.inj hdB
                simp only [if_true, if_neg hd1]
                intro k hk hk'
                rcases hnew _ _ _ hl with h | h
                · exact hji h
                · have h1 := hF d hdF _ _ _ (hTs j d hj hdA h) hk
                  have h2 := hfr _ hd hdF' k hk'
                  omega
              · have hd2 := hsame j' d' hj' hdB hji'
                simp only [if_neg hd1, if_neg hd2]
                rcases hnew _ _ _ hl with h | h
                · exact absurd h hji
                · rcases hnew _ _ _ hl' with h' | h'
                  · exact absurd h' hji'
                  · exact hAp j d j' d' hj hj' hdA hdB h h' hdF hdF' hne
          by_cases hji : j = i
          · subst hji
            rw [hdst, hd] at hdj2
            obtain rfl := Option.some.inj hdj2
            simp only [if_true]
            exact hv _ hd
          · have hne : d ≠ d0 := by
              intro e
              subst e
              rcases hC.2 j hj with h' | h'
              · exact hji h'
              · exact h' hdj2
            simp only [if_neg hne]
            rcases hnew _ _ _ hl with h | h
            · exact absurd h hji
            · exact hT _ _ _ _ (hTs j d hj hdj2 h) hR2
  · intro listed a' w' hJ hr
    rcases hJ.2 with ⟨_, _, hq⟩ | ⟨hmn, _⟩
    · exact hq
    · exfalso
      have hlist : ∀ i, i ≤ m → listed.getD i false = true := by
        intro i
        induction i using Nat.strongRecOn with
        | _ i ih =>
          intro him
          refine Classical.byContradiction fun hne => ?_
          have hlt : i < ops.size := by omega
          have hf : listed.getD i true = false := by
            rw [Array.getD_eq_getD_getElem?, Array.getElem?_eq_getElem (by rw [hJ.1]; exact hlt)] at hne ⊢
            simpa using hne
          have hmem : i ∈ Region.ready .any ops listed := by
            refine mem_ready.2 ⟨hf, ops[i], Array.getElem?_eq_getElem hlt, fun e he hb => ?_⟩
            have hj : e.on ∈ depsOf ops i := (deps_spec (Array.getElem?_eq_getElem hlt)).2 ⟨e, he, hb, rfl⟩
            have hB := (hall i (by omega)).1.2 e.on hj
            have hlt2 : e.on < i := by simpa using hB
            exact ih e.on hlt2 (by omega)
          rw [hr] at hmem; cases hmem
      rw [hlist m (Nat.le_refl m)] at hmn; cases hmn
  · have hrep : ∀ i, (Array.replicate ops.size false).getD i false = false := by
      intro i
      rw [Array.getD_eq_getD_getElem?, Array.getElem?_replicate]
      split <;> rfl
    refine ⟨by simp, .inr ⟨hrep m, ?_, fun k => a.tmps.getD k undef, (frameOf_self a W).symm, hRr _, ?_, ?_⟩⟩
    · intro i hi; rw [hrep] at hi; cases hi
    · intro i d _ _ hi; rw [hrep] at hi; cases hi
    · intro i d i' d' _ _ _ _ hi; rw [hrep] at hi; cases hi
  · exact Nat.le_trans List.countP_le_length (by simp)

/-- THE LAW, each operation at whatever frame. -/
theorem wp_region_ops4 {P : Program} {id : Nat} {ops : Array Oper} {Q : Exit → Act → World → Prop} {a : Act} {w : World} (hm : P.follows .mixedOrders = true)
    (W : List Nat) (m : Nat) (hok : regOk ops W m = true) (hW : W.all (fun t => decide (t < a.tmps.size)) = true) (hW2 : W.all (fun t => (List.range m).any fun j => dstOf ops j == some t) = true)
    (T : Nat → Value → World → Prop) (R : World → World → Prop) (hRr : ∀ w, R w w) (hRt : ∀ a b c, R a b → R b c → R a c)
    (hT : ∀ d v w w', T d v w → R w w' → T d v w') (F : List Nat) (hF : ∀ d ∈ F, ∀ v w k, T d v w → v.ownBlock = some k → k < w.heap.size) (hFo : F.all (fun d => (List.range m).any fun j => dstOf ops j == some d) = true)
    (hbody : ∀ i o, i < m → ops[i]? = some o → ∀ (A : Act) w', R w.drew w' → (∀ t ∈ readsOf o, W.contains t = true → T t (A.eval (.tmp t)) w') → (∀ t, W.contains t = false → A.eval (.tmp t) = a.eval (.tmp t)) → (∀ t ∈ readsOf o, ∀ t' ∈ readsOf o, W.contains t = true → W.contains t' = true → t ∈ F → t' ∈ F → t ≠ t' → ∀ k, (A.eval (.tmp t)).ownBlock = some k → (A.eval (.tmp t')).ownBlock ≠ some k) →
      ∀ K : Act → World → Prop, (∀ v w'', (∀ d, o.dst = some d → T d v w'') → R w' w'' → (∀ d, o.dst = some d → d ∈ F → ∀ k, v.ownBlock = some k → w'.heap.size ≤ k) → K (A.put o.dst v) w'') → o.wp P A w' K Q)
    (hlast : ∀ o, ops[m]? = some o → ∀ u w', R w.drew w' → (∀ t, W.contains t = true → T t (u t) w') → (∀ d ∈ F, ∀ d' ∈ F, d ≠ d' → ∀ k, (u d).ownBlock = some k → (u d').ownBlock ≠ some k) → o.wp P (frameOf a W u) w' (Q .normal) Q) :
    (Code.region id ops true).wp P Q a w :=
  wp_region_inv4 hm W m hok T R hRr hRt hT F hF hFo (fun i o hi ho u w' hR hr hap K hK => hbody i o hi ho (frameOf a W u) w' hR
    (fun t ht hw => by
      have hlt : t < a.tmps.size := by
        have h1 := List.all_eq_true.1 hW t (by simpa using hw)
        simpa using h1
      rw [frameOf_in a W u hw hlt]; exact hr t ht hw)
    (fun t hw => frameOf_out a W u hw)
    (fun t ht t' ht' hw hw' hf hf' hne => by
      have hlt : t < a.tmps.size := by
        have h1 := List.all_eq_true.1 hW t (by simpa using hw)
        simpa using h1
      have hlt' : t' < a.tmps.size := by
        have h1 := List.all_eq_true.1 hW t' (by simpa using hw')
        simpa using h1
      rw [frameOf_in a W u hw hlt, frameOf_in a W u hw' hlt']
      exact hap t ht t' ht' hw hw' hf hf' hne) K hK) (fun o ho u w' hR hu hap => hlast o ho u w' hR (fun t ht => by
      have h1 := List.all_eq_true.1 hW2 t (by simpa using ht)
      obtain ⟨j, hj, hd⟩ := List.any_eq_true.1 h1
      exact hu j t (List.mem_range.1 hj) (by simpa using hd)) hap)
end Go.Proofs.YtimonhimfioohaaGreatDoor
