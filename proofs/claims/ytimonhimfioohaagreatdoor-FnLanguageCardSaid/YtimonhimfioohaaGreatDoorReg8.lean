/- The law of drawn regions, guards that hold; what a slot holds, and what the world is, may hang on which operations are done; each operation shows itself what it leaves of the other slots. -/
import Derived.Test.YtimonhimfioohaaGreatDoorReg6
namespace Go.Proofs.YtimonhimfioohaaGreatDoor
open Go

/-- THE LAW: T says what each slot holds once its operation is done, and stays true as the world goes on by R. -/
theorem wp_region_inv8 {P : Program} {id : Nat} {ops : Array Oper} {Q : Exit → Act → World → Prop} {a : Act} {w : World} (hm : P.follows .mixedOrders = true)
    (W : List Nat) (m : Nat) (Gs : List (Nat × Bool)) (hok : regOk3 ops W m Gs = true) (hW : W.all (fun t => decide (t < a.tmps.size)) = true) (T : (Nat → Bool) → Nat → Value → World → Prop) (R : (Nat → Bool) → World → Prop) (hR0 : R (fun _ => false) w.drew)
    (hG : ∀ q ∈ Gs, ∀ f v w, T f q.1 v w → v = .bool q.2)
    (hbody : ∀ i o, i < m → ops[i]? = some o → ∀ u f w', f i = false → (∀ j ∈ depsOf ops i, f j = true) → (∀ j, f j = true → ∀ k ∈ depsOf ops j, f k = true) → R f w' → (∀ t ∈ readsOf o, W.contains t = true → T f t (u t) w') →
      ∀ K : Act → World → Prop, (∀ v w'', (∀ d, o.dst = some d → T (upd f i) d v w'') → R (upd f i) w'' → (∀ d, W.contains d = true → o.dst ≠ some d → T f d (u d) w' → T (upd f i) d (u d) w'') → K ((frameOf a W u).put o.dst v) w'') → o.wp P (frameOf a W u) w' K Q)
    (hlast : ∀ o, ops[m]? = some o → ∀ u f w', (∀ j, j < m → f j = true) → R f w' → (∀ i d, i < m → dstOf ops i = some d → T f d (u d) w') → o.wp P (frameOf a W u) w' (Q .normal) Q) :
    (Code.region id ops true).wp P Q a w := by
  simp only [regOk3, Bool.and_eq_true, beq_iff_eq, List.all_eq_true, List.mem_range] at hok
  obtain ⟨⟨hsz, hall⟩, hreach⟩ := hok
  refine wp_region_any hm ?_
  let J : Array Bool → Act → World → Prop := fun listed a' w' => listed.size = ops.size ∧
    ((listed.getD m false = true ∧ (∀ i, i < ops.size → listed.getD i false = true) ∧ Q .normal a' w') ∨
     (listed.getD m false = false ∧ (∀ i, listed.getD i false = true → ∀ j ∈ depsOf ops i, listed.getD j false = true) ∧
      ∃ u, a' = frameOf a W u ∧ R (fun j => listed.getD j false) w' ∧ ∀ i d, i < m → dstOf ops i = some d → listed.getD i false = true → T (fun j => listed.getD j false) d (u d) w'))
  have hmono : ∀ (listed : Array Bool) (i j : Nat), listed.getD j false = true → (listed.setIfInBounds i true).getD j false = true := fun listed i j h => getD_set_true h
  have hnew : ∀ (listed : Array Bool) (i j : Nat), (listed.setIfInBounds i true).getD j false = true → j = i ∨ listed.getD j false = true := by
    intro listed i j h
    by_cases hij : j = i
    · exact .inl hij
    · right; rw [getD_set_ne false (fun e => hij e.symm)] at h; exact h
  refine wpAny_inv J (fun _ _ _ h => h.1) ?_ ?_ _ _ _ _ ?_ ?_
  · intro listed a' w' i hJ hi
    obtain ⟨h0, o, ho, hdep⟩ := mem_ready.1 hi
    have hilt : i < ops.size := (Array.getElem?_eq_some_iff.1 ho).1
    have hig : listed.getD i false = false := by
      rw [Array.getD_eq_getD_getElem?] at h0 ⊢
      rw [Array.getElem?_eq_getElem (by rw [hJ.1]; exact hilt)] at h0 ⊢
      exact h0
    have hset : (listed.setIfInBounds i true).getD i false = true := by
      rw [Array.getD_eq_getD_getElem?, Array.getElem?_setIfInBounds_self_of_lt (by rw [hJ.1]; exact hilt)]; rfl
    rcases hJ.2 with ⟨_, hl, _⟩ | ⟨hmn, hdown, u, rfl, hR, hTs⟩
    · rw [hl i hilt] at hig; cases hig
    have hi' := hall i (by omega)
    obtain ⟨⟨hA, hB⟩, hC⟩ := hi'
    rw [ho] at hA
    simp only [Option.map_some, Option.getD_some, Bool.and_eq_true, List.all_eq_true, Bool.or_eq_true, Bool.not_eq_true', List.any_eq_true, beq_iff_eq] at hA
    obtain ⟨hgd, hreads⟩ := hA
    have hdepl : ∀ j ∈ depsOf ops i, listed.getD j false = true := by
      intro j hj
      obtain ⟨e, he, hb, rfl⟩ := (deps_spec ho).1 hj
      exact hdep e he hb
    have hdj : ∀ j ∈ depsOf ops i, j < i := fun j hj => by simpa using hB j hj
    have hw : Region.wanted o (yielded ops (frameOf a W u).tmps) = true := guard_ok (T := T (fun j => listed.getD j false)) hgd hW (fun q hq v w h => hG q hq _ v w h) (fun g d hg hd => hTs g d (by have := hdj g hg; omega) hd (hdepl g hg))
    unfold wpOp
    rw [ho]
    dsimp only
    rw [if_pos hw]
    left
    have hread : ∀ t ∈ readsOf o, W.contains t = true → T (fun j => listed.getD j false) t (u t) w' := by
      intro t ht hWt
      rcases hreads t ht with h | ⟨j, hj, hd⟩
      · rw [hWt] at h; cases h
      · exact hTs j t (by have := hdj j hj; omega) hd (hdepl j hj)
    by_cases him : i = m
    · subst him
      have hallL : ∀ j, j < i → listed.getD j false = true := by
        intro j hj
        have h1 := hreach j hj
        exact ahead_listed (listed := fun j => listed.getD j false = true) hdown i (depsOf ops i) hdepl j (by simpa using h1)
      refine Oper.wp_mono (fun a2 w2 hq => ⟨by simp [hJ.1], .inl ⟨hset, fun j hj => ?_, hq⟩⟩) (hlast o ho u _ w' (fun j hj => hallL j hj) hR (fun j d hj hd => hTs j d hj hd (hallL j hj)))
      by_cases hji : j = i
      · subst hji; exact hset
      · exact hmono _ _ _ (hallL j (by omega))
    · have him' : i < m := by omega
      have hpb : (fun j => listed.getD j false) i = false := hig
      refine hbody i o him' ho u _ w' hpb hdepl hdown hR hread _ (fun v w2 hv hR2 hK2 => ⟨by simp [hJ.1], .inr ⟨?_, ?_, ?_⟩⟩)
      · rw [getD_set_ne false him]; exact hmn
      · intro k hk j hj
        rcases hnew _ _ _ hk with rfl | hk
        · exact hmono _ _ _ (hdepl j hj)
        · exact hmono _ _ _ (hdown k hk j hj)
      · have hdst : dstOf ops i = o.dst := by simp [dstOf, ho]
        have hR3 := hR2
        have hWd : ∀ j d, j < m → dstOf ops j = some d → W.contains d = true := fun j d hj hdj => by
          have h1 := (hall j (by omega)).2
          rw [hdj] at h1
          simp only [Bool.or_eq_true, beq_iff_eq, Bool.and_eq_true] at h1
          rcases h1 with h1 | h1
          · omega
          · exact h1.1
        have hbb : (fun j => (listed.setIfInBounds i true).getD j false) = upd (fun j => listed.getD j false) i := by
          funext j
          unfold upd
          by_cases hip : j = i
          · rw [if_pos hip, hip, hset]
          · rw [if_neg hip]
            exact getD_set_ne false (fun e => hip e.symm)
        rw [hbb]
        rw [hdst] at hC
        cases hd : o.dst with
        | none =>
          refine ⟨u, rfl, hR3, fun j d hj hdj2 hl => ?_⟩
          rcases hnew _ _ _ hl with rfl | hl
          · rw [hdst, hd] at hdj2; cases hdj2
          · exact hK2 d (hWd j d hj hdj2) (by rw [hd]; exact fun h => nomatch h) (hTs j d hj hdj2 hl)
        | some d0 =>
          rw [hd] at hC
          simp only [Bool.and_eq_true, Bool.or_eq_true, beq_iff_eq, List.all_eq_true, List.mem_range, Bool.not_eq_true', beq_eq_false_iff_ne] at hC
          have hC := hC.resolve_left him
          refine ⟨fun k => if k = d0 then v else u k, frameOf_put a W u d0 v hC.1, hR3, fun j d hj hdj2 hl => ?_⟩
          by_cases hji : j = i
          · subst hji
            rw [hdst, hd] at hdj2
            obtain rfl := Option.some.inj hdj2
            simp only [if_true]
            exact hv _ hd
          · have hne : d ≠ d0 := by
              intro e
              subst e
              rcases hC.2 j hj with h' | h'
              · exact hji h'
              · exact h' hdj2
            simp only [if_neg hne]
            rcases hnew _ _ _ hl with h | h
            · exact absurd h hji
            · exact hK2 d (hWd j d hj hdj2) (by rw [hd]; exact fun h => hne (Option.some.inj h).symm) (hTs j d hj hdj2 h)
  · intro listed a' w' hJ hr
    rcases hJ.2 with ⟨_, _, hq⟩ | ⟨hmn, _⟩
    · exact hq
    · exfalso
      have hlist : ∀ i, i ≤ m → listed.getD i false = true := by
        intro i
        induction i using Nat.strongRecOn with
        | _ i ih =>
          intro him
          refine Classical.byContradiction fun hne => ?_
          have hlt : i < ops.size := by omega
          have hf : listed.getD i true = false := by
            rw [Array.getD_eq_getD_getElem?, Array.getElem?_eq_getElem (by rw [hJ.1]; exact hlt)] at hne ⊢
            simpa using hne
          have hmem : i ∈ Region.ready .any ops listed := by
            refine mem_ready.2 ⟨hf, ops[i], Array.getElem?_eq_getElem hlt, fun e he hb => ?_⟩
            have hj : e.on ∈ depsOf ops i := (deps_spec (Array.getElem?_eq_getElem hlt)).2 ⟨e, he, hb, rfl⟩
            have hB := (hall i (by omega)).1.2 e.on hj
            have hlt2 : e.on < i := by simpa using hB
            exact ih e.on hlt2 (by omega)
          rw [hr] at hmem; cases hmem
      rw [hlist m (Nat.le_refl m)] at hmn; cases hmn
  · have hrep : ∀ i, (Array.replicate ops.size false).getD i false = false := by
      intro i
      rw [Array.getD_eq_getD_getElem?, Array.getElem?_replicate]
      split <;> rfl
    refine ⟨by simp, .inr ⟨hrep m, ?_, fun k => a.tmps.getD k undef, (frameOf_self a W).symm, by
      have he : (fun j => (Array.replicate ops.size false).getD j false) = fun _ => false := funext hrep
      rw [he]
      exact hR0, ?_⟩⟩
    · intro i hi; rw [hrep] at hi; cases hi
    · intro i d _ _ hi; rw [hrep] at hi; cases hi
  · exact Nat.le_trans List.countP_le_length (by simp)

/-- THE LAW, each operation at whatever frame. -/
theorem wp_region_ops8 {P : Program} {id : Nat} {ops : Array Oper} {Q : Exit → Act → World → Prop} {a : Act} {w : World} (hm : P.follows .mixedOrders = true)
    (W : List Nat) (m : Nat) (Gs : List (Nat × Bool)) (hok : regOk3 ops W m Gs = true) (hW : W.all (fun t => decide (t < a.tmps.size)) = true) (hW2 : W.all (fun t => (List.range m).any fun j => dstOf ops j == some t) = true)
    (T : (Nat → Bool) → Nat → Value → World → Prop) (R : (Nat → Bool) → World → Prop) (hR0 : R (fun _ => false) w.drew)
    (hG : ∀ q ∈ Gs, ∀ f v w, T f q.1 v w → v = .bool q.2)
    (hbody : ∀ i o, i < m → ops[i]? = some o → ∀ (A : Act) f w', f i = false → (∀ j ∈ depsOf ops i, f j = true) → (∀ j, f j = true → ∀ k ∈ depsOf ops j, f k = true) → R f w' → (∀ t ∈ readsOf o, W.contains t = true → T f t (A.eval (.tmp t)) w') → (∀ t, W.contains t = false → A.eval (.tmp t) = a.eval (.tmp t)) →
      ∀ K : Act → World → Prop, (∀ v w'', (∀ d, o.dst = some d → T (upd f i) d v w'') → R (upd f i) w'' → (∀ d, W.contains d = true → o.dst ≠ some d → T f d (A.eval (.tmp d)) w' → T (upd f i) d (A.eval (.tmp d)) w'') → K (A.put o.dst v) w'') → o.wp P A w' K Q)
    (hlast : ∀ o, ops[m]? = some o → ∀ u f w', (∀ j, j < m → f j = true) → R f w' → (∀ t, W.contains t = true → T f t (u t) w') → o.wp P (frameOf a W u) w' (Q .normal) Q) :
    (Code.region id ops true).wp P Q a w :=
  wp_region_inv8 hm W m Gs hok hW T R hR0 hG (fun i o hi ho u f w' hb hde hcl hR hr K hK => hbody i o hi ho (frameOf a W u) f w' hb hde hcl hR
    (fun t ht hw => by
      have hlt : t < a.tmps.size := by
        have h1 := List.all_eq_true.1 hW t (by simpa using hw)
        simpa using h1
      rw [frameOf_in a W u hw hlt]; exact hr t ht hw)
    (fun t hw => frameOf_out a W u hw) K (fun v w'' h1 h2 h3 => hK v w'' h1 h2 (fun d hd hne hT => by
      have hlt : d < a.tmps.size := by
        have h1 := List.all_eq_true.1 hW d (by simpa using hd)
        simpa using h1
      have h4 := h3 d hd hne
      rw [frameOf_in a W u hd hlt] at h4
      exact h4 hT))) (fun o ho u f w' hfa hR hu => hlast o ho u f w' hfa hR (fun t ht => by
      have h1 := List.all_eq_true.1 hW2 t (by simpa using ht)
      obtain ⟨j, hj, hd⟩ := List.any_eq_true.1 h1
      exact hu j t (List.mem_range.1 hj) (by simpa using hd)))
end Go.Proofs.YtimonhimfioohaaGreatDoor
