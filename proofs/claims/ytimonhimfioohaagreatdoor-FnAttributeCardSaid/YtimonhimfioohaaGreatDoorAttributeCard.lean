/- The law FnAttribute returns true at every session, number of a medium and key, in every world whose listed variables hold what the text of the program lays in them. -/
import Derived.Test.YtimonhimfioohaaGreatDoorLaid
import Derived.Test.YtimonhimfioohaaGreatDoorAttrLaw
import Derived.Test.YtimonhimfioohaaGreatDoorAttributeClosed
import Derived.Test.YtimonhimfioohaaGreatDoorOpen2
import Derived.ChangeMaps5
import Derived.Carry
namespace Go.Proofs.YtimonhimfioohaaGreatDoor.fnAttribute
open Go.ChangeShapes Go.WideShapes Go.ChangeAt Go.ChangeMaps Go.RowKit

set_option maxRecDepth 100000 in
theorem contract (H : Type) (enc : TypeId × Value → H) (W : World) (base : Nat) (args : Array Value) (ds gs : List (DataW H)) (before : List MemPlace)
    (hval : ∀ (j : Nat) t v, Tryz.f9.params[j]? = some t → args[j]? = some v → Value.okWide Tryz.prog W .any base t v)
    (hW : DataW.Whole enc Tryz.prog Tryz.f9.params.toList Rows.fnAttributeSpec.vars false W args.toList ds gs before) (hL : laidMetH Tryz.prog Rows.fnAttributeRow.laid W) :
    Calls Tryz.prog 9 args W fun e W' => ∃ v, e = .returned v ∧ Rows.fnAttributeSpec.post enc Tryz.prog Tryz.f9 false true false false W args v W' := by
  have hW' := hW
  obtain ⟨p, q, hA0, hV, rfl, _, _⟩ := hW
  have hA : DataW.TrodAll enc Tryz.prog W 0 (fun _ => true) true Tryz.f9.params.toList args.toList ds p := hA0
  rw [Tryz.params9] at hA hval
  obtain ⟨v0, vs0, d0, ds0, p0, q0, hargs0, rfl, rfl, h_0, r0⟩ := trodAll_cons hA
  obtain ⟨v1, vs1, d1, ds1, p1, q1, hargs1, rfl, rfl, h_1, r1⟩ := trodAll_cons r0
  obtain ⟨v2, vs2, d2, ds2, p2, q2, hargs2, rfl, rfl, h_2, r2⟩ := trodAll_cons r1
  obtain ⟨rfl, rfl, rfl⟩ := trodAll_nil r2
  obtain rfl : args = #[v0, v1, v2] := by cases args; simp_all
  obtain ⟨rfl, rfl⟩ := trodVars_none hV
  clear hA0 hargs0 hargs1 hargs2
  have h_0k := h_0
  obtain ⟨cs, rfl, hsz⟩ := okWide_struct Tryz.underlying36 (hval 0 36 v0 rfl rfl)
  obtain ⟨fuel, hf⟩ := h_0
  have hop : isSess W cs.toList := open_session (y := (d0, p0)) (by simpa [Value.cells] using hf)
  obtain ⟨ver, s1, o1, o2, s2', s3, s4, name, A1, A2, A3, A4, A5, A6, A7, A8, A9, A10, A11, n1, n2, n3, n4, n5, n6, n7, n8, n9, n10, n11, c1, c2, c3, c4, c5, c6, c7, c8, c9, c10, c11, hcs, hses⟩ := hop
  obtain rfl : cs = #[.int .i64 ver, .string s1, .int .u64 o1, .int .u64 o2, .string s2', .string s3, .string s4, .string name, .slice A1 n1 c1, .slice A2 n2 c2, .slice A3 n3 c3, .slice A4 n4 c4, .slice A5 n5 c5, .slice A6 n6 c6, .slice A7 n7 c7, .slice A8 n8 c8, .slice A9 n9 c9, .slice A10 n10 c10, .slice A11 n11 c11] := by cases cs; simpa using hcs
  obtain ⟨lb, hlb, h6b⟩ := hses.r6.bands
  obtain ⟨la, hla, h8⟩ := hses.r10.attrs
  obtain ⟨lm, hlm, hmd⟩ := meds_of (w := W) (A7 := A7) (A11 := A11) (n6 := n6) (n7 := n7) (n8 := n8) (n10 := n10) (n11 := n11)
  subst hlb hla hlm
  clear hcs hf hsz
  obtain ⟨z1, rfl, rfl, rfl, hw1⟩ := open_int Tryz.underlying3 (hval 1 3 v1 rfl rfl) h_1
  obtain ⟨s2, rfl, rfl, rfl, hw2⟩ := open_string Tryz.underlying9 (hval 2 9 v2 rfl rfl) h_2
  simp only [List.append_nil] at hW'
  have hlt0 : ∀ x ∈ p0, x.block < W.heap.size := fun x hx => hW'.lt x (by simp [hx])
  obtain ⟨ae, h6⟩ := eof_of_laid (Go.laidMet.tail (Go.laidMet.tail (Go.laidMet.tail (Go.laidMet.tail (Go.laidMet.tail (x := ("math/bits.deBruijn32tab", Rows.laid_math_bits_deBruijn32tab)) hL)))))
  refine (fnAttribute_walk hses h6b h8 hmd h6).mono fun e W' ⟨he, hg⟩ => ?_
  subst he
  have hbelow : Below W.heap.size W W' := (hg.mono (fun _ hk => hk.elim) : Ch (fun k => W.heap.size ≤ k) W W').below (Nat.le_refl _)
  refine ⟨_, rfl, _, _, _, [], p0 ++ ([] ++ ([] ++ ([]))), [], hW', ?_, ?_, ?_, hg.kept _, fun h => by cases h⟩
  · exact trodAll_cons_mk (shut_bool Tryz.underlying4 _) trodAll_mk0
  · exact trodAll_cons_mk (Below.trod laidOut (by kernel_rfl) (of_decide_eq_true (by kernel_rfl)) h_0k hbelow hlt0) (trodAll_cons_mk (shut_int Tryz.underlying3 hw1) (trodAll_cons_mk (shut_string Tryz.underlying9 hw2) (trodAll_mk0)))
  · rfl

theorem laid_met (os : Os) : laidMetH Tryz.prog Rows.fnAttributeRow.laid ((laidWorld os).forCall (fun _ _ => 0) ⟨#[], #[.agg #[.int .i64 0, .string ⟨#[]⟩, .int .u64 0, .int .u64 0, .string ⟨#[]⟩, .string ⟨#[]⟩, .string ⟨#[]⟩, .string ⟨#[]⟩, .slice none 0 0, .slice none 0 0, .slice none 0 0, .slice none 0 0, .slice none 0 0, .slice none 0 0, .slice none 0 0, .slice none 0 0, .slice none 0 0, .slice none 0 0, .slice none 0 0], .int .i64 0, .string ⟨#[]⟩], []⟩).memory :=
  laidMet_of_run' 8 (by kernel_rfl) (by kernel_rfl)
theorem reads (os : Os) {H : Type} (enc : TypeId × Value → H) : ∃ places, DataW.whole enc Tryz.prog ((laidWorld os).forCall (fun _ _ => 0) ⟨#[], #[.agg #[.int .i64 0, .string ⟨#[]⟩, .int .u64 0, .int .u64 0, .string ⟨#[]⟩, .string ⟨#[]⟩, .string ⟨#[]⟩, .string ⟨#[]⟩, .slice none 0 0, .slice none 0 0, .slice none 0 0, .slice none 0 0, .slice none 0 0, .slice none 0 0, .slice none 0 0, .slice none 0 0, .slice none 0 0, .slice none 0 0, .slice none 0 0], .int .i64 0, .string ⟨#[]⟩], []⟩).memory Tryz.f9.params.toList Rows.fnAttributeSpec.vars false (#[.agg #[.int .i64 0, .string ⟨#[]⟩, .int .u64 0, .int .u64 0, .string ⟨#[]⟩, .string ⟨#[]⟩, .string ⟨#[]⟩, .string ⟨#[]⟩, .slice none 0 0, .slice none 0 0, .slice none 0 0, .slice none 0 0, .slice none 0 0, .slice none 0 0, .slice none 0 0, .slice none 0 0, .slice none 0 0, .slice none 0 0, .slice none 0 0], .int .i64 0, .string ⟨#[]⟩] : Array Value).toList 8 = some ([.agg [.lit (.int .i64 0), .agg [.lit (.string []), .lit (.int .u64 0), .lit (.int .u64 0), .lit (.string []), .lit (.string []), .lit (.string [])], .lit (.string []), .nil, .nil, .nil, .nil, .nil, .nil, .nil, .nil, .nil, .nil, .nil], .lit (.int .i64 0), .lit (.string [])], [], places) :=
  ⟨[], by kernel_rfl⟩

set_option maxRecDepth 100000 in
theorem lifted (os : Os) (started : os.Started) (H : Type) (enc : TypeId × Value → H) (F : Stop.Interp) :
    ReturnsInHanded {} Tryz.checked os 9 .any ((OpenSpec.ofChange Rows.fnAttributeSpec).preRow enc Tryz.prog Tryz.f9 Rows.fnAttributeRow.domain false Rows.fnAttributeRow.laid) (((OpenSpec.ofChange Rows.fnAttributeSpec).at F).post enc Tryz.prog Tryz.f9 false true false false) := by
  obtain ⟨places, hx⟩ := reads os enc
  refine returnsInHanded_of_row (C := Tryz.checked) (s := OpenSpec.ofChange Rows.fnAttributeSpec) own started (by kernel_rfl) Tryz.func9
    (witness_row_at (enc := enc) (C := Tryz.checked) false (laidWorld os) #[.agg #[.int .i64 0, .string ⟨#[]⟩, .int .u64 0, .int .u64 0, .string ⟨#[]⟩, .string ⟨#[]⟩, .string ⟨#[]⟩, .string ⟨#[]⟩, .slice none 0 0, .slice none 0 0, .slice none 0 0, .slice none 0 0, .slice none 0 0, .slice none 0 0, .slice none 0 0, .slice none 0 0, .slice none 0 0, .slice none 0 0, .slice none 0 0], .int .i64 0, .string ⟨#[]⟩] rfl (by kernel_rfl) (by kernel_rfl) (by kernel_rfl)
      (OpenSpec.preRow_of_cond 8 hx (by kernel_rfl) (fun k hk => by cases hk) (by kernel_rfl) (laid_met os))) ?_
  intro W base args ds gs before hval hW _ _ _ hL _ _
  exact contract H enc W base args ds gs before hval hW hL

theorem noInstance : Tryz.f9.isInstance Tryz.prog Rows.fnAttributeRow.origin Rows.fnAttributeRow.targs := of_decide_eq_true (by kernel_rfl)
theorem noWrapper : Tryz.f9.isWrapper Tryz.prog Rows.fnAttributeRow.wrapper Rows.fnAttributeRow.mainSum := by unfold Func.isWrapper; first | (rw [if_pos (by decide +kernel)]; kernel_rfl) | (rw [if_neg (by decide +kernel)]; exact ⟨rfl, rfl⟩)
theorem named9 : Tryz.prog.funcNamed "pionsdp/laws.FnAttribute" = some 9 := by kernel_rfl
theorem said : Rows.FnAttributeSaid :=
  OpenClaim.holds_of_cond 9 Tryz.f9 rfl rfl rfl rfl rfl rfl rfl ⟨rfl, rfl, rfl, rfl, rfl⟩ rfl rfl rfl rfl rfl named9 Tryz.func9 closed noInstance noWrapper
    (fun os started H enc _ F => by rw [OpenClaim.pre_eq_preRow]; exact lifted os started H enc F)

theorem stand3 : Tryz.prog.wantsStandIn 3 = false := by kernel_rfl
theorem stand9 : Tryz.prog.wantsStandIn 9 = false := by kernel_rfl
theorem stand36 : Tryz.prog.wantsStandIn 36 = false := by kernel_rfl
theorem plain (f : FuncId) (fn : Func) (hf : Tryz.pinned.checked.prog.funcNamed "pionsdp/laws.FnAttribute" = some f) (hfn : Tryz.pinned.checked.prog.funcs[f]? = some fn) :
    true = Tryz.pinned.checked.prog.looks [] ∧ ∀ (j : Nat) t, fn.params[j]? = some t → Tryz.pinned.checked.prog.wantsStandIn t = false := by
  obtain rfl : f = 9 := Option.some.inj (named9.symm.trans hf) |>.symm
  obtain rfl : fn = Tryz.f9 := (Option.some.inj (Tryz.func9.symm.trans hfn)).symm
  refine ⟨by kernel_rfl, fun j t ht => ?_⟩
  rw [Tryz.params9] at ht
  have hm := Array.mem_of_getElem? ht
  simp only [List.mem_toArray, List.mem_cons, List.not_mem_nil, or_false] at hm
  rcases hm with rfl | rfl | rfl
  · exact stand36
  · exact stand3
  · exact stand9

/-- The card. -/
theorem card : Rows.FnAttributeCardSaid :=
  Claim7.holds_tied_plain_at .later [] _ _ _ _ said (fun _ h => by cases h) (by kernel_rfl) (fun _ h => by cases h) fnAttribute_row_tie rfl ⟨rfl, rfl⟩ (by kernel_rfl) rfl plain (by kernel_rfl)
#print axioms card
end Go.Proofs.YtimonhimfioohaaGreatDoor.fnAttribute
