/- The law FnDirection returns true at every number, in every world whose listed variables hold what the program's text lays in them. -/
import Derived.Test.YtimonhimfioohaaGreatDoorLaid
import Derived.Test.YtimonhimfioohaaGreatDoorDirection
namespace Go.Proofs.YtimonhimfioohaaGreatDoor.fnDirection
open Go.ChangeShapes Go.WideShapes Go.ChangeAt Go.RowKit

set_option maxRecDepth 100000 in
theorem contract (H : Type) (enc : TypeId × Value → H) (W : World) (base : Nat) (args : Array Value) (ds gs : List (DataW H)) (before : List MemPlace)
    (hval : ∀ (j : Nat) t v, Tryz.f7.params[j]? = some t → args[j]? = some v → Value.okWide Tryz.prog W .any base t v)
    (hW : DataW.Whole enc Tryz.prog Tryz.f7.params.toList Rows.fnDirectionSpec.vars false W args.toList ds gs before) (hL : laidMetH Tryz.prog Rows.fnDirectionRow.laid W) :
    Calls Tryz.prog 7 args W fun e W' => ∃ v, e = .returned v ∧ Rows.fnDirectionSpec.post enc Tryz.prog Tryz.f7 false true false false W args v W' := by
  have hW' := hW
  obtain ⟨p, q, hA0, hV, rfl, hfz, hnd⟩ := hW
  have hA : DataW.TrodAll enc Tryz.prog W 0 (fun _ => true) true Tryz.f7.params.toList args.toList ds p := hA0
  rw [Tryz.params7] at hA hval
  obtain ⟨v0, vs0, d0, ds0, p0, q0, hargs, rfl, rfl, h0, r0⟩ := trodAll_cons hA
  obtain ⟨rfl, rfl, rfl⟩ := trodAll_nil r0
  obtain rfl : args = #[v0] := by cases args; simp_all
  obtain ⟨rfl, rfl⟩ := trodVars_none hV
  obtain ⟨n, rfl, rfl, rfl, hwn⟩ := open_int Tryz.underlying3 (hval 0 3 v0 rfl rfl) h0
  clear hA0
  simp only [List.append_nil] at hW'
  obtain ⟨ae, h6⟩ := eof_of_laid (Go.laidMet.tail (Go.laidMet.tail (Go.laidMet.tail (Go.laidMet.tail (Go.laidMet.tail (x := ("math/bits.deBruijn32tab", Rows.laid_math_bits_deBruijn32tab)) hL)))))
  refine (fnDirection_walk h6 (lt_of_cell h6)).mono fun e W' ⟨he, hg⟩ => ?_
  subst he
  refine ⟨_, rfl, _, _, _, [], [], [], hW', ?_, ?_, ?_, hg.kept _, fun h => by cases h⟩
  · exact trodAll_cons_mk (shut_bool Tryz.underlying4 _) trodAll_mk0
  · exact trodAll_cons_mk (shut_int Tryz.underlying3 hwn) trodAll_mk0
  · rfl

theorem laid_met (os : Os) : laidMetH Tryz.prog Rows.fnDirectionRow.laid ((laidWorld os).forCall (fun _ _ => 0) ⟨#[], #[.int .i64 0], []⟩).memory :=
  laidMet_of_run' 8 (by kernel_rfl) (by kernel_rfl)
theorem reads (os : Os) {H : Type} (enc : TypeId × Value → H) : ∃ places, DataW.whole enc Tryz.prog ((laidWorld os).forCall (fun _ _ => 0) ⟨#[], #[.int .i64 0], []⟩).memory Tryz.f7.params.toList Rows.fnDirectionSpec.vars false #[Value.int .i64 0].toList 8 = some ([.lit (.int .i64 0)], [], places) :=
  ⟨[], by kernel_rfl⟩

set_option maxRecDepth 100000 in
theorem lifted (os : Os) (started : os.Started) (H : Type) (enc : TypeId × Value → H) (F : Stop.Interp) :
    ReturnsInHanded {} Tryz.checked os 7 .any ((OpenSpec.ofChange Rows.fnDirectionSpec).preRow enc Tryz.prog Tryz.f7 Rows.fnDirectionRow.domain false Rows.fnDirectionRow.laid) (((OpenSpec.ofChange Rows.fnDirectionSpec).at F).post enc Tryz.prog Tryz.f7 false true false false) := by
  obtain ⟨places, hx⟩ := reads os enc
  refine returnsInHanded_of_row (C := Tryz.checked) (s := OpenSpec.ofChange Rows.fnDirectionSpec) own started (by kernel_rfl) Tryz.func7
    (witness_row_at (enc := enc) (C := Tryz.checked) false (laidWorld os) #[.int .i64 0] rfl (by kernel_rfl) (by kernel_rfl) (by kernel_rfl)
      (OpenSpec.preRow_of_cond 8 hx (by kernel_rfl) (fun k hk => by cases hk) (by kernel_rfl) (laid_met os))) ?_
  intro W base args ds gs before hval hW _ _ _ hL _ _
  exact contract H enc W base args ds gs before hval hW hL

theorem closed : joinedFacts Tryz.prog 7 Tryz.f7 (OpenSpec.ofChange Rows.fnDirectionSpec).bare Rows.fnDirectionRow = true := by kernel_rfl
theorem noInstance : Tryz.f7.isInstance Tryz.prog Rows.fnDirectionRow.origin Rows.fnDirectionRow.targs := of_decide_eq_true (by kernel_rfl)
theorem noWrapper : Tryz.f7.isWrapper Tryz.prog Rows.fnDirectionRow.wrapper Rows.fnDirectionRow.mainSum := by unfold Func.isWrapper; first | (rw [if_pos (by decide +kernel)]; kernel_rfl) | (rw [if_neg (by decide +kernel)]; exact ⟨rfl, rfl⟩)
theorem named7 : Tryz.prog.funcNamed "pionsdp/laws.FnDirection" = some 7 := by kernel_rfl
theorem said : Rows.FnDirectionSaid :=
  OpenClaim.holds_of_cond 7 Tryz.f7 rfl rfl rfl rfl rfl rfl rfl ⟨rfl, rfl, rfl, rfl, rfl⟩ rfl rfl rfl rfl rfl named7 Tryz.func7 closed noInstance noWrapper
    (fun os started H enc _ F => by rw [OpenClaim.pre_eq_preRow]; exact lifted os started H enc F)

theorem plain (f : FuncId) (fn : Func) (hf : Tryz.pinned.checked.prog.funcNamed "pionsdp/laws.FnDirection" = some f) (hfn : Tryz.pinned.checked.prog.funcs[f]? = some fn) :
    true = Tryz.pinned.checked.prog.looks [] ∧ ∀ (j : Nat) t, fn.params[j]? = some t → Tryz.pinned.checked.prog.wantsStandIn t = false := by
  obtain rfl : f = 7 := Option.some.inj ((show Tryz.prog.funcNamed "pionsdp/laws.FnDirection" = some 7 by kernel_rfl).symm.trans hf) |>.symm
  obtain rfl : fn = Tryz.f7 := (Option.some.inj (Tryz.func7.symm.trans hfn)).symm
  refine ⟨by kernel_rfl, fun j t ht => ?_⟩
  rw [Tryz.params7] at ht
  obtain rfl : t = 3 := by simpa using Array.mem_of_getElem? ht
  exact (show Tryz.prog.wantsStandIn 3 = false by kernel_rfl)

/-- The card. -/
theorem card : Rows.FnDirectionCardSaid :=
  Claim7.holds_tied_plain_at .later [] _ _ _ _ said (fun _ h => by cases h) (by kernel_rfl) (fun _ h => by cases h) fnDirection_row_tie rfl ⟨rfl, rfl⟩ (by kernel_rfl) rfl plain (by kernel_rfl)
#print axioms card
end Go.Proofs.YtimonhimfioohaaGreatDoor.fnDirection
