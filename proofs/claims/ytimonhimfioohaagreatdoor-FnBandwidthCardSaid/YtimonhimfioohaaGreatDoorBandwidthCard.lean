/- The law FnBandwidth returns true at every bandwidth, in every world whose listed variables hold what the text of the program lays in them. -/
import Derived.Test.YtimonhimfioohaaGreatDoorLaid
import Derived.Test.YtimonhimfioohaaGreatDoorBandLaw
import Derived.ChangeMaps5
import Derived.Lib.SmallJoins
namespace Go.Proofs.YtimonhimfioohaaGreatDoor.fnBandwidth
open Go.ChangeShapes Go.WideShapes Go.ChangeAt Go.ChangeMaps Go.RowKit

theorem cells45 : Tryz.prog.cellsOf 45 = 3 := by kernel_rfl

set_option maxRecDepth 100000 in
theorem contract (H : Type) (enc : TypeId × Value → H) (W : World) (base : Nat) (args : Array Value) (ds gs : List (DataW H)) (before : List MemPlace)
    (hval : ∀ (j : Nat) t v, Tryz.f6.params[j]? = some t → args[j]? = some v → Value.okWide Tryz.prog W .any base t v)
    (hW : DataW.Whole enc Tryz.prog Tryz.f6.params.toList Rows.fnBandwidthSpec.vars false W args.toList ds gs before) (hL : laidMetH Tryz.prog Rows.fnBandwidthRow.laid W) :
    Calls Tryz.prog 6 args W fun e W' => ∃ v, e = .returned v ∧ Rows.fnBandwidthSpec.post enc Tryz.prog Tryz.f6 false true false false W args v W' := by
  have hW' := hW
  obtain ⟨p, q, hA0, hV, rfl, _, _⟩ := hW
  have hA : DataW.TrodAll enc Tryz.prog W 0 (fun _ => true) true Tryz.f6.params.toList args.toList ds p := hA0
  rw [Tryz.params6] at hA hval
  obtain ⟨v0, vs0, d0, ds0, p0, q0, hargs, rfl, rfl, h0, r0⟩ := trodAll_cons hA
  obtain ⟨rfl, rfl, rfl⟩ := trodAll_nil r0
  obtain rfl : args = #[v0] := by cases args; simp_all
  obtain ⟨rfl, rfl⟩ := trodVars_none hV
  obtain ⟨c0, c1, c2, y0, y1, y2, m, rfl, rfl, rfl, e0, e1, e2⟩ := Joins.open_agg3 Tryz.underlying45 (by kernel_rfl) cells45 (hval 0 45 v0 rfl rfl) h0
  obtain ⟨x, g0, rfl⟩ := DataW.trod_bool Tryz.underlying4 e0
  obtain ⟨s, g1, rfl, hws⟩ := DataW.trod_string Tryz.underlying9 e1
  obtain ⟨z, g2, rfl, hwz⟩ := DataW.trod_int Tryz.underlying25 e2
  obtain rfl : c0 = .bool x := by simpa using g0
  obtain rfl : c1 = .string s := by simpa using g1
  obtain rfl : c2 = .int .u64 z := by simpa using g2
  have hz0 : 0 ≤ z := by
    have h := hwz
    simp only [Lit.wf, Bool.and_eq_true, decide_eq_true_eq] at h
    exact h.1
  obtain ⟨n, rfl⟩ := Int.eq_ofNat_of_zero_le hz0
  clear e0 e1 e2 g0 g1 g2
  clear hA0
  simp only [List.append_nil] at hW'
  obtain ⟨ae, h6⟩ := eof_of_laid (Go.laidMet.tail (Go.laidMet.tail (Go.laidMet.tail (Go.laidMet.tail (Go.laidMet.tail (x := ("math/bits.deBruijn32tab", Rows.laid_math_bits_deBruijn32tab)) hL)))))
  refine (fnBandwidth_walk h6).mono fun e W' ⟨he, hg⟩ => ?_
  subst he
  refine ⟨_, rfl, _, _, _, [], [], [], hW', ?_, ?_, ?_, hg.kept _, fun h => by cases h⟩
  · exact trodAll_cons_mk (shut_bool Tryz.underlying4 _) trodAll_mk0
  · exact trodAll_cons_mk (Joins.shut_agg3 (y0 := (.lit (.bool x), [])) (y1 := (.lit (.string s.data.toList), [])) (y2 := (.lit (.int .u64 n), [])) Tryz.underlying45 (by kernel_rfl) cells45 ⟨1, by simp [DataW.trod, Tryz.underlying4]⟩ ⟨1, by simp [DataW.trod, Tryz.underlying9, hws]⟩ ⟨1, by simp [DataW.trod, Tryz.underlying25, hwz]⟩) trodAll_mk0
  · rfl

theorem laid_met (os : Os) : laidMetH Tryz.prog Rows.fnBandwidthRow.laid ((laidWorld os).forCall (fun _ _ => 0) ⟨#[], #[.agg #[.bool false, .string ⟨#[]⟩, .int .u64 0]], []⟩).memory :=
  laidMet_of_run' 8 (by kernel_rfl) (by kernel_rfl)
theorem reads (os : Os) {H : Type} (enc : TypeId × Value → H) : ∃ places, DataW.whole enc Tryz.prog ((laidWorld os).forCall (fun _ _ => 0) ⟨#[], #[.agg #[.bool false, .string ⟨#[]⟩, .int .u64 0]], []⟩).memory Tryz.f6.params.toList Rows.fnBandwidthSpec.vars false (#[.agg #[.bool false, .string ⟨#[]⟩, .int .u64 0]] : Array Value).toList 8 = some ([.agg [.lit (.bool false), .lit (.string []), .lit (.int .u64 0)]], [], places) :=
  ⟨[], by kernel_rfl⟩

set_option maxRecDepth 100000 in
theorem lifted (os : Os) (started : os.Started) (H : Type) (enc : TypeId × Value → H) (F : Stop.Interp) :
    ReturnsInHanded {} Tryz.checked os 6 .any ((OpenSpec.ofChange Rows.fnBandwidthSpec).preRow enc Tryz.prog Tryz.f6 Rows.fnBandwidthRow.domain false Rows.fnBandwidthRow.laid) (((OpenSpec.ofChange Rows.fnBandwidthSpec).at F).post enc Tryz.prog Tryz.f6 false true false false) := by
  obtain ⟨places, hx⟩ := reads os enc
  refine returnsInHanded_of_row (C := Tryz.checked) (s := OpenSpec.ofChange Rows.fnBandwidthSpec) own started (by kernel_rfl) Tryz.func6
    (witness_row_at (enc := enc) (C := Tryz.checked) false (laidWorld os) #[.agg #[.bool false, .string ⟨#[]⟩, .int .u64 0]] rfl (by kernel_rfl) (by kernel_rfl) (by kernel_rfl)
      (OpenSpec.preRow_of_cond 8 hx (by kernel_rfl) (fun k hk => by cases hk) (by kernel_rfl) (laid_met os))) ?_
  intro W base args ds gs before hval hW _ _ _ hL _ _
  exact contract H enc W base args ds gs before hval hW hL

theorem closed : joinedFacts Tryz.prog 6 Tryz.f6 (OpenSpec.ofChange Rows.fnBandwidthSpec).bare Rows.fnBandwidthRow = true := by kernel_rfl
theorem noInstance : Tryz.f6.isInstance Tryz.prog Rows.fnBandwidthRow.origin Rows.fnBandwidthRow.targs := of_decide_eq_true (by kernel_rfl)
theorem noWrapper : Tryz.f6.isWrapper Tryz.prog Rows.fnBandwidthRow.wrapper Rows.fnBandwidthRow.mainSum := by unfold Func.isWrapper; first | (rw [if_pos (by decide +kernel)]; kernel_rfl) | (rw [if_neg (by decide +kernel)]; exact ⟨rfl, rfl⟩)
theorem named6 : Tryz.prog.funcNamed "pionsdp/laws.FnBandwidth" = some 6 := by kernel_rfl
theorem said : Rows.FnBandwidthSaid :=
  OpenClaim.holds_of_cond 6 Tryz.f6 rfl rfl rfl rfl rfl rfl rfl ⟨rfl, rfl, rfl, rfl, rfl⟩ rfl rfl rfl rfl rfl named6 Tryz.func6 closed noInstance noWrapper
    (fun os started H enc _ F => by rw [OpenClaim.pre_eq_preRow]; exact lifted os started H enc F)

theorem plain (f : FuncId) (fn : Func) (hf : Tryz.pinned.checked.prog.funcNamed "pionsdp/laws.FnBandwidth" = some f) (hfn : Tryz.pinned.checked.prog.funcs[f]? = some fn) :
    true = Tryz.pinned.checked.prog.looks [] ∧ ∀ (j : Nat) t, fn.params[j]? = some t → Tryz.pinned.checked.prog.wantsStandIn t = false := by
  obtain rfl : f = 6 := Option.some.inj (named6.symm.trans hf) |>.symm
  obtain rfl : fn = Tryz.f6 := (Option.some.inj (Tryz.func6.symm.trans hfn)).symm
  refine ⟨by kernel_rfl, fun j t ht => ?_⟩
  rw [Tryz.params6] at ht
  obtain rfl : t = 45 := by simpa using Array.mem_of_getElem? ht
  exact (show Tryz.prog.wantsStandIn 45 = false by kernel_rfl)

/-- The card. -/
theorem card : Rows.FnBandwidthCardSaid :=
  Claim7.holds_tied_plain_at .later [] _ _ _ _ said (fun _ h => by cases h) (by kernel_rfl) (fun _ h => by cases h) fnBandwidth_row_tie rfl ⟨rfl, rfl⟩ (by kernel_rfl) rfl plain (by kernel_rfl)
#print axioms card
end Go.Proofs.YtimonhimfioohaaGreatDoor.fnBandwidth
