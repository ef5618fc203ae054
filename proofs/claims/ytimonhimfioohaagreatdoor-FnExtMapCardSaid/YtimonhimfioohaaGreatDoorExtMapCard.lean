/- The law FnExtMap returns true at every number, direction, URI and attribute, in every world whose listed variables hold what the text of the program lays in them. -/
import Derived.Test.YtimonhimfioohaaGreatDoorLaid
import Derived.Test.YtimonhimfioohaaGreatDoorExtMapLaw
import Derived.Test.YtimonhimfioohaaGreatDoorExtMapClosed
import Derived.Test.YtimonhimfioohaaGreatDoorOpen
import Derived.Test.YtimonhimfioohaaGreatDoorExtLaid
import Derived.Deep.DeepWitnessRowRef
import Derived.ChangeMaps5
import Derived.Carry
namespace Go.Proofs.YtimonhimfioohaaGreatDoor.fnExtMap
open Go.ChangeShapes Go.WideShapes Go.ChangeAt Go.ChangeMaps Go.RowKit

theorem tab_of_laid {W : World} {r : List (String × DataW Unit)} (h : laidMet Tryz.prog (("internal/strconv.uint64pow10", Rows.laid_internal_strconv_uint64pow10) :: r) W) : Lib.TabIs Tryz.prog W "internal/strconv.uint64pow10" .u64 Lib.pow10Tab :=
  Lib.tabIs_of_head (t := 309) (e := 25) (n := 20) gTab (by kernel_rfl) Tryz.underlying309 Tryz.underlying25 (by kernel_rfl) (by kernel_rfl) h

theorem gAscii : Tryz.prog.globalNamed "strings.asciiSpace" = some 5 := by kernel_rfl
set_option maxRecDepth 100000 in
theorem ascii_of_laid {W : World} {r : List (String × DataW Unit)} (h : laidMet Tryz.prog (("strings.asciiSpace", Rows.laid_strings_asciiSpace) :: r) W) : AsciiT W := fun c hc => by
  have htab : Lib.TabIs Tryz.prog W "strings.asciiSpace" .u8 Lib.asciiSpaceTab := Lib.tabIs_of_head (t := 268) (e := 5) (n := 256) gAscii (by kernel_rfl) Tryz.underlying268 Tryz.underlying5 (by kernel_rfl) (by kernel_rfl) h
  rw [htab.cell gAscii c (by rw [Lib.asciiSpaceTab_length]; exact hc), Lib.asciiSpaceTab_at c hc]
set_option maxRecDepth 100000 in
theorem contract (H : Type) (enc : TypeId × Value → H) (W : World) (base : Nat) (args : Array Value) (ds gs : List (DataW H)) (before : List MemPlace)
    (hval : ∀ (j : Nat) t v, Tryz.f11.params[j]? = some t → args[j]? = some v → Value.okWide Tryz.prog W .any base t v)
    (hW : DataW.Whole enc Tryz.prog Tryz.f11.params.toList Rows.fnExtMapSpec.vars false W args.toList ds gs before) (hL : laidMetH Tryz.prog Rows.fnExtMapRow.laid W) :
    Calls Tryz.prog 11 args W fun e W' => ∃ v, e = .returned v ∧ Rows.fnExtMapSpec.post enc Tryz.prog Tryz.f11 false true false false W args v W' := by
  have hW' := hW
  obtain ⟨p, q, hA0, hV, rfl, _, _⟩ := hW
  have hA : DataW.TrodAll enc Tryz.prog W 0 (fun _ => true) true Tryz.f11.params.toList args.toList ds p := hA0
  rw [Tryz.params11] at hA hval
  obtain ⟨v0, vs0, d0, ds0, p0, q0, hargs0, rfl, rfl, h_0, r0⟩ := trodAll_cons hA
  obtain ⟨v1, vs1, d1, ds1, p1, q1, hargs1, rfl, rfl, h_1, r1⟩ := trodAll_cons r0
  obtain ⟨v2, vs2, d2, ds2, p2, q2, hargs2, rfl, rfl, h_2, r2⟩ := trodAll_cons r1
  obtain ⟨v3, vs3, d3, ds3, p3, q3, hargs3, rfl, rfl, h_3, r3⟩ := trodAll_cons r2
  obtain ⟨rfl, rfl, rfl⟩ := trodAll_nil r3
  obtain rfl : args = #[v0, v1, v2, v3] := by cases args; simp_all
  obtain ⟨rfl, rfl⟩ := trodVars_none hV
  clear hA0 hargs0 hargs1 hargs2 hargs3
  obtain ⟨z1, rfl, rfl, rfl, hw0⟩ := open_int Tryz.underlying3 (hval 0 3 v0 rfl rfl) h_0
  obtain ⟨z2, rfl, rfl, rfl, hw1⟩ := open_int Tryz.underlying3 (hval 1 3 v1 rfl rfl) h_1
  obtain ⟨s3, rfl, rfl, rfl, hw2⟩ := open_string Tryz.underlying9 (hval 2 9 v2 rfl rfl) h_2
  obtain ⟨s4, rfl, rfl, rfl, hw3⟩ := open_string Tryz.underlying9 (hval 3 9 v3 rfl rfl) h_3
  simp only [List.append_nil] at hW'
  have htab := tab_of_laid (Go.laidMet.tail (Go.laidMet.tail (x := ("math/bits.deBruijn32tab", Rows.laid_math_bits_deBruijn32tab)) hL))
  obtain ⟨ae, h6⟩ := eof_of_laid (Go.laidMet.tail (Go.laidMet.tail (Go.laidMet.tail (Go.laidMet.tail (Go.laidMet.tail (x := ("math/bits.deBruijn32tab", Rows.laid_math_bits_deBruijn32tab)) hL)))))
  have hT : AsciiT W := ascii_of_laid (Go.laidMet.tail (Go.laidMet.tail (Go.laidMet.tail (Go.laidMet.tail (Go.laidMet.tail (Go.laidMet.tail (Go.laidMet.tail (x := ("math/bits.deBruijn32tab", Rows.laid_math_bits_deBruijn32tab)) hL)))))))
  refine (fnExtMap_walk hT htab h6).mono fun e W' ⟨he, hg⟩ => ?_
  subst he
  have hbelow : Below W.heap.size W W' := (hg.mono (fun _ hk => hk.elim) : Ch (fun k => W.heap.size ≤ k) W W').below (Nat.le_refl _)
  refine ⟨_, rfl, _, _, _, [], [] ++ ([] ++ ([] ++ ([] ++ ([])))), [], hW', ?_, ?_, ?_, hg.kept _, fun h => by cases h⟩
  · exact trodAll_cons_mk (shut_bool Tryz.underlying4 _) trodAll_mk0
  · exact trodAll_cons_mk (shut_int Tryz.underlying3 hw0) (trodAll_cons_mk (shut_int Tryz.underlying3 hw1) (trodAll_cons_mk (shut_string Tryz.underlying9 hw2) (trodAll_cons_mk (shut_string Tryz.underlying9 hw3) (trodAll_mk0))))
  · rfl

theorem laid_met (os : Os) : laidMetH Tryz.prog Rows.fnExtMapRow.laid ((laidWorldX os).forCall (fun _ _ => 0) ⟨#[], #[.int .i64 0, .int .i64 0, .string ⟨#[]⟩, .string ⟨#[]⟩], []⟩).memory :=
  laidMet_of_run' 8 (by kernel_rfl) (by kernel_rfl)
theorem reads (os : Os) {H : Type} (enc : TypeId × Value → H) : ∃ places, DataW.whole enc Tryz.prog ((laidWorldX os).forCall (fun _ _ => 0) ⟨#[], #[.int .i64 0, .int .i64 0, .string ⟨#[]⟩, .string ⟨#[]⟩], []⟩).memory Tryz.f11.params.toList Rows.fnExtMapSpec.vars false (#[.int .i64 0, .int .i64 0, .string ⟨#[]⟩, .string ⟨#[]⟩] : Array Value).toList 8 = some ([.lit (.int .i64 0), .lit (.int .i64 0), .lit (.string []), .lit (.string [])], [], places) :=
  ⟨[], by kernel_rfl⟩

set_option maxRecDepth 100000 in
theorem lifted (os : Os) (started : os.Started) (H : Type) (enc : TypeId × Value → H) (F : Stop.Interp) :
    ReturnsInHanded {} Tryz.checked os 11 .any ((OpenSpec.ofChange Rows.fnExtMapSpec).preRow enc Tryz.prog Tryz.f11 Rows.fnExtMapRow.domain false Rows.fnExtMapRow.laid) (((OpenSpec.ofChange Rows.fnExtMapSpec).at F).post enc Tryz.prog Tryz.f11 false true false false) := by
  obtain ⟨places, hx⟩ := reads os enc
  refine returnsInHanded_of_row (C := Tryz.checked) (s := OpenSpec.ofChange Rows.fnExtMapSpec) own started (by kernel_rfl) Tryz.func11
    (witness_row_atRef (enc := enc) (C := Tryz.checked) false (laidWorldX os) #[.int .i64 0, .int .i64 0, .string ⟨#[]⟩, .string ⟨#[]⟩] rfl (by kernel_rfl) (by kernel_rfl) (by kernel_rfl)
      (OpenSpec.preRow_of_cond 8 hx (by kernel_rfl) (fun k hk => by cases hk) (by kernel_rfl) (laid_met os))) ?_
  intro W base args ds gs before hval hW _ _ _ hL _ _
  exact contract H enc W base args ds gs before hval hW hL

theorem noInstance : Tryz.f11.isInstance Tryz.prog Rows.fnExtMapRow.origin Rows.fnExtMapRow.targs := of_decide_eq_true (by kernel_rfl)
theorem noWrapper : Tryz.f11.isWrapper Tryz.prog Rows.fnExtMapRow.wrapper Rows.fnExtMapRow.mainSum := by unfold Func.isWrapper; first | (rw [if_pos (by decide +kernel)]; kernel_rfl) | (rw [if_neg (by decide +kernel)]; exact ⟨rfl, rfl⟩)
theorem named11 : Tryz.prog.funcNamed "pionsdp/laws.FnExtMap" = some 11 := by kernel_rfl
theorem said : Rows.FnExtMapSaid :=
  OpenClaim.holds_of_cond 11 Tryz.f11 rfl rfl rfl rfl rfl rfl rfl ⟨rfl, rfl, rfl, rfl, rfl⟩ rfl rfl rfl rfl rfl named11 Tryz.func11 closed noInstance noWrapper
    (fun os started H enc _ F => by rw [OpenClaim.pre_eq_preRow]; exact lifted os started H enc F)

theorem stand3 : Tryz.prog.wantsStandIn 3 = false := by kernel_rfl
theorem stand9 : Tryz.prog.wantsStandIn 9 = false := by kernel_rfl
theorem plain (f : FuncId) (fn : Func) (hf : Tryz.pinned.checked.prog.funcNamed "pionsdp/laws.FnExtMap" = some f) (hfn : Tryz.pinned.checked.prog.funcs[f]? = some fn) :
    true = Tryz.pinned.checked.prog.looks [] ∧ ∀ (j : Nat) t, fn.params[j]? = some t → Tryz.pinned.checked.prog.wantsStandIn t = false := by
  obtain rfl : f = 11 := Option.some.inj (named11.symm.trans hf) |>.symm
  obtain rfl : fn = Tryz.f11 := (Option.some.inj (Tryz.func11.symm.trans hfn)).symm
  refine ⟨by kernel_rfl, fun j t ht => ?_⟩
  rw [Tryz.params11] at ht
  have hm := Array.mem_of_getElem? ht
  simp only [List.mem_toArray, List.mem_cons, List.not_mem_nil, or_false] at hm
  rcases hm with rfl | rfl | rfl | rfl
  · exact stand3
  · exact stand3
  · exact stand9
  · exact stand9

/-- The card. -/
theorem card : Rows.FnExtMapCardSaid :=
  Claim7.holds_tied_plain_at .later [] _ _ _ _ said (fun _ h => by cases h) (by kernel_rfl) (fun _ h => by cases h) fnExtMap_row_tie rfl ⟨rfl, rfl⟩ (by kernel_rfl) rfl plain (by kernel_rfl)
#print axioms card
end Go.Proofs.YtimonhimfioohaaGreatDoor.fnExtMap
