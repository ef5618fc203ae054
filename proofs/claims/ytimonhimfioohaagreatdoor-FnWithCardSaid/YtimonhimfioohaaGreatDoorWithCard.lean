/- The law FnWith returns true at every medium, key, value, numbers, name and parameters, in every world whose listed variables hold what the text of the program lays in them. -/
import Derived.Test.YtimonhimfioohaaGreatDoorLaid
import Derived.Test.YtimonhimfioohaaGreatDoorWithLaw
import Derived.Test.YtimonhimfioohaaGreatDoorWithClosed
import Derived.Test.YtimonhimfioohaaGreatDoorOpen
import Derived.ChangeMaps5
import Derived.Carry
namespace Go.Proofs.YtimonhimfioohaaGreatDoor.fnWith
open Go.ChangeShapes Go.WideShapes Go.ChangeAt Go.ChangeMaps Go.RowKit

theorem tab_of_laid {W : World} {r : List (String × DataW Unit)} (h : laidMet Tryz.prog (("internal/strconv.uint64pow10", Rows.laid_internal_strconv_uint64pow10) :: r) W) : Lib.TabIs Tryz.prog W "internal/strconv.uint64pow10" .u64 Lib.pow10Tab :=
  Lib.tabIs_of_head (t := 309) (e := 25) (n := 20) gTab (by kernel_rfl) Tryz.underlying309 Tryz.underlying25 (by kernel_rfl) (by kernel_rfl) h

set_option maxRecDepth 100000 in
theorem contract (H : Type) (enc : TypeId × Value → H) (W : World) (base : Nat) (args : Array Value) (ds gs : List (DataW H)) (before : List MemPlace)
    (hval : ∀ (j : Nat) t v, Tryz.f10.params[j]? = some t → args[j]? = some v → Value.okWide Tryz.prog W .any base t v)
    (hW : DataW.Whole enc Tryz.prog Tryz.f10.params.toList Rows.fnWithSpec.vars false W args.toList ds gs before) (hL : laidMetH Tryz.prog Rows.fnWithRow.laid W) :
    Calls Tryz.prog 10 args W fun e W' => ∃ v, e = .returned v ∧ Rows.fnWithSpec.post enc Tryz.prog Tryz.f10 false true false false W args v W' := by
  have hW' := hW
  obtain ⟨p, q, hA0, hV, rfl, _, _⟩ := hW
  have hA : DataW.TrodAll enc Tryz.prog W 0 (fun _ => true) true Tryz.f10.params.toList args.toList ds p := hA0
  rw [Tryz.params10] at hA hval
  obtain ⟨v0, vs0, d0, ds0, p0, q0, hargs0, rfl, rfl, h_0, r0⟩ := trodAll_cons hA
  obtain ⟨v1, vs1, d1, ds1, p1, q1, hargs1, rfl, rfl, h_1, r1⟩ := trodAll_cons r0
  obtain ⟨v2, vs2, d2, ds2, p2, q2, hargs2, rfl, rfl, h_2, r2⟩ := trodAll_cons r1
  obtain ⟨v3, vs3, d3, ds3, p3, q3, hargs3, rfl, rfl, h_3, r3⟩ := trodAll_cons r2
  obtain ⟨v4, vs4, d4, ds4, p4, q4, hargs4, rfl, rfl, h_4, r4⟩ := trodAll_cons r3
  obtain ⟨v5, vs5, d5, ds5, p5, q5, hargs5, rfl, rfl, h_5, r5⟩ := trodAll_cons r4
  obtain ⟨v6, vs6, d6, ds6, p6, q6, hargs6, rfl, rfl, h_6, r6⟩ := trodAll_cons r5
  obtain ⟨v7, vs7, d7, ds7, p7, q7, hargs7, rfl, rfl, h_7, r7⟩ := trodAll_cons r6
  obtain ⟨rfl, rfl, rfl⟩ := trodAll_nil r7
  obtain rfl : args = #[v0, v1, v2, v3, v4, v5, v6, v7] := by cases args; simp_all
  obtain ⟨rfl, rfl⟩ := trodVars_none hV
  clear hA0 hargs0 hargs1 hargs2 hargs3 hargs4 hargs5 hargs6 hargs7
  have h_0k := h_0
  obtain ⟨cs, rfl, hsz⟩ := okWide_struct Tryz.underlying66 (hval 0 66 v0 rfl rfl)
  obtain ⟨fuel, hf⟩ := h_0
  have hop : isMedia W cs.toList := open_media (y := (d0, p0)) (by simpa [Value.cells] using hf)
  obtain ⟨name, port, A1, A2, A3, A4, A5, A6, A7, A8, n1, n2, n3, n4, n5, n6, n7, n8, c1, c2, c3, c4, c5, c6, c7, c8, hcs, hmed⟩ := hop
  unfold medCells at hcs
  obtain rfl : cs = #[.string name, .int .i64 port, .slice A1 n1 c1, .slice A2 n2 c2, .slice A3 n3 c3, .slice A4 n4 c4, .slice A5 n5 c5, .slice A6 n6 c6, .slice A7 n7 c7, .slice A8 n8 c8] := by cases cs; simpa using hcs
  obtain ⟨lp, hlp, h2⟩ := hmed.r2.strs
  obtain ⟨lf, hlf, h3⟩ := hmed.r3.strs
  obtain ⟨lb, hlb, h6b⟩ := hmed.r6.bands
  obtain ⟨la, hla, h8⟩ := hmed.r8.attrs
  subst hlp hlf hlb hla
  clear hcs hf hsz
  obtain ⟨s1, rfl, rfl, rfl, hw1⟩ := open_string Tryz.underlying9 (hval 1 9 v1 rfl rfl) h_1
  obtain ⟨s2, rfl, rfl, rfl, hw2⟩ := open_string Tryz.underlying9 (hval 2 9 v2 rfl rfl) h_2
  obtain ⟨z3, rfl, rfl, rfl, hw3⟩ := open_int Tryz.underlying3 (hval 3 3 v3 rfl rfl) h_3
  obtain ⟨z4, rfl, rfl, rfl, hw4⟩ := open_int Tryz.underlying3 (hval 4 3 v4 rfl rfl) h_4
  obtain ⟨z5, rfl, rfl, rfl, hw5⟩ := open_int Tryz.underlying3 (hval 5 3 v5 rfl rfl) h_5
  obtain ⟨s6, rfl, rfl, rfl, hw6⟩ := open_string Tryz.underlying9 (hval 6 9 v6 rfl rfl) h_6
  obtain ⟨s7, rfl, rfl, rfl, hw7⟩ := open_string Tryz.underlying9 (hval 7 9 v7 rfl rfl) h_7
  simp only [List.append_nil] at hW'
  have hlt0 : ∀ x ∈ p0, x.block < W.heap.size := fun x hx => hW'.lt x (by simp [hx])
  have htab := tab_of_laid (Go.laidMet.tail (Go.laidMet.tail (x := ("math/bits.deBruijn32tab", Rows.laid_math_bits_deBruijn32tab)) hL))
  obtain ⟨ae, h6⟩ := eof_of_laid (Go.laidMet.tail (Go.laidMet.tail (Go.laidMet.tail (Go.laidMet.tail (Go.laidMet.tail (x := ("math/bits.deBruijn32tab", Rows.laid_math_bits_deBruijn32tab)) hL)))))
  refine (fnWith_walk hmed h2 h3 h6b h8 htab h6).mono fun e W' ⟨he, hg⟩ => ?_
  subst he
  have hbelow : Below W.heap.size W W' := (hg.mono (fun _ hk => hk.elim) : Ch (fun k => W.heap.size ≤ k) W W').below (Nat.le_refl _)
  refine ⟨_, rfl, _, _, _, [], p0 ++ ([] ++ ([] ++ ([] ++ ([] ++ ([] ++ ([] ++ ([] ++ ([])))))))), [], hW', ?_, ?_, ?_, hg.kept _, fun h => by cases h⟩
  · exact trodAll_cons_mk (shut_bool Tryz.underlying4 _) trodAll_mk0
  · exact trodAll_cons_mk (Below.trod laidOut (by kernel_rfl) (of_decide_eq_true (by kernel_rfl)) h_0k hbelow hlt0) (trodAll_cons_mk (shut_string Tryz.underlying9 hw1) (trodAll_cons_mk (shut_string Tryz.underlying9 hw2) (trodAll_cons_mk (shut_int Tryz.underlying3 hw3) (trodAll_cons_mk (shut_int Tryz.underlying3 hw4) (trodAll_cons_mk (shut_int Tryz.underlying3 hw5) (trodAll_cons_mk (shut_string Tryz.underlying9 hw6) (trodAll_cons_mk (shut_string Tryz.underlying9 hw7) (trodAll_mk0))))))))
  · rfl

theorem laid_met (os : Os) : laidMetH Tryz.prog Rows.fnWithRow.laid ((laidWorld os).forCall (fun _ _ => 0) ⟨#[], #[.agg #[.string ⟨#[]⟩, .int .i64 0, .slice none 0 0, .slice none 0 0, .slice none 0 0, .slice none 0 0, .slice none 0 0, .slice none 0 0, .slice none 0 0, .slice none 0 0], .string ⟨#[]⟩, .string ⟨#[]⟩, .int .i64 0, .int .i64 0, .int .i64 0, .string ⟨#[]⟩, .string ⟨#[]⟩], []⟩).memory :=
  laidMet_of_run' 8 (by kernel_rfl) (by kernel_rfl)
theorem reads (os : Os) {H : Type} (enc : TypeId × Value → H) : ∃ places, DataW.whole enc Tryz.prog ((laidWorld os).forCall (fun _ _ => 0) ⟨#[], #[.agg #[.string ⟨#[]⟩, .int .i64 0, .slice none 0 0, .slice none 0 0, .slice none 0 0, .slice none 0 0, .slice none 0 0, .slice none 0 0, .slice none 0 0, .slice none 0 0], .string ⟨#[]⟩, .string ⟨#[]⟩, .int .i64 0, .int .i64 0, .int .i64 0, .string ⟨#[]⟩, .string ⟨#[]⟩], []⟩).memory Tryz.f10.params.toList Rows.fnWithSpec.vars false (#[.agg #[.string ⟨#[]⟩, .int .i64 0, .slice none 0 0, .slice none 0 0, .slice none 0 0, .slice none 0 0, .slice none 0 0, .slice none 0 0, .slice none 0 0, .slice none 0 0], .string ⟨#[]⟩, .string ⟨#[]⟩, .int .i64 0, .int .i64 0, .int .i64 0, .string ⟨#[]⟩, .string ⟨#[]⟩] : Array Value).toList 8 = some ([.agg [.lit (.string []), .lit (.int .i64 0), .nil, .nil, .nil, .nil, .nil, .nil, .nil, .nil], .lit (.string []), .lit (.string []), .lit (.int .i64 0), .lit (.int .i64 0), .lit (.int .i64 0), .lit (.string []), .lit (.string [])], [], places) :=
  ⟨[], by kernel_rfl⟩

set_option maxRecDepth 100000 in
theorem lifted (os : Os) (started : os.Started) (H : Type) (enc : TypeId × Value → H) (F : Stop.Interp) :
    ReturnsInHanded {} Tryz.checked os 10 .any ((OpenSpec.ofChange Rows.fnWithSpec).preRow enc Tryz.prog Tryz.f10 Rows.fnWithRow.domain false Rows.fnWithRow.laid) (((OpenSpec.ofChange Rows.fnWithSpec).at F).post enc Tryz.prog Tryz.f10 false true false false) := by
  obtain ⟨places, hx⟩ := reads os enc
  refine returnsInHanded_of_row (C := Tryz.checked) (s := OpenSpec.ofChange Rows.fnWithSpec) own started (by kernel_rfl) Tryz.func10
    (witness_row_at (enc := enc) (C := Tryz.checked) false (laidWorld os) #[.agg #[.string ⟨#[]⟩, .int .i64 0, .slice none 0 0, .slice none 0 0, .slice none 0 0, .slice none 0 0, .slice none 0 0, .slice none 0 0, .slice none 0 0, .slice none 0 0], .string ⟨#[]⟩, .string ⟨#[]⟩, .int .i64 0, .int .i64 0, .int .i64 0, .string ⟨#[]⟩, .string ⟨#[]⟩] rfl (by kernel_rfl) (by kernel_rfl) (by kernel_rfl)
      (OpenSpec.preRow_of_cond 8 hx (by kernel_rfl) (fun k hk => by cases hk) (by kernel_rfl) (laid_met os))) ?_
  intro W base args ds gs before hval hW _ _ _ hL _ _
  exact contract H enc W base args ds gs before hval hW hL

theorem noInstance : Tryz.f10.isInstance Tryz.prog Rows.fnWithRow.origin Rows.fnWithRow.targs := of_decide_eq_true (by kernel_rfl)
theorem noWrapper : Tryz.f10.isWrapper Tryz.prog Rows.fnWithRow.wrapper Rows.fnWithRow.mainSum := by unfold Func.isWrapper; first | (rw [if_pos (by decide +kernel)]; kernel_rfl) | (rw [if_neg (by decide +kernel)]; exact ⟨rfl, rfl⟩)
theorem named10 : Tryz.prog.funcNamed "pionsdp/laws.FnWith" = some 10 := by kernel_rfl
theorem said : Rows.FnWithSaid :=
  OpenClaim.holds_of_cond 10 Tryz.f10 rfl rfl rfl rfl rfl rfl rfl ⟨rfl, rfl, rfl, rfl, rfl⟩ rfl rfl rfl rfl rfl named10 Tryz.func10 closed noInstance noWrapper
    (fun os started H enc _ F => by rw [OpenClaim.pre_eq_preRow]; exact lifted os started H enc F)

theorem stand3 : Tryz.prog.wantsStandIn 3 = false := by kernel_rfl
theorem stand9 : Tryz.prog.wantsStandIn 9 = false := by kernel_rfl
theorem stand66 : Tryz.prog.wantsStandIn 66 = false := by kernel_rfl
theorem plain (f : FuncId) (fn : Func) (hf : Tryz.pinned.checked.prog.funcNamed "pionsdp/laws.FnWith" = some f) (hfn : Tryz.pinned.checked.prog.funcs[f]? = some fn) :
    true = Tryz.pinned.checked.prog.looks [] ∧ ∀ (j : Nat) t, fn.params[j]? = some t → Tryz.pinned.checked.prog.wantsStandIn t = false := by
  obtain rfl : f = 10 := Option.some.inj (named10.symm.trans hf) |>.symm
  obtain rfl : fn = Tryz.f10 := (Option.some.inj (Tryz.func10.symm.trans hfn)).symm
  refine ⟨by kernel_rfl, fun j t ht => ?_⟩
  rw [Tryz.params10] at ht
  have hm := Array.mem_of_getElem? ht
  simp only [List.mem_toArray, List.mem_cons, List.not_mem_nil, or_false] at hm
  rcases hm with rfl | rfl | rfl | rfl | rfl | rfl | rfl | rfl
  · exact stand66
  · exact stand9
  · exact stand9
  · exact stand3
  · exact stand3
  · exact stand3
  · exact stand9
  · exact stand9

/-- The card. -/
theorem card : Rows.FnWithCardSaid :=
  Claim7.holds_tied_plain_at .later [] _ _ _ _ said (fun _ h => by cases h) (by kernel_rfl) (fun _ h => by cases h) fnWith_row_tie rfl ⟨rfl, rfl⟩ (by kernel_rfl) rfl plain (by kernel_rfl)
#print axioms card
end Go.Proofs.YtimonhimfioohaaGreatDoor.fnWith
