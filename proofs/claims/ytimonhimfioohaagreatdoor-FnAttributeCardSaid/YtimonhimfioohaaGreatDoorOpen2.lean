/- A session that came in as data reads as the walks ask. -/
import Derived.Test.YtimonhimfioohaaGreatDoorOpen
import Derived.Test.YtimonhimfioohaaGreatDoorAttrLaw
namespace Go.Proofs.YtimonhimfioohaaGreatDoor
open Go.RowKit Go.Deep

theorem cellsOf_2 : Tryz.prog.cellsOf 2 = 1 := by kernel_rfl
theorem cellsOf_197 : Tryz.prog.cellsOf 197 = 1 := by kernel_rfl
theorem cellsOf_27 : Tryz.prog.cellsOf 27 = 6 := by kernel_rfl
theorem cellsOf_31 : Tryz.prog.cellsOf 31 = 1 := by kernel_rfl
theorem cellsOf_32 : Tryz.prog.cellsOf 32 = 1 := by kernel_rfl
theorem cellsOf_34 : Tryz.prog.cellsOf 34 = 1 := by kernel_rfl
theorem cellsOf_36 : Tryz.prog.cellsOf 36 = 19 := by kernel_rfl
theorem cellsOf_194 : Tryz.prog.cellsOf 194 = 1 := by kernel_rfl
theorem cellsOf_196 : Tryz.prog.cellsOf 196 = 3 := by kernel_rfl
theorem cellsOf_201 : Tryz.prog.cellsOf 201 = 3 := by kernel_rfl
theorem cellsOf_204 : Tryz.prog.cellsOf 204 = 2 := by kernel_rfl

/-- What a session's cells are. -/
def isSess (w : World) (cs : List Value) : Prop := ∃ ver s1 o1 o2 s2 s3 s4 name A1 A2 A3 A4 A5 A6 A7 A8 A9 A10 A11 n1 n2 n3 n4 n5 n6 n7 n8 n9 n10 n11 c1 c2 c3 c4 c5 c6 c7 c8 c9 c10 c11, cs = [.int .i64 ver, .string s1, .int .u64 o1, .int .u64 o2, .string s2, .string s3, .string s4, .string name, .slice A1 n1 c1, .slice A2 n2 c2, .slice A3 n3 c3, .slice A4 n4 c4, .slice A5 n5 c5, .slice A6 n6 c6, .slice A7 n7 c7, .slice A8 n8 c8, .slice A9 n9 c9, .slice A10 n10 c10, .slice A11 n11 c11] ∧ SessRd w A1 A2 A3 A4 A5 A6 A7 A8 A9 A10 A11 n1 n2 n3 n4 n5 n6 n7 n8 n9 n10 n11
theorem list_of {α : Type} {P : Nat → α → Prop} : ∀ (n : Nat), (∀ k, k < n → ∃ a, P k a) → ∃ l : List α, l.length = n ∧ ∀ (k : Nat) a, l[k]? = some a → P k a
  | 0, _ => ⟨[], rfl, fun k a h => by simp at h⟩
  | n + 1, h => by
    obtain ⟨l, hl, hp⟩ := list_of n (fun k hk => h k (by omega))
    obtain ⟨a, ha⟩ := h n (by omega)
    refine ⟨l ++ [a], by simp [hl], fun k b hk => ?_⟩
    rcases Nat.lt_or_ge k l.length with hlt | hge
    · rw [List.getElem?_append_left hlt] at hk
      exact hp k b hk
    · rw [List.getElem?_append_right hge] at hk
      have h0 : k - l.length = 0 := by
        have h1 := (List.getElem?_eq_some_iff.1 hk).1
        simp at h1
        omega
      rw [h0] at hk
      obtain rfl : a = b := by simpa using hk
      obtain rfl : k = n := by omega
      exact ha
theorem meds_of {w : World} {A7 A11 : Option Addr} {n6 n7 n8 n10 n11 : Nat} : ∃ lm : List (List (ByteArray × ByteArray)), lm.length = n11 ∧ (SessB w A7 A11 n6 n7 n8 n10 n11 → MedsRd w A11 lm) := by
  by_cases hB : SessB w A7 A11 n6 n7 n8 n10 n11
  · obtain ⟨lm, h1, h2⟩ := list_of (P := fun k la => ∃ b o name port A1 A2 A3 A4 A5 A6 A7 A8 n1 n2 n3 n4 n5 n6 n7 c1 c2 c3 c4 c5 c6 c7 c8, A11 = some ⟨b, o, none⟩ ∧ MedRd w A1 A2 A3 A4 A5 A6 A7 A8 n1 n2 n3 n4 n5 n6 n7 (List.length la) ∧ n2 ≤ 2147483647 ∧ n3 ≤ 2147483647 ∧ n6 ≤ 2147483647 ∧ (List.length la) ≤ 2147483647 ∧ Lst w 2 attrC A8 la ∧
      ∀ j u, (medCells name port A1 A2 A3 A4 A5 A6 A7 A8 n1 n2 n3 n4 n5 n6 n7 (List.length la) c1 c2 c3 c4 c5 c6 c7 c8)[j]? = some u → w.cell? ⟨b, o + (k * 10 + j), none⟩ = some u) n11 (fun k hk => by
      obtain ⟨b, o, cs, hA, _, ⟨name, port, A1, A2, A3, A4, A5, A6, A7, A8, n1, n2, n3, n4, n5, n6, n7, n8, c1, c2, c3, c4, c5, c6, c7, c8, rfl, hm, b2, b3, b6, b8⟩, hc⟩ := hB.2.2.2.2.2.2 k hk
      obtain ⟨la, hla, hl⟩ := hm.r8.attrs
      subst hla
      exact ⟨la, b, o, name, port, A1, A2, A3, A4, A5, A6, A7, A8, n1, n2, n3, n4, n5, n6, n7, c1, c2, c3, c4, c5, c6, c7, c8, hA, hm, b2, b3, b6, b8, hl, hc⟩)
    exact ⟨lm, h1, fun _ k la hk => h2 k la hk⟩
  · exact ⟨List.replicate n11 [], by simp, fun h => absurd h hB⟩

section
variable {H : Type} {enc : TypeId × Value → H} {w : World} {base : Nat} {spare : Nat → Bool} {held : Bool}

theorem open_ints2 {fuel : Nat} {cs : List Value} {y : DataW H × List MemPlace} (h : DataW.trod enc Tryz.prog w base spare held fuel 197 cs = some y) : ∃ A n c, cs = [.slice A n c] ∧ n ≤ maxLen ∧ Els w 1 isInt A n :=
  open_els Tryz.underlying197 cellsOf_2 (by decide) (fun _ _ _ h => by obtain ⟨s, e, -, -⟩ := DataW.trod_int Tryz.underlying2 h; exact ⟨s, e⟩) h

set_option maxRecDepth 100000 in
theorem open_rep {fuel : Nat} {cs : List Value} {y : DataW H × List MemPlace} (h : DataW.trod enc Tryz.prog w base spare held fuel 201 cs = some y) : isRep0 w cs := by
  obtain ⟨xs, n, _, _, hlen, hxs, hf⟩ := DataW.trod_struct Tryz.underlying201 h
  rw [cellsOf_201] at hlen
  match cs, hlen with
  | [v0, v1, v2], _ =>
    obtain ⟨y0, h0⟩ := fieldOf hxs hf 0 _ rfl (by decide)
    have h0' : DataW.trod enc Tryz.prog w base spare held n 2 [v0] = some y0 := by simpa [cellsOf_2] using h0
    obtain ⟨y1, h1⟩ := fieldOf hxs hf 1 _ rfl (by decide)
    have h1' : DataW.trod enc Tryz.prog w base spare held n 2 [v1] = some y1 := by simpa [cellsOf_2] using h1
    obtain ⟨y2, h2⟩ := fieldOf hxs hf 2 _ rfl (by decide)
    have h2' : DataW.trod enc Tryz.prog w base spare held n 197 [v2] = some y2 := by simpa [cellsOf_197] using h2
    obtain ⟨s0, e0, -, -⟩ := DataW.trod_int Tryz.underlying2 h0'
    obtain rfl : v0 = .int .i64 s0 := by simpa using e0
    obtain ⟨s1, e1, -, -⟩ := DataW.trod_int Tryz.underlying2 h1'
    obtain rfl : v1 = .int .i64 s1 := by simpa using e1
    obtain ⟨A2, n2, c2, e2, l2, E2⟩ := open_ints2 h2'
    obtain rfl : v2 = .slice A2 n2 c2 := by simpa using e2
    exact ⟨s0, s1, A2, n2, c2, rfl, l2, E2⟩

theorem open_reps {fuel : Nat} {cs : List Value} {y : DataW H × List MemPlace} (h : DataW.trod enc Tryz.prog w base spare held fuel 194 cs = some y) : ∃ A n c, cs = [.slice A n c] ∧ n ≤ maxLen ∧ Els w 3 (isRep0 w) A n :=
  open_els Tryz.underlying194 cellsOf_201 (by decide) (fun _ _ _ h => open_rep h) h

set_option maxRecDepth 100000 in
theorem open_time {fuel : Nat} {cs : List Value} {y : DataW H × List MemPlace} (h : DataW.trod enc Tryz.prog w base spare held fuel 196 cs = some y) : isTim0 w cs := by
  obtain ⟨xs, n, _, _, hlen, hxs, hf⟩ := DataW.trod_struct Tryz.underlying196 h
  rw [cellsOf_196] at hlen
  match cs, hlen with
  | [v0, v1, v2], _ =>
    obtain ⟨y0, h0⟩ := fieldOf hxs hf 0 _ rfl (by decide)
    have h0' : DataW.trod enc Tryz.prog w base spare held n 25 [v0] = some y0 := by simpa [cellsOf_25] using h0
    obtain ⟨y1, h1⟩ := fieldOf hxs hf 1 _ rfl (by decide)
    have h1' : DataW.trod enc Tryz.prog w base spare held n 25 [v1] = some y1 := by simpa [cellsOf_25] using h1
    obtain ⟨y2, h2⟩ := fieldOf hxs hf 2 _ rfl (by decide)
    have h2' : DataW.trod enc Tryz.prog w base spare held n 194 [v2] = some y2 := by simpa [cellsOf_194] using h2
    obtain ⟨s0, e0, -, -⟩ := DataW.trod_int Tryz.underlying25 h0'
    obtain rfl : v0 = .int .u64 s0 := by simpa using e0
    obtain ⟨s1, e1, -, -⟩ := DataW.trod_int Tryz.underlying25 h1'
    obtain rfl : v1 = .int .u64 s1 := by simpa using e1
    obtain ⟨A2, n2, c2, e2, l2, E2⟩ := open_reps h2'
    obtain rfl : v2 = .slice A2 n2 c2 := by simpa using e2
    exact ⟨s0, s1, A2, n2, c2, rfl, l2, E2⟩

theorem open_times {fuel : Nat} {cs : List Value} {y : DataW H × List MemPlace} (h : DataW.trod enc Tryz.prog w base spare held fuel 31 cs = some y) : ∃ A n c, cs = [.slice A n c] ∧ n ≤ maxLen ∧ Els w 3 (isTim0 w) A n :=
  open_els Tryz.underlying31 cellsOf_196 (by decide) (fun _ _ _ h => open_time h) h

set_option maxRecDepth 100000 in
theorem open_zone {fuel : Nat} {cs : List Value} {y : DataW H × List MemPlace} (h : DataW.trod enc Tryz.prog w base spare held fuel 204 cs = some y) : isZone cs := by
  obtain ⟨xs, n, _, _, hlen, hxs, hf⟩ := DataW.trod_struct Tryz.underlying204 h
  rw [cellsOf_204] at hlen
  match cs, hlen with
  | [v0, v1], _ =>
    obtain ⟨y0, h0⟩ := fieldOf hxs hf 0 _ rfl (by decide)
    have h0' : DataW.trod enc Tryz.prog w base spare held n 25 [v0] = some y0 := by simpa [cellsOf_25] using h0
    obtain ⟨y1, h1⟩ := fieldOf hxs hf 1 _ rfl (by decide)
    have h1' : DataW.trod enc Tryz.prog w base spare held n 2 [v1] = some y1 := by simpa [cellsOf_2] using h1
    obtain ⟨s0, e0, -, -⟩ := DataW.trod_int Tryz.underlying25 h0'
    obtain rfl : v0 = .int .u64 s0 := by simpa using e0
    obtain ⟨s1, e1, -, -⟩ := DataW.trod_int Tryz.underlying2 h1'
    obtain rfl : v1 = .int .i64 s1 := by simpa using e1
    exact ⟨s0, s1, rfl⟩

theorem open_zones {fuel : Nat} {cs : List Value} {y : DataW H × List MemPlace} (h : DataW.trod enc Tryz.prog w base spare held fuel 32 cs = some y) : ∃ A n c, cs = [.slice A n c] ∧ n ≤ maxLen ∧ Els w 2 isZone A n :=
  open_els Tryz.underlying32 cellsOf_204 (by decide) (fun _ _ _ h => open_zone h) h

theorem open_medias {fuel : Nat} {cs : List Value} {y : DataW H × List MemPlace} (h : DataW.trod enc Tryz.prog w base spare held fuel 34 cs = some y) : ∃ A n c, cs = [.slice A n c] ∧ n ≤ maxLen ∧ Els w 10 (isMedia w) A n :=
  open_els Tryz.underlying34 cellsOf_66 (by decide) (fun _ _ _ h => open_media h) h

set_option maxRecDepth 100000 in
theorem open_origin {fuel : Nat} {cs : List Value} {y : DataW H × List MemPlace} (h : DataW.trod enc Tryz.prog w base spare held fuel 27 cs = some y) : ∃ t1 u1 u2 t2 t3 t4, cs = [.string t1, .int .u64 u1, .int .u64 u2, .string t2, .string t3, .string t4] := by
  obtain ⟨xs, n, _, _, hlen, hxs, hf⟩ := DataW.trod_struct Tryz.underlying27 h
  rw [cellsOf_27] at hlen
  match cs, hlen with
  | [v0, v1, v2, v3, v4, v5], _ =>
    obtain ⟨y0, h0⟩ := fieldOf hxs hf 0 _ rfl (by decide)
    have h0' : DataW.trod enc Tryz.prog w base spare held n 9 [v0] = some y0 := by simpa [cellsOf_9] using h0
    obtain ⟨y1, h1⟩ := fieldOf hxs hf 1 _ rfl (by decide)
    have h1' : DataW.trod enc Tryz.prog w base spare held n 25 [v1] = some y1 := by simpa [cellsOf_25] using h1
    obtain ⟨y2, h2⟩ := fieldOf hxs hf 2 _ rfl (by decide)
    have h2' : DataW.trod enc Tryz.prog w base spare held n 25 [v2] = some y2 := by simpa [cellsOf_25] using h2
    obtain ⟨y3, h3⟩ := fieldOf hxs hf 3 _ rfl (by decide)
    have h3' : DataW.trod enc Tryz.prog w base spare held n 9 [v3] = some y3 := by simpa [cellsOf_9] using h3
    obtain ⟨y4, h4⟩ := fieldOf hxs hf 4 _ rfl (by decide)
    have h4' : DataW.trod enc Tryz.prog w base spare held n 9 [v4] = some y4 := by simpa [cellsOf_9] using h4
    obtain ⟨y5, h5⟩ := fieldOf hxs hf 5 _ rfl (by decide)
    have h5' : DataW.trod enc Tryz.prog w base spare held n 9 [v5] = some y5 := by simpa [cellsOf_9] using h5
    obtain ⟨s0, e0, -, -⟩ := DataW.trod_string Tryz.underlying9 h0'
    obtain rfl : v0 = .string s0 := by simpa using e0
    obtain ⟨s1, e1, -, -⟩ := DataW.trod_int Tryz.underlying25 h1'
    obtain rfl : v1 = .int .u64 s1 := by simpa using e1
    obtain ⟨s2, e2, -, -⟩ := DataW.trod_int Tryz.underlying25 h2'
    obtain rfl : v2 = .int .u64 s2 := by simpa using e2
    obtain ⟨s3, e3, -, -⟩ := DataW.trod_string Tryz.underlying9 h3'
    obtain rfl : v3 = .string s3 := by simpa using e3
    obtain ⟨s4, e4, -, -⟩ := DataW.trod_string Tryz.underlying9 h4'
    obtain rfl : v4 = .string s4 := by simpa using e4
    obtain ⟨s5, e5, -, -⟩ := DataW.trod_string Tryz.underlying9 h5'
    obtain rfl : v5 = .string s5 := by simpa using e5
    exact ⟨_, _, _, _, _, _, rfl⟩

set_option maxRecDepth 100000 in
theorem open_session {fuel : Nat} {cs : List Value} {y : DataW H × List MemPlace} (h : DataW.trod enc Tryz.prog w base spare held fuel 36 cs = some y) : isSess w cs := by
  obtain ⟨xs, n, _, _, hlen, hxs, hf⟩ := DataW.trod_struct Tryz.underlying36 h
  rw [cellsOf_36] at hlen
  match cs, hlen with
  | [v0, v1, v2, v3, v4, v5, v6, v7, v8, v9, v10, v11, v12, v13, v14, v15, v16, v17, v18], _ =>
    obtain ⟨y0, h0⟩ := fieldOf hxs hf 0 _ rfl (by decide)
    have h0' : DataW.trod enc Tryz.prog w base spare held n 3 [v0] = some y0 := by simpa [cellsOf_3] using h0
    obtain ⟨y1, h1⟩ := fieldOf hxs hf 1 _ rfl (by decide)
    have h1' : DataW.trod enc Tryz.prog w base spare held n 27 [v1, v2, v3, v4, v5, v6] = some y1 := by simpa [cellsOf_27] using h1
    obtain ⟨y2, h2⟩ := fieldOf hxs hf 2 _ rfl (by decide)
    have h2' : DataW.trod enc Tryz.prog w base spare held n 9 [v7] = some y2 := by simpa [cellsOf_9] using h2
    obtain ⟨y3, h3⟩ := fieldOf hxs hf 3 _ rfl (by decide)
    have h3' : DataW.trod enc Tryz.prog w base spare held n 28 [v8] = some y3 := by simpa [cellsOf_28] using h3
    obtain ⟨y4, h4⟩ := fieldOf hxs hf 4 _ rfl (by decide)
    have h4' : DataW.trod enc Tryz.prog w base spare held n 28 [v9] = some y4 := by simpa [cellsOf_28] using h4
    obtain ⟨y5, h5⟩ := fieldOf hxs hf 5 _ rfl (by decide)
    have h5' : DataW.trod enc Tryz.prog w base spare held n 28 [v10] = some y5 := by simpa [cellsOf_28] using h5
    obtain ⟨y6, h6⟩ := fieldOf hxs hf 6 _ rfl (by decide)
    have h6' : DataW.trod enc Tryz.prog w base spare held n 28 [v11] = some y6 := by simpa [cellsOf_28] using h6
    obtain ⟨y7, h7⟩ := fieldOf hxs hf 7 _ rfl (by decide)
    have h7' : DataW.trod enc Tryz.prog w base spare held n 29 [v12] = some y7 := by simpa [cellsOf_29] using h7
    obtain ⟨y8, h8⟩ := fieldOf hxs hf 8 _ rfl (by decide)
    have h8' : DataW.trod enc Tryz.prog w base spare held n 30 [v13] = some y8 := by simpa [cellsOf_30] using h8
    obtain ⟨y9, h9⟩ := fieldOf hxs hf 9 _ rfl (by decide)
    have h9' : DataW.trod enc Tryz.prog w base spare held n 31 [v14] = some y9 := by simpa [cellsOf_31] using h9
    obtain ⟨y10, h10⟩ := fieldOf hxs hf 10 _ rfl (by decide)
    have h10' : DataW.trod enc Tryz.prog w base spare held n 32 [v15] = some y10 := by simpa [cellsOf_32] using h10
    obtain ⟨y11, h11⟩ := fieldOf hxs hf 11 _ rfl (by decide)
    have h11' : DataW.trod enc Tryz.prog w base spare held n 28 [v16] = some y11 := by simpa [cellsOf_28] using h11
    obtain ⟨y12, h12⟩ := fieldOf hxs hf 12 _ rfl (by decide)
    have h12' : DataW.trod enc Tryz.prog w base spare held n 33 [v17] = some y12 := by simpa [cellsOf_33] using h12
    obtain ⟨y13, h13⟩ := fieldOf hxs hf 13 _ rfl (by decide)
    have h13' : DataW.trod enc Tryz.prog w base spare held n 34 [v18] = some y13 := by simpa [cellsOf_34] using h13
    obtain ⟨s0, e0, -, -⟩ := DataW.trod_int Tryz.underlying3 h0'
    obtain rfl : v0 = .int .i64 s0 := by simpa using e0
    obtain ⟨t1, u1, u2, t2, t3, t4, e1⟩ := open_origin h1'
    simp only [List.cons.injEq, and_true] at e1
    obtain ⟨rfl, rfl, rfl, rfl, rfl, rfl⟩ := e1
    obtain ⟨s2, e2, -, -⟩ := DataW.trod_string Tryz.underlying9 h2'
    obtain rfl : v7 = .string s2 := by simpa using e2
    obtain ⟨A3, n3, c3, e3, l3, E3⟩ := open_strs h3'
    obtain rfl : v8 = .slice A3 n3 c3 := by simpa using e3
    obtain ⟨A4, n4, c4, e4, l4, E4⟩ := open_strs h4'
    obtain rfl : v9 = .slice A4 n4 c4 := by simpa using e4
    obtain ⟨A5, n5, c5, e5, l5, E5⟩ := open_strs h5'
    obtain rfl : v10 = .slice A5 n5 c5 := by simpa using e5
    obtain ⟨A6, n6, c6, e6, l6, E6⟩ := open_strs h6'
    obtain rfl : v11 = .slice A6 n6 c6 := by simpa using e6
    obtain ⟨A7, n7, c7, e7, l7, E7⟩ := open_conns h7'
    obtain rfl : v12 = .slice A7 n7 c7 := by simpa using e7
    obtain ⟨A8, n8, c8, e8, l8, E8⟩ := open_bands h8'
    obtain rfl : v13 = .slice A8 n8 c8 := by simpa using e8
    obtain ⟨A9, n9, c9, e9, l9, E9⟩ := open_times h9'
    obtain rfl : v14 = .slice A9 n9 c9 := by simpa using e9
    obtain ⟨A10, n10, c10, e10, l10, E10⟩ := open_zones h10'
    obtain rfl : v15 = .slice A10 n10 c10 := by simpa using e10
    obtain ⟨A11, n11, c11, e11, l11, E11⟩ := open_strs h11'
    obtain rfl : v16 = .slice A11 n11 c11 := by simpa using e11
    obtain ⟨A12, n12, c12, e12, l12, E12⟩ := open_attrs h12'
    obtain rfl : v17 = .slice A12 n12 c12 := by simpa using e12
    obtain ⟨A13, n13, c13, e13, l13, E13⟩ := open_medias h13'
    obtain rfl : v18 = .slice A13 n13 c13 := by simpa using e13
    exact ⟨s0, t1, u1, u2, t2, t3, t4, s2, A3, A4, A5, A6, A7, A8, A9, A10, A11, A12, A13, n3, n4, n5, n6, n7, n8, n9, n10, n11, n12, n13, c3, c4, c5, c6, c7, c8, c9, c10, c11, c12, c13, rfl, ⟨l3, l4, l5, l6, l7, l8, l9, l10, l11, l12, l13, E3, E4, E5, E6, E7, E8, E9, E10, E11, E12, E13⟩⟩

end
end Go.Proofs.YtimonhimfioohaaGreatDoor
