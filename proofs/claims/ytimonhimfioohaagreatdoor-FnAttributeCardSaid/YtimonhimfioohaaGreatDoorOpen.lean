/- Arguments opened: what came in as data reads as the walks ask. -/
import Derived.Test.YtimonhimfioohaaGreatDoorMem
import Derived.Deep.Slices
import Derived.ChangeArms
namespace Go.Proofs.YtimonhimfioohaaGreatDoor
open Go.RowKit Go.Deep

theorem cellsOf_9 : Tryz.prog.cellsOf 9 = 1 := by kernel_rfl
theorem cellsOf_4 : Tryz.prog.cellsOf 4 = 1 := by kernel_rfl
theorem cellsOf_3 : Tryz.prog.cellsOf 3 = 1 := by kernel_rfl
theorem cellsOf_25 : Tryz.prog.cellsOf 25 = 1 := by kernel_rfl
theorem cellsOf_28 : Tryz.prog.cellsOf 28 = 1 := by kernel_rfl
theorem cellsOf_29 : Tryz.prog.cellsOf 29 = 1 := by kernel_rfl
theorem cellsOf_30 : Tryz.prog.cellsOf 30 = 1 := by kernel_rfl
theorem cellsOf_33 : Tryz.prog.cellsOf 33 = 1 := by kernel_rfl
theorem cellsOf_64 : Tryz.prog.cellsOf 64 = 1 := by kernel_rfl
theorem cellsOf_215 : Tryz.prog.cellsOf 215 = 1 := by kernel_rfl
theorem cellsOf_73 : Tryz.prog.cellsOf 73 = 2 := by kernel_rfl
theorem cellsOf_45 : Tryz.prog.cellsOf 45 = 3 := by kernel_rfl
theorem cellsOf_259 : Tryz.prog.cellsOf 259 = 3 := by kernel_rfl
theorem cellsOf_217 : Tryz.prog.cellsOf 217 = 3 := by kernel_rfl
theorem cellsOf_66 : Tryz.prog.cellsOf 66 = 10 := by kernel_rfl

section
variable {H : Type} {enc : TypeId × Value → H} {w : World} {base : Nat} {spare : Nat → Bool} {held : Bool}

theorem fieldOf {n : Nat} {cs : List Value} {xs : List (DataW H × List MemPlace)} {fs : Array Field} (hxs : xs.length = fs.size) (hf : ∀ (i : Nat) (f : Field), fs[i]? = some f → DataW.trod enc Tryz.prog w base spare held n f.type ((cs.drop f.offset).take (Tryz.prog.cellsOf f.type)) = xs[i]?)
    (i : Nat) (f : Field) (hi : fs[i]? = some f) (hlt : i < fs.size) : ∃ y, DataW.trod enc Tryz.prog w base spare held n f.type ((cs.drop f.offset).take (Tryz.prog.cellsOf f.type)) = some y :=
  ⟨xs[i]'(by omega), (hf i f hi).trans (List.getElem?_eq_getElem _)⟩

theorem open_els {t e size : Nat} {R : List Value → Prop} (ht : Tryz.prog.underlying t = some (.slice e)) (hC : Tryz.prog.cellsOf e = size) (hs : 0 < size)
    (hR : ∀ n cs y, DataW.trod enc Tryz.prog w base spare held n e cs = some y → R cs) {fuel : Nat} {cs : List Value} {y : DataW H × List MemPlace} (h : DataW.trod enc Tryz.prog w base spare held fuel t cs = some y) :
    ∃ A n c, cs = [.slice A n c] ∧ n ≤ maxLen ∧ Els w size R A n := by
  rcases open_slice ht h with ⟨h0, _⟩ | ⟨a, len, cap, m, n, D, Pl, hcs, _, hl, hm, hmm, _, hi⟩
  · exact ⟨none, 0, 0, h0, by unfold maxLen; omega, fun k hk => absurd hk (by omega)⟩
  · refine ⟨some a, len, cap, hcs, Nat.le_trans hl hm, fun k hk => ?_⟩
    obtain ⟨cs', hc, htr⟩ := hi k (by split at hmm <;> omega)
    rw [hC] at hc
    obtain ⟨_, hcl, hat⟩ := World.cells?_some hc
    have ha : ∃ b o, a = ⟨b, o, none⟩ := by
      have hne : ∀ j, j < size → w.cell? ((a.add (k * size)).add j) ≠ none := fun j hj => by
        rw [hat j hj, List.getElem?_eq_getElem (by omega)]
        simp
      obtain ⟨b, o, sp⟩ := a
      cases sp with
      | none => exact ⟨b, o, rfl⟩
      | some s =>
        exfalso
        obtain ⟨cs0, hc0, _⟩ := hi 0 (by split at hmm <;> omega)
        rw [hC] at hc0
        obtain ⟨_, hcl0, hat0⟩ := World.cells?_some hc0
        have h1 := hat0 0 hs
        rw [List.getElem?_eq_getElem (by omega)] at h1
        simp only [Nat.zero_mul, Addr.add, if_true] at h1
        simp [World.cell?] at h1
        split at h1 <;> simp at h1
    obtain ⟨b, o, rfl⟩ := ha
    refine ⟨b, o, cs', rfl, hcl, hR _ _ _ htr, fun j u hu => ?_⟩
    have hj : j < size := by rw [← hcl]; exact (List.getElem?_eq_some_iff.1 hu).1
    have h1 := hat j hj
    rw [hu] at h1
    have e1 : ((⟨b, o, none⟩ : Addr).add (k * size)).add j = ⟨b, o + (k * size + j), none⟩ := by
      unfold Addr.add
      split <;> split <;> simp_all [Nat.add_assoc]
    rw [e1] at h1
    exact h1

theorem open_ints64 {fuel : Nat} {cs : List Value} {y : DataW H × List MemPlace} (h : DataW.trod enc Tryz.prog w base spare held fuel 64 cs = some y) : ∃ A n c, cs = [.slice A n c] ∧ n ≤ maxLen ∧ Els w 1 isInt A n :=
  open_els Tryz.underlying64 cellsOf_3 (by decide) (fun _ _ _ h => by obtain ⟨s, e, -, -⟩ := DataW.trod_int Tryz.underlying3 h; exact ⟨s, e⟩) h

theorem open_strs {fuel : Nat} {cs : List Value} {y : DataW H × List MemPlace} (h : DataW.trod enc Tryz.prog w base spare held fuel 28 cs = some y) : ∃ A n c, cs = [.slice A n c] ∧ n ≤ maxLen ∧ Els w 1 isStr A n :=
  open_els Tryz.underlying28 cellsOf_9 (by decide) (fun _ _ _ h => by obtain ⟨s, e, -, -⟩ := DataW.trod_string Tryz.underlying9 h; exact ⟨s, e⟩) h

set_option maxRecDepth 100000 in
theorem open_attr {fuel : Nat} {cs : List Value} {y : DataW H × List MemPlace} (h : DataW.trod enc Tryz.prog w base spare held fuel 73 cs = some y) : isAttr cs := by
  obtain ⟨xs, n, _, _, hlen, hxs, hf⟩ := DataW.trod_struct Tryz.underlying73 h
  rw [cellsOf_73] at hlen
  match cs, hlen with
  | [v0, v1], _ =>
    obtain ⟨y0, h0⟩ := fieldOf hxs hf 0 _ rfl (by decide)
    have h0' : DataW.trod enc Tryz.prog w base spare held n 9 [v0] = some y0 := by simpa [cellsOf_9] using h0
    obtain ⟨y1, h1⟩ := fieldOf hxs hf 1 _ rfl (by decide)
    have h1' : DataW.trod enc Tryz.prog w base spare held n 9 [v1] = some y1 := by simpa [cellsOf_9] using h1
    obtain ⟨s0, e0, -, -⟩ := DataW.trod_string Tryz.underlying9 h0'
    obtain rfl : v0 = .string s0 := by simpa using e0
    obtain ⟨s1, e1, -, -⟩ := DataW.trod_string Tryz.underlying9 h1'
    obtain rfl : v1 = .string s1 := by simpa using e1
    exact ⟨s0, s1, rfl⟩

theorem open_attrs {fuel : Nat} {cs : List Value} {y : DataW H × List MemPlace} (h : DataW.trod enc Tryz.prog w base spare held fuel 33 cs = some y) : ∃ A n c, cs = [.slice A n c] ∧ n ≤ maxLen ∧ Els w 2 isAttr A n :=
  open_els Tryz.underlying33 cellsOf_73 (by decide) (fun _ _ _ h => open_attr h) h

set_option maxRecDepth 100000 in
theorem open_band {fuel : Nat} {cs : List Value} {y : DataW H × List MemPlace} (h : DataW.trod enc Tryz.prog w base spare held fuel 45 cs = some y) : isBand cs := by
  obtain ⟨xs, n, _, _, hlen, hxs, hf⟩ := DataW.trod_struct Tryz.underlying45 h
  rw [cellsOf_45] at hlen
  match cs, hlen with
  | [v0, v1, v2], _ =>
    obtain ⟨y0, h0⟩ := fieldOf hxs hf 0 _ rfl (by decide)
    have h0' : DataW.trod enc Tryz.prog w base spare held n 4 [v0] = some y0 := by simpa [cellsOf_4] using h0
    obtain ⟨y1, h1⟩ := fieldOf hxs hf 1 _ rfl (by decide)
    have h1' : DataW.trod enc Tryz.prog w base spare held n 9 [v1] = some y1 := by simpa [cellsOf_9] using h1
    obtain ⟨y2, h2⟩ := fieldOf hxs hf 2 _ rfl (by decide)
    have h2' : DataW.trod enc Tryz.prog w base spare held n 25 [v2] = some y2 := by simpa [cellsOf_25] using h2
    obtain ⟨s0, e0, -⟩ := DataW.trod_bool Tryz.underlying4 h0'
    obtain rfl : v0 = .bool s0 := by simpa using e0
    obtain ⟨s1, e1, -, -⟩ := DataW.trod_string Tryz.underlying9 h1'
    obtain rfl : v1 = .string s1 := by simpa using e1
    obtain ⟨s2, e2, -, -⟩ := DataW.trod_int Tryz.underlying25 h2'
    obtain rfl : v2 = .int .u64 s2 := by simpa using e2
    exact ⟨s0, s1, s2, rfl⟩

theorem open_bands {fuel : Nat} {cs : List Value} {y : DataW H × List MemPlace} (h : DataW.trod enc Tryz.prog w base spare held fuel 30 cs = some y) : ∃ A n c, cs = [.slice A n c] ∧ n ≤ maxLen ∧ Els w 3 isBand A n :=
  open_els Tryz.underlying30 cellsOf_45 (by decide) (fun _ _ _ h => open_band h) h

set_option maxRecDepth 100000 in
theorem open_addr {fuel : Nat} {cs : List Value} {y : DataW H × List MemPlace} (h : DataW.trod enc Tryz.prog w base spare held fuel 259 cs = some y) : isAddr w cs := by
  obtain ⟨xs, n, _, _, hlen, hxs, hf⟩ := DataW.trod_struct Tryz.underlying259 h
  rw [cellsOf_259] at hlen
  match cs, hlen with
  | [v0, v1, v2], _ =>
    obtain ⟨y0, h0⟩ := fieldOf hxs hf 0 _ rfl (by decide)
    have h0' : DataW.trod enc Tryz.prog w base spare held n 9 [v0] = some y0 := by simpa [cellsOf_9] using h0
    obtain ⟨y1, h1⟩ := fieldOf hxs hf 1 _ rfl (by decide)
    have h1' : DataW.trod enc Tryz.prog w base spare held n 64 [v1] = some y1 := by simpa [cellsOf_64] using h1
    obtain ⟨y2, h2⟩ := fieldOf hxs hf 2 _ rfl (by decide)
    have h2' : DataW.trod enc Tryz.prog w base spare held n 64 [v2] = some y2 := by simpa [cellsOf_64] using h2
    obtain ⟨s0, e0, -, -⟩ := DataW.trod_string Tryz.underlying9 h0'
    obtain rfl : v0 = .string s0 := by simpa using e0
    obtain ⟨A1, n1, c1, e1, l1, E1⟩ := open_ints64 h1'
    obtain rfl : v1 = .slice A1 n1 c1 := by simpa using e1
    obtain ⟨A2, n2, c2, e2, l2, E2⟩ := open_ints64 h2'
    obtain rfl : v2 = .slice A2 n2 c2 := by simpa using e2
    exact ⟨s0, A1, n1, c1, A2, n2, c2, rfl, l1, l2, E1, E2⟩

theorem open_addrs {fuel : Nat} {cs : List Value} {y : DataW H × List MemPlace} (h : DataW.trod enc Tryz.prog w base spare held fuel 215 cs = some y) : ∃ A n c, cs = [.slice A n c] ∧ n ≤ maxLen ∧ Els w 3 (isAddr w) A n :=
  open_els Tryz.underlying215 cellsOf_259 (by decide) (fun _ _ _ h => open_addr h) h

set_option maxRecDepth 100000 in
theorem open_conn {fuel : Nat} {cs : List Value} {y : DataW H × List MemPlace} (h : DataW.trod enc Tryz.prog w base spare held fuel 217 cs = some y) : isConn w cs := by
  obtain ⟨xs, n, _, _, hlen, hxs, hf⟩ := DataW.trod_struct Tryz.underlying217 h
  rw [cellsOf_217] at hlen
  match cs, hlen with
  | [v0, v1, v2], _ =>
    obtain ⟨y0, h0⟩ := fieldOf hxs hf 0 _ rfl (by decide)
    have h0' : DataW.trod enc Tryz.prog w base spare held n 9 [v0] = some y0 := by simpa [cellsOf_9] using h0
    obtain ⟨y1, h1⟩ := fieldOf hxs hf 1 _ rfl (by decide)
    have h1' : DataW.trod enc Tryz.prog w base spare held n 9 [v1] = some y1 := by simpa [cellsOf_9] using h1
    obtain ⟨y2, h2⟩ := fieldOf hxs hf 2 _ rfl (by decide)
    have h2' : DataW.trod enc Tryz.prog w base spare held n 215 [v2] = some y2 := by simpa [cellsOf_215] using h2
    obtain ⟨s0, e0, -, -⟩ := DataW.trod_string Tryz.underlying9 h0'
    obtain rfl : v0 = .string s0 := by simpa using e0
    obtain ⟨s1, e1, -, -⟩ := DataW.trod_string Tryz.underlying9 h1'
    obtain rfl : v1 = .string s1 := by simpa using e1
    obtain ⟨A2, n2, c2, e2, l2, E2⟩ := open_addrs h2'
    obtain rfl : v2 = .slice A2 n2 c2 := by simpa using e2
    exact ⟨s0, s1, A2, n2, c2, rfl, l2, E2⟩

theorem open_conns {fuel : Nat} {cs : List Value} {y : DataW H × List MemPlace} (h : DataW.trod enc Tryz.prog w base spare held fuel 29 cs = some y) : ∃ A n c, cs = [.slice A n c] ∧ n ≤ maxLen ∧ Els w 3 (isConn w) A n :=
  open_els Tryz.underlying29 cellsOf_217 (by decide) (fun _ _ _ h => open_conn h) h

set_option maxRecDepth 100000 in
theorem open_media {fuel : Nat} {cs : List Value} {y : DataW H × List MemPlace} (h : DataW.trod enc Tryz.prog w base spare held fuel 66 cs = some y) : isMedia w cs := by
  obtain ⟨xs, n, _, _, hlen, hxs, hf⟩ := DataW.trod_struct Tryz.underlying66 h
  rw [cellsOf_66] at hlen
  match cs, hlen with
  | [v0, v1, v2, v3, v4, v5, v6, v7, v8, v9], _ =>
    obtain ⟨y0, h0⟩ := fieldOf hxs hf 0 _ rfl (by decide)
    have h0' : DataW.trod enc Tryz.prog w base spare held n 9 [v0] = some y0 := by simpa [cellsOf_9] using h0
    obtain ⟨y1, h1⟩ := fieldOf hxs hf 1 _ rfl (by decide)
    have h1' : DataW.trod enc Tryz.prog w base spare held n 3 [v1] = some y1 := by simpa [cellsOf_3] using h1
    obtain ⟨y2, h2⟩ := fieldOf hxs hf 2 _ rfl (by decide)
    have h2' : DataW.trod enc Tryz.prog w base spare held n 64 [v2] = some y2 := by simpa [cellsOf_64] using h2
    obtain ⟨y3, h3⟩ := fieldOf hxs hf 3 _ rfl (by decide)
    have h3' : DataW.trod enc Tryz.prog w base spare held n 28 [v3] = some y3 := by simpa [cellsOf_28] using h3
    obtain ⟨y4, h4⟩ := fieldOf hxs hf 4 _ rfl (by decide)
    have h4' : DataW.trod enc Tryz.prog w base spare held n 28 [v4] = some y4 := by simpa [cellsOf_28] using h4
    obtain ⟨y5, h5⟩ := fieldOf hxs hf 5 _ rfl (by decide)
    have h5' : DataW.trod enc Tryz.prog w base spare held n 28 [v5] = some y5 := by simpa [cellsOf_28] using h5
    obtain ⟨y6, h6⟩ := fieldOf hxs hf 6 _ rfl (by decide)
    have h6' : DataW.trod enc Tryz.prog w base spare held n 29 [v6] = some y6 := by simpa [cellsOf_29] using h6
    obtain ⟨y7, h7⟩ := fieldOf hxs hf 7 _ rfl (by decide)
    have h7' : DataW.trod enc Tryz.prog w base spare held n 30 [v7] = some y7 := by simpa [cellsOf_30] using h7
    obtain ⟨y8, h8⟩ := fieldOf hxs hf 8 _ rfl (by decide)
    have h8' : DataW.trod enc Tryz.prog w base spare held n 28 [v8] = some y8 := by simpa [cellsOf_28] using h8
    obtain ⟨y9, h9⟩ := fieldOf hxs hf 9 _ rfl (by decide)
    have h9' : DataW.trod enc Tryz.prog w base spare held n 33 [v9] = some y9 := by simpa [cellsOf_33] using h9
    obtain ⟨s0, e0, -, -⟩ := DataW.trod_string Tryz.underlying9 h0'
    obtain rfl : v0 = .string s0 := by simpa using e0
    obtain ⟨s1, e1, -, -⟩ := DataW.trod_int Tryz.underlying3 h1'
    obtain rfl : v1 = .int .i64 s1 := by simpa using e1
    obtain ⟨A2, n2, c2, e2, l2, E2⟩ := open_ints64 h2'
    obtain rfl : v2 = .slice A2 n2 c2 := by simpa using e2
    obtain ⟨A3, n3, c3, e3, l3, E3⟩ := open_strs h3'
    obtain rfl : v3 = .slice A3 n3 c3 := by simpa using e3
    obtain ⟨A4, n4, c4, e4, l4, E4⟩ := open_strs h4'
    obtain rfl : v4 = .slice A4 n4 c4 := by simpa using e4
    obtain ⟨A5, n5, c5, e5, l5, E5⟩ := open_strs h5'
    obtain rfl : v5 = .slice A5 n5 c5 := by simpa using e5
    obtain ⟨A6, n6, c6, e6, l6, E6⟩ := open_conns h6'
    obtain rfl : v6 = .slice A6 n6 c6 := by simpa using e6
    obtain ⟨A7, n7, c7, e7, l7, E7⟩ := open_bands h7'
    obtain rfl : v7 = .slice A7 n7 c7 := by simpa using e7
    obtain ⟨A8, n8, c8, e8, l8, E8⟩ := open_strs h8'
    obtain rfl : v8 = .slice A8 n8 c8 := by simpa using e8
    obtain ⟨A9, n9, c9, e9, l9, E9⟩ := open_attrs h9'
    obtain rfl : v9 = .slice A9 n9 c9 := by simpa using e9
    exact ⟨s0, s1, A2, A3, A4, A5, A6, A7, A8, A9, n2, n3, n4, n5, n6, n7, n8, n9, c2, c3, c4, c5, c6, c7, c8, c9, rfl, ⟨l2, l3, l4, l5, l6, l7, l8, l9, E2, E3, E4, E5, E6, E7, E8, E9⟩⟩

end
theorem laidOut : laidOutB Tryz.prog = true := by kernel_rfl
end Go.Proofs.YtimonhimfioohaaGreatDoor
