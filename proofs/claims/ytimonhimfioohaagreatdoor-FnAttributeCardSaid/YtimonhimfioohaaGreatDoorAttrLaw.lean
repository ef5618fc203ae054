/- FnAttribute's walk. -/
import Derived.Test.YtimonhimfioohaaGreatDoorSession
import Derived.Test.YtimonhimfioohaaGreatDoorWorks
import Derived.Test.YtimonhimfioohaaGreatDoorBand
import Derived.Deep.CutRange
namespace Go.Proofs.YtimonhimfioohaaGreatDoor
open Go.RowKit

/-- Whether a list has a key, and the value of the first such. -/
def isFirst (key : ByteArray) (l : List (ByteArray × ByteArray)) (r : Bool) (v : ByteArray) : Prop :=
  (r = false ∧ v = ⟨#[]⟩ ∧ ∀ (i : Nat) p, l[i]? = some p → p.1 ≠ key) ∨ (r = true ∧ ∃ i : Nat, l[i]? = some (key, v) ∧ ∀ (j : Nat) p, j < i → l[j]? = some p → p.1 ≠ key)
/-- What a search answers. -/
def AttrPost (key : ByteArray) (l : List (ByteArray × ByteArray)) (w : World) (e : Ending) (w' : World) : Prop := ∃ r v, e = .returned (.tuple #[.string v, .bool r]) ∧ isFirst key l r v ∧ Ch (fun _ => False) w w'
theorem first_one {key : ByteArray} {l : List (ByteArray × ByteArray)} {r r' : Bool} {v v' : ByteArray} (h : isFirst key l r v) (h' : isFirst key l r' v') : r = r' ∧ v = v' := by
  rcases h with ⟨h1, h2, h3⟩ | ⟨h1, i, h2, h3⟩ <;> rcases h' with ⟨g1, g2, g3⟩ | ⟨g1, i', g2, g3⟩
  · exact ⟨h1.trans g1.symm, h2.trans g2.symm⟩
  · exact absurd rfl (h3 i' _ g2)
  · exact absurd rfl (g3 i _ h2)
  · have : i = i' := by
      rcases Nat.lt_trichotomy i i' with hlt | he | hgt
      · exact absurd rfl (g3 i _ hlt h2)
      · exact he
      · exact absurd rfl (h3 i' _ hgt g2)
    subst this
    rw [h2] at g2
    cases g2
    exact ⟨h1.trans g1.symm, rfl⟩
theorem first_hit {key t : ByteArray} {l : List (ByteArray × ByteArray)} {k : Nat} (h : l[k]? = some (key, t)) : isFirst key (l.drop k) true t :=
  .inr ⟨rfl, 0, by simpa using h, fun j p hj => absurd hj (by omega)⟩
theorem first_miss {key s t v : ByteArray} {l : List (ByteArray × ByteArray)} {k : Nat} {r : Bool} (h : l[k]? = some (s, t)) (hs : s ≠ key) (hf : isFirst key (l.drop (k + 1)) r v) : isFirst key (l.drop k) r v := by
  have h0 : ∀ (i : Nat), (l.drop k)[i + 1]? = (l.drop (k + 1))[i]? := fun i => by rw [List.getElem?_drop, List.getElem?_drop]; congr 1; omega
  have hz : (l.drop k)[0]? = some (s, t) := by simpa using h
  rcases hf with ⟨h1, h2, h3⟩ | ⟨h1, i, h2, h3⟩
  · refine .inl ⟨h1, h2, fun i p hp => ?_⟩
    cases i with
    | zero => rw [hz] at hp; cases hp; exact hs
    | succ i => exact h3 i p (by rw [← h0]; exact hp)
  · refine .inr ⟨h1, i + 1, by rw [h0]; exact h2, fun j p hj hp => ?_⟩
    cases j with
    | zero => rw [hz] at hp; cases hp; exact hs
    | succ j => exact h3 j p (by omega) (by rw [← h0]; exact hp)
theorem flat_one : ∀ ms : List Nat, (ms.map fun M => Value.pointer (some ⟨M, 0, none⟩)) = ms.flatMap fun M => [Value.pointer (some ⟨M, 0, none⟩)]
  | [] => rfl
  | a :: l => by simp only [List.map_cons, List.flatMap_cons, flat_one l]; rfl
theorem isRepB.ch {w w' : World} {cs : List Value} (h : isRepB w cs) (hc : Ch (fun _ => False) w w') : isRepB w' cs := by
  obtain ⟨s, t, A, n, c, h1, h2, h3⟩ := h
  exact ⟨s, t, A, n, c, h1, h2, h3.ch hc⟩
theorem isTimB.ch {w w' : World} {cs : List Value} (h : isTimB w cs) (hc : Ch (fun _ => False) w w') : isTimB w' cs := by
  obtain ⟨s, t, A, n, c, h1, h2, h3⟩ := h
  exact ⟨s, t, A, n, c, h1, h2, (h3.ch hc).mono fun _ k => k.ch hc⟩
theorem isMedB.ch {w w' : World} {cs : List Value} (h : isMedB w cs) (hc : Ch (fun _ => False) w w') : isMedB w' cs := by
  obtain ⟨name, port, A1, A2, A3, A4, A5, A6, A7, A8, n1, n2, n3, n4, n5, n6, n7, n8, c1, c2, c3, c4, c5, c6, c7, c8, h1, h2, h3⟩ := h
  exact ⟨name, port, A1, A2, A3, A4, A5, A6, A7, A8, n1, n2, n3, n4, n5, n6, n7, n8, c1, c2, c3, c4, c5, c6, c7, c8, h1, h2.ch hc, h3⟩
theorem SessB.ch {w w' : World} {A7 A11 : Option Addr} {n6 n7 n8 n10 n11 : Nat} (h : SessB w A7 A11 n6 n7 n8 n10 n11) (hc : Ch (fun _ => False) w w') : SessB w' A7 A11 n6 n7 n8 n10 n11 :=
  ⟨h.1, h.2.1, h.2.2.1, h.2.2.2.1, h.2.2.2.2.1, (h.2.2.2.2.2.1.ch hc).mono fun _ k => k.ch hc, (h.2.2.2.2.2.2.ch hc).mono fun _ k => k.ch hc⟩
theorem MedsRd.ch {w w' : World} {A : Option Addr} {lm : List (List (ByteArray × ByteArray))} (h : MedsRd w A lm) (hc : Ch (fun _ => False) w w') : MedsRd w' A lm := fun k la hk => by
  obtain ⟨b, o, name', port, M1, M2, M3, M4, M5, M6, M7, M8, n1', n2', n3', n4', n5', n6', n7', d1, d2, d3, d4, d5, d6, d7, d8, h1, h2, h3, h4, h5, h6, h7, h8⟩ := h k la hk
  exact ⟨b, o, name', port, M1, M2, M3, M4, M5, M6, M7, M8, n1', n2', n3', n4', n5', n6', n7', d1, d2, d3, d4, d5, d6, d7, d8, h1, h2.ch hc, h3, h4, h5, h6, h7.ch hc, fun j u hu => hc.cell0 (h8 j u hu)⟩

set_option maxRecDepth 100000 in
set_option maxHeartbeats 4000000 in
theorem attrS_any {b c : Nat} {cs : Array Value} {S : Option Addr} {l : List (ByteArray × ByteArray)} {key : ByteArray} {w : World} (hb : w.heap[b]? = some (.cells cs 108 (0, 0))) (hcs : cs[17]? = some (.slice S l.length c)) (ho : w.ownsRow 0 240 2 (.slice S l.length c) l.length (l.flatMap attrC)) (hl : l.length ≤ 2147483647) :
    Calls Tryz.prog 71 #[.pointer (some ⟨b, 0, none⟩), .string key] w (AttrPost key l w) := by
  have c0 : w.cell? ⟨b, 17, none⟩ = some (.slice S l.length c) := blk_cell hb hcs
  have HL := Lib.hid (show Lst w 2 attrC S l from Lst.of_slice (f := attrC) (fun _ => rfl) ho rfl)
  have HGET := Lib.hid (show ∀ j, j < l.length → ∃ s t : ByteArray, l[j]? = some (s, t) from fun j hj => ⟨_, _, List.getElem?_eq_getElem hj⟩)
  obtain ⟨n, hn⟩ : ∃ n, l.length = n := ⟨_, rfl⟩
  have HN := Lib.hid hn
  rw [hn] at c0 HGET hl
  clear hb hcs ho hn
  go_enter Tryz.func71, Tryz.ntmps71
  go_wp2
  go_loopg [7, 13] n (fun g _ x wr => ∃ j : Nat, g = n - j ∧ j ≤ n ∧ x = .int .i64 j ∧ (∀ i p, i < j → l[i]? = some p → p.1 ≠ key) ∧ Ch (fun _ => False) w wr)
  case atStart => exact ⟨0, rfl, Nat.zero_le _, rfl, fun i p h => absurd h (by omega), Ch.refl _ _⟩
  case round =>
    obtain ⟨j, hg, hj, rfl, hne, hch⟩ := hrel
    have HG := Lib.hid hg
    have HNE := Lib.hid hne
    have HCH := Lib.hid hch
    clear hg hne hch
    by_cases hlt : j < n
    · obtain ⟨s, t, hget⟩ := HGET.out j hlt
      obtain ⟨b1, o1, rfl, hd⟩ := (HL.out.ch HCH.out) j _ hget
      have d0 := hd 0 _ rfl
      have d1 := hd 1 _ rfl
      rw [Nat.add_zero] at d0
      rw [← Nat.add_assoc] at d1
      have HA := Lib.hid (show Ch (fun _ => False) wr (wr.alloc (.cells #[.string s, .string t] 240)) from Ch.grown (World.grownBy_alloc _ _ none) (by simp))
      have HGT := Lib.hid hget
      clear hd hget
      by_cases hk : s = key
      · subst hk
        go_wp2
        refine bodyPost_ret (v := .tuple #[.string t, .bool true]) (by simp [results, Tryz.results71]) rfl ?_
        exact ⟨true, t, rfl, .inr ⟨rfl, j, HGT.out, fun i p hi hp => HNE.out i p hi hp⟩, HCH.out.trans HA.out⟩
      · have hbe : (s.toList == key.toList) = false := beq_eq_false_iff_ne.2 (fun h => hk (bytes_eq h))
        have HK := Lib.hid hk
        clear hk
        go_wp2_with fail
        go_roundg (n - (j + 1))
        case measure => have := HG.out; omega
        case rel => exact ⟨j + 1, rfl, by omega, by simp, fun i p hi hp => by
          rcases Nat.lt_or_ge i j with h1 | h1
          · exact HNE.out i p h1 hp
          · obtain rfl : i = j := by omega
            obtain rfl := Option.some.inj (HGT.out.symm.trans hp)
            exact HK.out, HCH.out.trans HA.out⟩
    · go_wp2
      refine bodyPost_ret (v := .tuple #[.string ⟨#[]⟩, .bool false]) (by simp [results, Tryz.results71]) rfl ?_
      refine ⟨false, _, rfl, .inl ⟨rfl, rfl, fun i p hp => HNE.out i p ?_ hp⟩, HCH.out⟩
      have h1 := (List.getElem?_eq_some_iff.1 hp).1
      have := HN.out
      omega

set_option maxRecDepth 100000 in
set_option maxHeartbeats 4000000 in
theorem attrM_any {b c : Nat} {cs : Array Value} {S : Option Addr} {l : List (ByteArray × ByteArray)} {key : ByteArray} {w : World} (hb : w.heap[b]? = some (.cells cs 226 (0, 0))) (hcs : cs[9]? = some (.slice S l.length c)) (ho : w.ownsRow 0 240 2 (.slice S l.length c) l.length (l.flatMap attrC)) (hl : l.length ≤ 2147483647) :
    Calls Tryz.prog 72 #[.pointer (some ⟨b, 0, none⟩), .string key] w (AttrPost key l w) := by
  have c0 : w.cell? ⟨b, 9, none⟩ = some (.slice S l.length c) := blk_cell hb hcs
  have HL := Lib.hid (show Lst w 2 attrC S l from Lst.of_slice (f := attrC) (fun _ => rfl) ho rfl)
  have HGET := Lib.hid (show ∀ j, j < l.length → ∃ s t : ByteArray, l[j]? = some (s, t) from fun j hj => ⟨_, _, List.getElem?_eq_getElem hj⟩)
  obtain ⟨n, hn⟩ : ∃ n, l.length = n := ⟨_, rfl⟩
  have HN := Lib.hid hn
  rw [hn] at c0 HGET hl
  clear hb hcs ho hn
  go_enter Tryz.func72, Tryz.ntmps72
  go_wp2
  go_loopg [7, 13] n (fun g _ x wr => ∃ j : Nat, g = n - j ∧ j ≤ n ∧ x = .int .i64 j ∧ (∀ i p, i < j → l[i]? = some p → p.1 ≠ key) ∧ Ch (fun _ => False) w wr)
  case atStart => exact ⟨0, rfl, Nat.zero_le _, rfl, fun i p h => absurd h (by omega), Ch.refl _ _⟩
  case round =>
    obtain ⟨j, hg, hj, rfl, hne, hch⟩ := hrel
    have HG := Lib.hid hg
    have HNE := Lib.hid hne
    have HCH := Lib.hid hch
    clear hg hne hch
    by_cases hlt : j < n
    · obtain ⟨s, t, hget⟩ := HGET.out j hlt
      obtain ⟨b1, o1, rfl, hd⟩ := (HL.out.ch HCH.out) j _ hget
      have d0 := hd 0 _ rfl
      have d1 := hd 1 _ rfl
      rw [Nat.add_zero] at d0
      rw [← Nat.add_assoc] at d1
      have HA := Lib.hid (show Ch (fun _ => False) wr (wr.alloc (.cells #[.string s, .string t] 240)) from Ch.grown (World.grownBy_alloc _ _ none) (by simp))
      have HGT := Lib.hid hget
      clear hd hget
      by_cases hk : s = key
      · subst hk
        go_wp2
        refine bodyPost_ret (v := .tuple #[.string t, .bool true]) (by simp [results, Tryz.results72]) rfl ?_
        exact ⟨true, t, rfl, .inr ⟨rfl, j, HGT.out, fun i p hi hp => HNE.out i p hi hp⟩, HCH.out.trans HA.out⟩
      · have hbe : (s.toList == key.toList) = false := beq_eq_false_iff_ne.2 (fun h => hk (bytes_eq h))
        have HK := Lib.hid hk
        clear hk
        go_wp2_with fail
        go_roundg (n - (j + 1))
        case measure => have := HG.out; omega
        case rel => exact ⟨j + 1, rfl, by omega, by simp, fun i p hi hp => by
          rcases Nat.lt_or_ge i j with h1 | h1
          · exact HNE.out i p h1 hp
          · obtain rfl : i = j := by omega
            obtain rfl := Option.some.inj (HGT.out.symm.trans hp)
            exact HK.out, HCH.out.trans HA.out⟩
    · go_wp2
      refine bodyPost_ret (v := .tuple #[.string ⟨#[]⟩, .bool false]) (by simp [results, Tryz.results72]) rfl ?_
      refine ⟨false, _, rfl, .inl ⟨rfl, rfl, fun i p hp => HNE.out i p ?_ hp⟩, HCH.out⟩
      have h1 := (List.getElem?_eq_some_iff.1 hp).1
      have := HN.out
      omega

set_option maxRecDepth 100000 in
set_option maxHeartbeats 4000000 in
theorem attributeOf_s {ver o1 o2 : Int} {s1 s2 s3 s4 name : ByteArray} {A1 A2 A3 A4 A5 A6 A7 A8 A9 A10 A11 : Option Addr} {n1 n2 n3 n4 n5 n7 n8 n9 c1 c2 c3 c4 c5 c6 c7 c8 c9 c10 c11 : Nat} {lb : List (Bool × ByteArray × Int)} {la : List (ByteArray × ByteArray)} {lm : List (List (ByteArray × ByteArray))} {key : ByteArray} {w : World} (h : SessRd w A1 A2 A3 A4 A5 A6 A7 A8 A9 A10 A11 n1 n2 n3 n4 n5 lb.length n7 n8 n9 la.length lm.length) (hb : SessB w A7 A11 lb.length n7 n8 la.length lm.length) (hl6 : Lst w 3 bandC A6 lb) (hl10 : Lst w 2 attrC A10 la) (hmd : MedsRd w A11 lm) :
    Calls Tryz.prog 33 #[.agg #[.int .i64 ver, .string s1, .int .u64 o1, .int .u64 o2, .string s2, .string s3, .string s4, .string name, .slice A1 n1 c1, .slice A2 n2 c2, .slice A3 n3 c3, .slice A4 n4 c4, .slice A5 n5 c5, .slice A6 lb.length c6, .slice A7 n7 c7, .slice A8 n8 c8, .slice A9 n9 c9, .slice A10 la.length c10, .slice A11 lm.length c11], .int .i64 (-1), .string key] w (AttrPost key la w) := by
  have hcx : Ch (fun _ => False) w (w.alloc (.cells #[.int .i64 ver, .string s1, .int .u64 o1, .int .u64 o2, .string s2, .string s3, .string s4, .string name, .slice A1 n1 c1, .slice A2 n2 c2, .slice A3 n3 c3, .slice A4 n4 c4, .slice A5 n5 c5, .slice A6 lb.length c6, .slice A7 n7 c7, .slice A8 n8 c8, .slice A9 n9 c9, .slice A10 la.length c10, .slice A11 lm.length c11] 36)) := Ch.grown (World.grownBy_alloc _ _ none) (by simp)
  have HB0 := Lib.hid (show (w.alloc (.cells #[.int .i64 ver, .string s1, .int .u64 o1, .int .u64 o2, .string s2, .string s3, .string s4, .string name, .slice A1 n1 c1, .slice A2 n2 c2, .slice A3 n3 c3, .slice A4 n4 c4, .slice A5 n5 c5, .slice A6 lb.length c6, .slice A7 n7 c7, .slice A8 n8 c8, .slice A9 n9 c9, .slice A10 la.length c10, .slice A11 lm.length c11] 36)).heap[w.heap.size]? = some (.cells #[.int .i64 ver, .string s1, .int .u64 o1, .int .u64 o2, .string s2, .string s3, .string s4, .string name, .slice A1 n1 c1, .slice A2 n2 c2, .slice A3 n3 c3, .slice A4 n4 c4, .slice A5 n5 c5, .slice A6 lb.length c6, .slice A7 n7 c7, .slice A8 n8 c8, .slice A9 n9 c9, .slice A10 la.length c10, .slice A11 lm.length c11] 36 (0, 0)) from heap_alloc_new w _)
  have HX := Lib.hid hcx
  have HS := Lib.hid (fun W (hc : Ch (fun _ => False) w W) => session_any (lb := lb) (la := la) (lm := lm) (ver := ver) (o1 := o1) (o2 := o2) (s1 := s1) (s2 := s2) (s3 := s3) (s4 := s4) (name := name) (c1 := c1) (c2 := c2) (c3 := c3) (c4 := c4) (c5 := c5) (c6 := c6) (c7 := c7) (c8 := c8) (c9 := c9) (c10 := c10) (c11 := c11) (h.ch hc) (hb.ch hc) (hl6.ch hc) (hl10.ch hc) (hmd.ch hc))
  have HLN := Lib.hid (show la.length ≤ 2147483647 ∧ lm.length ≤ 2147483647 from ⟨hb.2.2.2.1, hb.2.2.2.2.1⟩)
  have HML := Lib.hid (show ∀ (k : Nat) (l : List (ByteArray × ByteArray)), lm[k]? = some l → l.length ≤ 2147483647 from fun k l hk => by
    obtain ⟨_, _, _, _, _, _, _, _, _, _, _, _, _, _, _, _, _, _, _, _, _, _, _, _, _, _, _, _, _, _, _, _, h8, _⟩ := hmd k l hk
    exact h8)
  clear h hb hl6 hl10 hmd hcx
  go_enter Tryz.func33, Tryz.ntmps33
  go_wp2_with (refine wpList_load_row rfl 36 (.tmp 3) rfl w.heap.size rfl 36 #[.int .i64 ver, .string s1, .int .u64 o1, .int .u64 o2, .string s2, .string s3, .string s4, .string name, .slice A1 n1 c1, .slice A2 n2 c2, .slice A3 n3 c3, .slice A4 n4 c4, .slice A5 n5 c5, .slice A6 lb.length c6, .slice A7 n7 c7, .slice A8 n8 c8, .slice A9 n9 c9, .slice A10 la.length c10, .slice A11 lm.length c11] (0, 0) _ HB0.out Tryz.underlying36 rfl Tryz.size36 ?_)
  refine (HS.out _ HX.out).mono ?_
  rintro e W1 ⟨D, cs, SA, ca, SM, ms, rfl, hD, h17, h18, hoa, hom, hms, hmt, hc1⟩
  have HC1 := Lib.hid (HX.out.trans hc1)
  have HD := Lib.hid hD
  have HOA := Lib.hid hoa
  have H17 := Lib.hid h17
  clear hoa hc1 h17
  clear hD h18 hom hms hmt
  go_wp2_with fail
  refine (attrS_any HD.out H17.out HOA.out HLN.out.1).mono ?_
  rintro e W2 ⟨r, v, rfl, hf, hc2⟩
  have HF := Lib.hid hf
  have HC2 := Lib.hid (HC1.out.trans hc2)
  clear hf hc2
  go_wp2
  refine bodyPost_ret (v := .tuple #[.string v, .bool r]) (by simp [results, Tryz.results33]) rfl ?_
  exact ⟨r, v, rfl, HF.out, HC2.out⟩

set_option maxRecDepth 100000 in
set_option maxHeartbeats 4000000 in
theorem attributeOf_m {ver o1 o2 : Int} {s1 s2 s3 s4 name : ByteArray} {A1 A2 A3 A4 A5 A6 A7 A8 A9 A10 A11 : Option Addr} {n1 n2 n3 n4 n5 n7 n8 n9 c1 c2 c3 c4 c5 c6 c7 c8 c9 c10 c11 : Nat} {lb : List (Bool × ByteArray × Int)} {la : List (ByteArray × ByteArray)} {lm : List (List (ByteArray × ByteArray))} {key : ByteArray} {mi : Nat} {lam : List (ByteArray × ByteArray)} {w : World} (h : SessRd w A1 A2 A3 A4 A5 A6 A7 A8 A9 A10 A11 n1 n2 n3 n4 n5 lb.length n7 n8 n9 la.length lm.length) (hb : SessB w A7 A11 lb.length n7 n8 la.length lm.length) (hl6 : Lst w 3 bandC A6 lb) (hl10 : Lst w 2 attrC A10 la) (hmd : MedsRd w A11 lm) (hmi : lm[mi]? = some lam) :
    Calls Tryz.prog 33 #[.agg #[.int .i64 ver, .string s1, .int .u64 o1, .int .u64 o2, .string s2, .string s3, .string s4, .string name, .slice A1 n1 c1, .slice A2 n2 c2, .slice A3 n3 c3, .slice A4 n4 c4, .slice A5 n5 c5, .slice A6 lb.length c6, .slice A7 n7 c7, .slice A8 n8 c8, .slice A9 n9 c9, .slice A10 la.length c10, .slice A11 lm.length c11], .int .i64 mi, .string key] w (AttrPost key lam w) := by
  have hm1 : ¬ ((mi : Int) = -1) := by omega
  have hm1' : ((mi : Int) == -1) = false := beq_eq_false_iff_ne.2 hm1
  have hm0 : ¬ ((mi : Int) < 0) := by omega
  have hmlt : mi < lm.length := (List.getElem?_eq_some_iff.1 hmi).1
  have hmlt' : ¬ ((lm.length : Int) ≤ mi) := by omega
  have hmlt2 : (mi : Int) < (lm.length : Int) := by omega
  have hcx : Ch (fun _ => False) w (w.alloc (.cells #[.int .i64 ver, .string s1, .int .u64 o1, .int .u64 o2, .string s2, .string s3, .string s4, .string name, .slice A1 n1 c1, .slice A2 n2 c2, .slice A3 n3 c3, .slice A4 n4 c4, .slice A5 n5 c5, .slice A6 lb.length c6, .slice A7 n7 c7, .slice A8 n8 c8, .slice A9 n9 c9, .slice A10 la.length c10, .slice A11 lm.length c11] 36)) := Ch.grown (World.grownBy_alloc _ _ none) (by simp)
  have HB0 := Lib.hid (show (w.alloc (.cells #[.int .i64 ver, .string s1, .int .u64 o1, .int .u64 o2, .string s2, .string s3, .string s4, .string name, .slice A1 n1 c1, .slice A2 n2 c2, .slice A3 n3 c3, .slice A4 n4 c4, .slice A5 n5 c5, .slice A6 lb.length c6, .slice A7 n7 c7, .slice A8 n8 c8, .slice A9 n9 c9, .slice A10 la.length c10, .slice A11 lm.length c11] 36)).heap[w.heap.size]? = some (.cells #[.int .i64 ver, .string s1, .int .u64 o1, .int .u64 o2, .string s2, .string s3, .string s4, .string name, .slice A1 n1 c1, .slice A2 n2 c2, .slice A3 n3 c3, .slice A4 n4 c4, .slice A5 n5 c5, .slice A6 lb.length c6, .slice A7 n7 c7, .slice A8 n8 c8, .slice A9 n9 c9, .slice A10 la.length c10, .slice A11 lm.length c11] 36 (0, 0)) from heap_alloc_new w _)
  have HX := Lib.hid hcx
  have HS := Lib.hid (fun W (hc : Ch (fun _ => False) w W) => session_any (lb := lb) (la := la) (lm := lm) (ver := ver) (o1 := o1) (o2 := o2) (s1 := s1) (s2 := s2) (s3 := s3) (s4 := s4) (name := name) (c1 := c1) (c2 := c2) (c3 := c3) (c4 := c4) (c5 := c5) (c6 := c6) (c7 := c7) (c8 := c8) (c9 := c9) (c10 := c10) (c11 := c11) (h.ch hc) (hb.ch hc) (hl6.ch hc) (hl10.ch hc) (hmd.ch hc))
  have HLN := Lib.hid (show la.length ≤ 2147483647 ∧ lm.length ≤ 2147483647 from ⟨hb.2.2.2.1, hb.2.2.2.2.1⟩)
  have HML := Lib.hid (show ∀ (k : Nat) (l : List (ByteArray × ByteArray)), lm[k]? = some l → l.length ≤ 2147483647 from fun k l hk => by
    obtain ⟨_, _, _, _, _, _, _, _, _, _, _, _, _, _, _, _, _, _, _, _, _, _, _, _, _, _, _, _, _, _, _, _, h8, _⟩ := hmd k l hk
    exact h8)
  clear h hb hl6 hl10 hmd hcx
  go_enter Tryz.func33, Tryz.ntmps33
  go_wp2_with (refine wpList_load_row rfl 36 (.tmp 3) rfl w.heap.size rfl 36 #[.int .i64 ver, .string s1, .int .u64 o1, .int .u64 o2, .string s2, .string s3, .string s4, .string name, .slice A1 n1 c1, .slice A2 n2 c2, .slice A3 n3 c3, .slice A4 n4 c4, .slice A5 n5 c5, .slice A6 lb.length c6, .slice A7 n7 c7, .slice A8 n8 c8, .slice A9 n9 c9, .slice A10 la.length c10, .slice A11 lm.length c11] (0, 0) _ HB0.out Tryz.underlying36 rfl Tryz.size36 ?_)
  refine (HS.out _ HX.out).mono ?_
  rintro e W1 ⟨D, cs, SA, ca, SM, ms, rfl, hD, h17, h18, hoa, hom, hms, hmt, hc1⟩
  have HC1 := Lib.hid (HX.out.trans hc1)
  have HD := Lib.hid hD
  have HOA := Lib.hid hoa
  have H17 := Lib.hid h17
  clear hoa hc1 h17
  obtain ⟨SMa, cm, rfl⟩ := own_slice hom
  obtain ⟨M, hM⟩ : ∃ M, ms[mi]? = some M := ⟨_, List.getElem?_eq_getElem (by omega)⟩
  have hlst : Lst W1 1 (fun M : Nat => [Value.pointer (some ⟨M, 0, none⟩)]) SMa ms := Lst.of_slice (n := lm.length) (fun _ => rfl) (by rw [← flat_one ms]; exact hom) hms.symm
  obtain ⟨bm, om, rfl, hcm⟩ := hlst mi M hM
  have d0 : W1.cell? ⟨bm, om + mi, none⟩ = some (.pointer (some ⟨M, 0, none⟩)) := by simpa using hcm 0 _ rfl
  have c18 : W1.cell? ⟨D, 18, none⟩ = some (.slice (some ⟨bm, om, none⟩) lm.length cm) := blk_cell hD h18
  obtain ⟨cs9, S9, c9, g1, g2, g3⟩ := hmt mi M lam hM hmi
  have G1 := Lib.hid g1
  have G2 := Lib.hid g2
  have G3 := Lib.hid g3
  have HMI := Lib.hid hmi
  clear hD h18 hom hms hmt hlst hcm hM g1 g2 g3 hmi
  go_wp2_with fail
  refine (attrM_any G1.out G2.out G3.out (HML.out mi lam HMI.out)).mono ?_
  rintro e W2 ⟨r, v, rfl, hf, hc2⟩
  have HF := Lib.hid hf
  have HC2 := Lib.hid (HC1.out.trans hc2)
  clear hf hc2
  go_wp2
  refine bodyPost_ret (v := .tuple #[.string v, .bool r]) (by simp [results, Tryz.results33]) rfl ?_
  exact ⟨r, v, rfl, HF.out, HC2.out⟩

set_option maxRecDepth 100000 in
set_option maxHeartbeats 8000000 in
theorem fnAttribute_walk {ae : Addr} {ver o1 o2 : Int} {s1 s2 s3 s4 name : ByteArray} {A1 A2 A3 A4 A5 A6 A7 A8 A9 A10 A11 : Option Addr} {n1 n2 n3 n4 n5 n7 n8 n9 c1 c2 c3 c4 c5 c6 c7 c8 c9 c10 c11 : Nat} {lb : List (Bool × ByteArray × Int)} {la : List (ByteArray × ByteArray)} {lm : List (List (ByteArray × ByteArray))} {zi : Int} {key : ByteArray} {w : World} (h : SessRd w A1 A2 A3 A4 A5 A6 A7 A8 A9 A10 A11 n1 n2 n3 n4 n5 lb.length n7 n8 n9 la.length lm.length) (hl6 : Lst w 3 bandC A6 lb) (hl10 : Lst w 2 attrC A10 la) (hmd : SessB w A7 A11 lb.length n7 n8 la.length lm.length → MedsRd w A11 lm) (h6 : w.cell? ⟨6, 0, none⟩ = some (.iface 342 (.pointer (some ae)))) :
    Calls Tryz.prog 9 #[.agg #[.int .i64 ver, .string s1, .int .u64 o1, .int .u64 o2, .string s2, .string s3, .string s4, .string name, .slice A1 n1 c1, .slice A2 n2 c2, .slice A3 n3 c3, .slice A4 n4 c4, .slice A5 n5 c5, .slice A6 lb.length c6, .slice A7 n7 c7, .slice A8 n8 c8, .slice A9 n9 c9, .slice A10 la.length c10, .slice A11 lm.length c11], .int .i64 zi, .string key] w fun e w' => e = .returned (.bool true) ∧ Ch (fun _ => False) w w' := by
  have hb0 : (w.alloc (.cells #[.int .i64 ver, .string s1, .int .u64 o1, .int .u64 o2, .string s2, .string s3, .string s4, .string name, .slice A1 n1 c1, .slice A2 n2 c2, .slice A3 n3 c3, .slice A4 n4 c4, .slice A5 n5 c5, .slice A6 lb.length c6, .slice A7 n7 c7, .slice A8 n8 c8, .slice A9 n9 c9, .slice A10 la.length c10, .slice A11 lm.length c11] 36)).heap[w.heap.size]? = some (.cells #[.int .i64 ver, .string s1, .int .u64 o1, .int .u64 o2, .string s2, .string s3, .string s4, .string name, .slice A1 n1 c1, .slice A2 n2 c2, .slice A3 n3 c3, .slice A4 n4 c4, .slice A5 n5 c5, .slice A6 lb.length c6, .slice A7 n7 c7, .slice A8 n8 c8, .slice A9 n9 c9, .slice A10 la.length c10, .slice A11 lm.length c11] 36 (0, 0)) := heap_alloc_new w _
  have hc0 : Ch (fun _ => False) w (w.alloc (.cells #[.int .i64 ver, .string s1, .int .u64 o1, .int .u64 o2, .string s2, .string s3, .string s4, .string name, .slice A1 n1 c1, .slice A2 n2 c2, .slice A3 n3 c3, .slice A4 n4 c4, .slice A5 n5 c5, .slice A6 lb.length c6, .slice A7 n7 c7, .slice A8 n8 c8, .slice A9 n9 c9, .slice A10 la.length c10, .slice A11 lm.length c11] 36)) := Ch.grown (World.grownBy_alloc _ _ none) (by simp)
  have HB0 := Lib.hid hb0
  have HC0 := Lib.hid hc0
  have HM := Lib.hid h
  have HL6 := Lib.hid hl6
  have HL10 := Lib.hid hl10
  have HMD0 := Lib.hid hmd
  have H6 := Lib.hid h6
  clear h hl6 hl10 hmd h6 hb0 hc0
  go_enter Tryz.func9, Tryz.ntmps9
  go_wp2_with (refine wpList_load_row rfl 36 (.tmp 3) rfl w.heap.size rfl 36 #[.int .i64 ver, .string s1, .int .u64 o1, .int .u64 o2, .string s2, .string s3, .string s4, .string name, .slice A1 n1 c1, .slice A2 n2 c2, .slice A3 n3 c3, .slice A4 n4 c4, .slice A5 n5 c5, .slice A6 lb.length c6, .slice A7 n7 c7, .slice A8 n8 c8, .slice A9 n9 c9, .slice A10 la.length c10, .slice A11 lm.length c11] (0, 0) _ HB0.out Tryz.underlying36 rfl Tryz.size36 ?_)
  obtain ⟨B, hB⟩ : ∃ B, w.heap.size = B := ⟨_, rfl⟩
  rw [hB] at HB0 ⊢
  clear hB
  generalize (w.alloc (.cells #[.int .i64 ver, .string s1, .int .u64 o1, .int .u64 o2, .string s2, .string s3, .string s4, .string name, .slice A1 n1 c1, .slice A2 n2 c2, .slice A3 n3 c3, .slice A4 n4 c4, .slice A5 n5 c5, .slice A6 lb.length c6, .slice A7 n7 c7, .slice A8 n8 c8, .slice A9 n9 c9, .slice A10 la.length c10, .slice A11 lm.length c11] 36)) = W0 at *
  refine (zzFits1_any HM.out HC0.out).mono ?_
  rintro e W1 ⟨⟨r, rfl, hr⟩, hc1⟩
  have HB1 := Lib.hid ((hc1.block _ (blk_lt HB0.out) id).trans HB0.out)
  have HC1 := Lib.hid (HC0.out.trans hc1)
  clear hc1
  cases r with
  | false =>
    clear hr
    go_wp2
    go_ret
    exact ⟨rfl, HC1.out⟩
  | true =>
  have HBD := Lib.hid (hr rfl)
  have HMD := Lib.hid (HMD0.out (hr rfl))
  clear hr HMD0
  by_cases hkz : 2147483647 < key.size
  · go_wp2
    go_ret
    exact ⟨rfl, HC1.out⟩
  have k17 : W1.cell? ⟨B, 17, none⟩ = some (.slice A10 la.length c10) := blk_cell HB1.out rfl
  have k18 : W1.cell? ⟨B, 18, none⟩ = some (.slice A11 lm.length c11) := blk_cell HB1.out rfl
  have h61 := HC1.out.cell H6.out id
  have h61l := World.block_lt_of_cell? _ _ h61
  by_cases hlm : 20 < lm.length
  · go_wp2_with (go_at_call 13; refine (works_true h61 h61l).mono ?_; rintro e w1 ⟨rfl, hc⟩)
    go_ret
    exact ⟨rfl, HC1.out.trans hc⟩
  by_cases hla : 50 < la.length
  · go_wp2_with (go_at_call 13; refine (works_true h61 h61l).mono ?_; rintro e w1 ⟨rfl, hc⟩)
    go_ret
    exact ⟨rfl, HC1.out.trans hc⟩
  by_cases hz0 : zi < -1
  · go_wp2_with (go_at_call 13; refine (works_true h61 h61l).mono ?_; rintro e w1 ⟨rfl, hc⟩)
    go_ret
    exact ⟨rfl, HC1.out.trans hc⟩
  by_cases hz1 : (lm.length : Int) ≤ zi
  · go_wp2_with (go_at_call 13; refine (works_true h61 h61l).mono ?_; rintro e w1 ⟨rfl, hc⟩)
    go_ret
    exact ⟨rfl, HC1.out.trans hc⟩
  by_cases hz : zi = -1
  · subst hz
    clear h61 h61l
    obtain ⟨n, hn⟩ : ∃ n, la.length = n := ⟨_, rfl⟩
    have HN := Lib.hid hn
    have HGET := Lib.hid (show ∀ j, j < n → ∃ s t : ByteArray, la[j]? = some (s, t) from fun j hj => ⟨_, _, List.getElem?_eq_getElem (by rw [hn]; exact hj)⟩)
    rw [hn] at k17
    have hn50 : ¬ (50 < n) := by rw [← hn]; exact hla
    have hnb : n ≤ 2147483647 := by omega
    clear hn
    go_upto_region 8 with fail
    go_cut [8, 9] from 13 to 52 (fun s8 s9 wx => s8 = .string ⟨#[]⟩ ∧ s9 = .bool false ∧ wx = W1)
    case first =>
      go_wp2_with fail
      go_meet
      exact ⟨rfl, rfl, rfl⟩
    case rest =>
    obtain ⟨rfl, rfl, hwc⟩ := hcut
    rw [hwc]
    clear hwc
    go_wp2_with fail
    go_loopg [8, 9, 10] (n + 1) (fun g s8 s9 x wr => ∃ (k : Nat) (r : Bool) (v : ByteArray), g = k + 1 ∧ k ≤ n ∧ x = .int .i64 ((k : Int) - 1) ∧ s8 = .string v ∧ s9 = .bool r ∧ isFirst key (la.drop k) r v ∧ wr = W1)
    case atStart => exact ⟨n, false, _, rfl, Nat.le_refl _, by first | rfl | (congr 1; unfold RowKit.wrap64; omega), rfl, rfl, by rw [List.drop_of_length_le (by rw [HN.out]; exact Nat.le_refl _)]; exact .inl ⟨rfl, rfl, fun i p h => by simp at h⟩, rfl⟩
    case round =>
      obtain ⟨k, r, v, hg, hk, rfl, rfl, rfl, hf, rfl⟩ := hrel
      have HG := Lib.hid hg
      have HF := Lib.hid hf
      clear hg hf
      by_cases h0 : 0 < k
      · obtain ⟨k', rfl⟩ : ∃ k', k = k' + 1 := ⟨k - 1, by omega⟩
        have e1 : ((k' + 1 : Nat) : Int) - 1 = (k' : Int) := by omega
        rw [e1]
        obtain ⟨s, t, hget⟩ := HGET.out k' (by omega)
        have hklt : (k' : Int) < (n : Int) := by omega
        have hwk : IntKind.i64.wrap ((k' : Int) - 1) = (k' : Int) - 1 := IntWalk.i64_in _ (by omega)
        obtain ⟨b1, o1, rfl, hd⟩ := (HL10.out.ch HC1.out) k' _ hget
        have d0 := hd 0 _ rfl
        have d1 := hd 1 _ rfl
        rw [Nat.add_zero] at d0
        rw [← Nat.add_assoc] at d1
        have HGT := Lib.hid hget
        clear hd hget
        by_cases hke : s = key
        · subst hke
          go_wp2_with fail
          go_roundg (k' + 1)
          case measure => have := HG.out; omega
          case rel => exact ⟨k', true, t, rfl, by omega, by first | rfl | (congr 1; unfold RowKit.wrap64; omega), rfl, rfl, first_hit HGT.out, rfl⟩
        · have hbe : (s.toList == key.toList) = false := beq_eq_false_iff_ne.2 (fun h => hke (bytes_eq h))
          have HK := Lib.hid hke
          clear hke
          go_wp2_with fail
          go_roundg (k' + 1)
          case measure => have := HG.out; omega
          case rel => exact ⟨k', r, v, rfl, by omega, by first | rfl | (congr 1; unfold RowKit.wrap64; omega), rfl, rfl, first_miss HGT.out HK.out HF.out, rfl⟩
      · obtain rfl : k = 0 := by omega
        have hm1 : ¬ ((0 : Int) ≤ ((0 : Nat) : Int) - 1) := by omega
        go_wp2_with (refine wpList_load_row rfl 36 (.tmp 3) rfl B rfl 36 #[.int .i64 ver, .string s1, .int .u64 o1, .int .u64 o2, .string s2, .string s3, .string s4, .string name, .slice A1 n1 c1, .slice A2 n2 c2, .slice A3 n3 c3, .slice A4 n4 c4, .slice A5 n5 c5, .slice A6 lb.length c6, .slice A7 n7 c7, .slice A8 n8 c8, .slice A9 n9 c9, .slice A10 la.length c10, .slice A11 lm.length c11] (0, 0) _ HB1.out Tryz.underlying36 rfl Tryz.size36 ?_)
        refine (attributeOf_s (key := key) (c1 := c1) (c2 := c2) (c3 := c3) (c4 := c4) (c5 := c5) (c6 := c6) (c7 := c7) (c8 := c8) (c9 := c9) (c10 := c10) (c11 := c11) (ver := ver) (o1 := o1) (o2 := o2) (s1 := s1) (s2 := s2) (s3 := s3) (s4 := s4) (name := name) (HM.out.ch HC1.out) (HBD.out.ch HC1.out) (HL6.out.ch HC1.out) (HL10.out.ch HC1.out) (HMD.out.ch HC1.out)).mono ?_
        rintro e W2 ⟨r', v', rfl, hf', hc2⟩
        obtain ⟨rfl, rfl⟩ := first_one (by simpa using HF.out) hf'
        have h61' := (HC1.out.trans hc2).cell H6.out id
        have h61l' := World.block_lt_of_cell? _ _ h61'
        have HC2 := Lib.hid (HC1.out.trans hc2)
        clear hc2 hf'
        go_wp2_with (go_at_call 13; refine (works_true h61' h61l').mono ?_; rintro e w1 ⟨rfl, hc⟩)
        go_ret
        exact ⟨rfl, HC2.out.trans hc⟩
  · obtain ⟨mi, rfl⟩ := Int.eq_ofNat_of_zero_le (show 0 ≤ zi by omega)
    have hmlt : mi < lm.length := by omega
    have hm0 : (0 : Int) ≤ (mi : Int) := by omega
    have hmlt2 : (mi : Int) < (lm.length : Int) := by omega
    obtain ⟨lam, hlam⟩ : ∃ l, lm[mi]? = some l := ⟨_, List.getElem?_eq_getElem hmlt⟩
    have HMI := Lib.hid hlam
    obtain ⟨b, o, name', port, M1, M2, M3, M4, M5, M6, M7, M8, n1', n2', n3', n4', n5', n6', n7', d1, d2, d3, d4, d5, d6, d7, d8, hA11, _, _, _, _, hb8, hl8, hc⟩ := HMD.out mi lam hlam
    subst hA11
    have k9 : W1.cell? ⟨b, o + mi * 10 + 9, none⟩ = some (.slice M8 lam.length d8) := by
      have := HC1.out.cell0 (hc 9 _ rfl)
      rw [← Nat.add_assoc] at this
      exact this
    have HLM := Lib.hid (hl8.ch HC1.out)
    clear hc hl8 hlam h61 h61l
    obtain ⟨n, hn⟩ : ∃ n, lam.length = n := ⟨_, rfl⟩
    have HN := Lib.hid hn
    have HGET := Lib.hid (show ∀ j, j < n → ∃ s t : ByteArray, lam[j]? = some (s, t) from fun j hj => ⟨_, _, List.getElem?_eq_getElem (by rw [hn]; exact hj)⟩)
    rw [hn] at k9
    have hnb : n ≤ 2147483647 := by rw [← hn]; exact hb8
    clear hn
    go_upto_region 8 with fail
    go_cut [8, 9] from 13 to 52 (fun s8 s9 wx => s8 = .string ⟨#[]⟩ ∧ s9 = .bool false ∧ wx = W1)
    case first =>
      go_wp2_with fail
      go_meet
      exact ⟨rfl, rfl, rfl⟩
    case rest =>
    obtain ⟨rfl, rfl, hwc⟩ := hcut
    rw [hwc]
    clear hwc
    go_wp2_with fail
    go_loopg [8, 9, 10] (n + 1) (fun g s8 s9 x wr => ∃ (k : Nat) (r : Bool) (v : ByteArray), g = k + 1 ∧ k ≤ n ∧ x = .int .i64 ((k : Int) - 1) ∧ s8 = .string v ∧ s9 = .bool r ∧ isFirst key (lam.drop k) r v ∧ wr = W1)
    case atStart => exact ⟨n, false, _, rfl, Nat.le_refl _, by first | rfl | (congr 1; unfold RowKit.wrap64; omega), rfl, rfl, by rw [List.drop_of_length_le (by rw [HN.out]; exact Nat.le_refl _)]; exact .inl ⟨rfl, rfl, fun i p h => by simp at h⟩, rfl⟩
    case round =>
      obtain ⟨k, r, v, hg, hk, rfl, rfl, rfl, hf, rfl⟩ := hrel
      have HG := Lib.hid hg
      have HF := Lib.hid hf
      clear hg hf
      by_cases h0 : 0 < k
      · obtain ⟨k', rfl⟩ : ∃ k', k = k' + 1 := ⟨k - 1, by omega⟩
        have e1 : ((k' + 1 : Nat) : Int) - 1 = (k' : Int) := by omega
        rw [e1]
        obtain ⟨s, t, hget⟩ := HGET.out k' (by omega)
        have hklt : (k' : Int) < (n : Int) := by omega
        have hwk : IntKind.i64.wrap ((k' : Int) - 1) = (k' : Int) - 1 := IntWalk.i64_in _ (by omega)
        obtain ⟨b1, o1, rfl, hd⟩ := HLM.out k' _ hget
        have d0 := hd 0 _ rfl
        have d1 := hd 1 _ rfl
        rw [Nat.add_zero] at d0
        rw [← Nat.add_assoc] at d1
        have HGT := Lib.hid hget
        clear hd hget
        by_cases hke : s = key
        · subst hke
          go_wp2_with fail
          go_roundg (k' + 1)
          case measure => have := HG.out; omega
          case rel => exact ⟨k', true, t, rfl, by omega, by first | rfl | (congr 1; unfold RowKit.wrap64; omega), rfl, rfl, first_hit HGT.out, rfl⟩
        · have hbe : (s.toList == key.toList) = false := beq_eq_false_iff_ne.2 (fun h => hke (bytes_eq h))
          have HK := Lib.hid hke
          clear hke
          go_wp2_with fail
          go_roundg (k' + 1)
          case measure => have := HG.out; omega
          case rel => exact ⟨k', r, v, rfl, by omega, by first | rfl | (congr 1; unfold RowKit.wrap64; omega), rfl, rfl, first_miss HGT.out HK.out HF.out, rfl⟩
      · obtain rfl : k = 0 := by omega
        have hm1 : ¬ ((0 : Int) ≤ ((0 : Nat) : Int) - 1) := by omega
        go_wp2_with (refine wpList_load_row rfl 36 (.tmp 3) rfl B rfl 36 #[.int .i64 ver, .string s1, .int .u64 o1, .int .u64 o2, .string s2, .string s3, .string s4, .string name, .slice A1 n1 c1, .slice A2 n2 c2, .slice A3 n3 c3, .slice A4 n4 c4, .slice A5 n5 c5, .slice A6 lb.length c6, .slice A7 n7 c7, .slice A8 n8 c8, .slice A9 n9 c9, .slice A10 la.length c10, .slice (some ⟨b, o, none⟩) lm.length c11] (0, 0) _ HB1.out Tryz.underlying36 rfl Tryz.size36 ?_)
        refine (attributeOf_m (key := key) (mi := mi) (lam := lam) (c1 := c1) (c2 := c2) (c3 := c3) (c4 := c4) (c5 := c5) (c6 := c6) (c7 := c7) (c8 := c8) (c9 := c9) (c10 := c10) (c11 := c11) (ver := ver) (o1 := o1) (o2 := o2) (s1 := s1) (s2 := s2) (s3 := s3) (s4 := s4) (name := name) (HM.out.ch HC1.out) (HBD.out.ch HC1.out) (HL6.out.ch HC1.out) (HL10.out.ch HC1.out) (HMD.out.ch HC1.out) HMI.out).mono ?_
        rintro e W2 ⟨r', v', rfl, hf', hc2⟩
        obtain ⟨rfl, rfl⟩ := first_one (by simpa using HF.out) hf'
        have h61' := (HC1.out.trans hc2).cell H6.out id
        have h61l' := World.block_lt_of_cell? _ _ h61'
        have HC2 := Lib.hid (HC1.out.trans hc2)
        clear hc2 hf'
        go_wp2_with (go_at_call 13; refine (works_true h61' h61l').mono ?_; rintro e w1 ⟨rfl, hc⟩)
        go_ret
        exact ⟨rfl, HC2.out.trans hc⟩


end Go.Proofs.YtimonhimfioohaaGreatDoor
