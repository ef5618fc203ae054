/- The lines of a session, in the phases of the parse. -/
import Derived.Test.YtimonhimfioohaaGreatDoorMergC
import Derived.Test.YtimonhimfioohaaGreatDoorMergS
import Derived.Test.YtimonhimfioohaaGreatDoorRun

namespace Go.Proofs.YtimonhimfioohaaGreatDoor
open Go.RowKit

/-- Ahead of the name: nothing but the first three lines is known. -/
structure F0 (B D : Nat) (W : World) : Prop where
  dl : D < B
  cache : W.heap[B + 1]? = some (.cells #[.slice none 0 0, .slice none 0 0] 172 (0, 0))
theorem F0.pass {B D : Nat} {W W' : World} (h : F0 B D W) (hc : Ch (fun k => k = B ∨ k = D) W W') : F0 B D W' :=
  ⟨h.dl, (hc.block _ (blk_lt h.cache) (by have := h.dl; omega)).trans h.cache⟩

/-- What is known between two lines, in each state. -/
def PhQ (B D : Nat) : Nat → Array Value → Nat → World → Prop
  | 1, cs, _, W => cs = zeroDesc ∧ F0 B D W
  | 2, cs, _, W => cs = zeroDesc ∧ F0 B D W
  | 3, cs, _, W => cs = desc1 ∧ F0 B D W
  | 4, cs, i, W => Ph1 B D cs i W
  | 5, cs, i, W => Ph1 B D cs i W
  | 6, cs, i, W => Ph1 B D cs i W
  | 7, cs, i, W => Ph1 B D cs i W
  | 8, cs, i, W => Ph1 B D cs i W
  | 10, cs, i, W => Ph1 B D cs i W
  | 9, cs, i, W => Ph2 B D cs i W
  | 11, cs, i, W => Ph3 B D cs i W
  | 13, cs, i, W => Ph3 B D cs i W
  | _, cs, i, W => Ph4 B D cs i W

section
variable {ae : Addr} {B D : Nat} {s : ByteArray} {w0 : World} {cs : Array Value} {i k : Nat} {w : World}

theorem Ph1.pass {i' : Nat} {w' : World} (h : Ph1 B D cs i w) (hc : Ch (fun k => k = B ∨ k = D) w w') (hi : i ≤ i') : Ph1 B D cs i' w' := by
  obtain ⟨p8, p9, p10, p11, p12, v13, n13, rfl, hF⟩ := h
  exact ⟨p8, p9, p10, p11, p12, v13, n13, rfl, hF.pass hc hi⟩
theorem Ph2.pass {i' : Nat} {w' : World} (h : Ph2 B D cs i w) (hc : Ch (fun k => k = B ∨ k = D) w w') (hi : i ≤ i') : Ph2 B D cs i' w' := by
  obtain ⟨p8, p9, p10, p11, p12, v13, v14, vr, ts, os, rfl, hF⟩ := h
  exact ⟨p8, p9, p10, p11, p12, v13, v14, vr, ts, os, rfl, hF.pass hc hi⟩
theorem Ph3.pass {i' : Nat} {w' : World} (h : Ph3 B D cs i w) (hc : Ch (fun k => k = B ∨ k = D) w w') (hi : i ≤ i') : Ph3 B D cs i' w' := by
  obtain ⟨p8, p9, p10, p11, p12, v13, v14, v15, p16, va, la, rfl, hF⟩ := h
  exact ⟨p8, p9, p10, p11, p12, v13, v14, v15, p16, va, la, rfl, hF.pass hc hi⟩
theorem Ph4.pass {i' : Nat} {w' : World} (h : Ph4 B D cs i w) (hc : Ch (fun k => k = B ∨ k = D) w w') (hi : i ≤ i') : Ph4 B D cs i' w' := by
  obtain ⟨p8, p9, p10, p11, p12, v13, v14, v15, p16, va, vm, v18, lm, bs, b, q2, v3, v4, q5, q6, v7, q8, lb, rfl, hF⟩ := h
  exact ⟨p8, p9, p10, p11, p12, v13, v14, v15, p16, va, vm, v18, lm, bs, b, q2, v3, v4, q5, q6, v7, q8, lb, rfl, hF.pass hc hi⟩
theorem PhQ.pass {q i' : Nat} {w' : World} (h : PhQ B D q cs i w) (hc : Ch (fun k => k = B ∨ k = D) w w') (hi : i ≤ i') : PhQ B D q cs i' w' := by
  unfold PhQ at h ⊢
  split at h
  · exact ⟨h.1, h.2.pass hc⟩
  · exact ⟨h.1, h.2.pass hc⟩
  · exact ⟨h.1, h.2.pass hc⟩
  · exact Ph1.pass h hc hi
  · exact Ph1.pass h hc hi
  · exact Ph1.pass h hc hi
  · exact Ph1.pass h hc hi
  · exact Ph1.pass h hc hi
  · exact Ph1.pass h hc hi
  · exact Ph2.pass h hc hi
  · exact Ph3.pass h hc hi
  · exact Ph3.pass h hc hi
  · exact Ph4.pass h hc hi

theorem St.hB (_h : St ae (Own B D) B D (B + 1) s w0 cs i w) (hC : B + 1 < w.heap.size) : B + 2 ≤ w.heap.size := hC

/-- The first three lines. -/
theorem v_any (h : St ae (Own B D) B D (B + 1) s w0 cs i w) (hp : cs = zeroDesc ∧ F0 B D w) {r : List UInt8} (hl : s.data.toList.drop i = 48 :: 13 :: 10 :: r) (hr : lead isNl r = 0) :
    Calls Tryz.prog 129 #[.pointer (some ⟨B, 0, none⟩)] w (LineR ae B D s w0 152 (i + 3) fun cs w' => cs = zeroDesc ∧ F0 B D w') := by
  refine (version_line h.low hl hr).mono ?_
  rintro e w' ⟨rfl, hs⟩
  exact ⟨rfl, _, h.back hs own_low, hp.1, hp.2.pass hs.ch⟩
theorem o_any (h : St ae (Own B D) B D (B + 1) s w0 cs i w) (hp : cs = zeroDesc ∧ F0 B D w) {r : List UInt8} (hl : s.data.toList.drop i = 45 :: 32 :: 49 :: 32 :: 49 :: 32 :: 73 :: 78 :: 32 :: 73 :: 80 :: 52 :: 32 :: 97 :: 13 :: 10 :: r) (hr : lead isNl r = 0) :
    Calls Tryz.prog 178 #[.pointer (some ⟨B, 0, none⟩)] w (LineR ae B D s w0 194 (i + 16) fun cs w' => cs = desc1 ∧ F0 B D w') := by
  refine (origin_line h.low hl hr).mono ?_
  rintro e w' ⟨rfl, hs⟩
  exact ⟨rfl, _, h.back hs own_low, by rw [hp.1]; rfl, hp.2.pass hs.ch⟩
theorem s_any (h : St ae (Own B D) B D (B + 1) s w0 cs i w) (hp : cs = desc1 ∧ F0 B D w) {r : List UInt8} (hl : s.data.toList.drop i = 120 :: 13 :: 10 :: r) :
    Calls Tryz.prog 200 #[.pointer (some ⟨B, 0, none⟩)] w (LineR ae B D s w0 202 (i + 3) fun cs w' => Ph1 B D cs (k + 1) w') := by
  refine (name_line h.low hl).mono ?_
  rintro e w' ⟨rfl, hs⟩
  have h0 := hp.2.pass hs.ch
  exact ⟨rfl, _, h.back hs own_low, none, none, none, none, none, .slice none 0 0, 0, by rw [hp.1]; rfl, h0.dl, h0.cache, ⟨[], rfl, World.ownsRow_nil _ _ _ _⟩, Nat.zero_le _, fun _ _ => ⟨Ptr.nil _ _ _, Ptr.nil _ _ _, Ptr.nil _ _ _, Ptr.nil _ _ _, Ptr.nil _ _ _⟩⟩

theorem uri_any (h : St ae (Own B D) B D (B + 1) s w0 cs i w) (hp : Ph1 B D cs k w) {r : List UInt8} (hl : s.data.toList.drop i = 104 :: 116 :: 116 :: 112 :: 58 :: 47 :: 47 :: 97 :: 13 :: 10 :: r) :
    Calls Tryz.prog 205 #[.pointer (some ⟨B, 0, none⟩)] w (LineR ae B D s w0 212 (i + 10) fun cs w' => Ph1 B D cs (k + 1) w') := by
  obtain ⟨p8, p9, p10, p11, p12, v13, n13, rfl, hF⟩ := hp
  refine (uri_line h.low hl).mono ?_
  rintro e w' ⟨rfl, b, hs, hb⟩
  exact ⟨rfl, _, h.back hs own_low, p8, _, p10, p11, p12, v13, n13, rfl, (hF.pass hs.ch (Nat.le_add_right _ _)).put9 hs (Ptr.mk hb ⟨_, rfl⟩)⟩
theorem conn_any (h : St ae (Own B D) B D (B + 1) s w0 cs i w) (hp : Ph1 B D cs k w) {r : List UInt8} (hl : s.data.toList.drop i = 73 :: 78 :: 32 :: 73 :: 80 :: 52 :: 32 :: 97 :: 13 :: 10 :: r) (hr : lead isNl r = 0) :
    Calls Tryz.prog 208 #[.pointer (some ⟨B, 0, none⟩)] w (LineR ae B D s w0 216 (i + 10) fun cs w' => Ph1 B D cs (k + 1) w') := by
  obtain ⟨p8, p9, p10, p11, p12, v13, n13, rfl, hF⟩ := hp
  refine (conn_line h.low hl hr).mono ?_
  rintro e w' ⟨rfl, b, hs, hb, _⟩
  exact ⟨rfl, _, h.back hs own_low, p8, p9, p10, p11, _, v13, n13, rfl, (hF.pass hs.ch (Nat.le_add_right _ _)).put12 hs hb⟩
theorem band_any (h : St ae (Own B D) B D (B + 1) s w0 cs i w) (h6 : 6 < B) (hk : k ≤ 90) (hp : Ph1 B D cs k w) {r : List UInt8} (hl : s.data.toList.drop i = 65 :: 83 :: 58 :: 49 :: 13 :: 10 :: r) :
    Calls Tryz.prog 209 #[.pointer (some ⟨B, 0, none⟩)] w (LineR ae B D s w0 216 (i + 6) fun cs w' => Ph1 B D cs (k + 1) w') := by
  obtain ⟨p8, p9, p10, p11, p12, v13, n13, rfl, hF⟩ := hp
  obtain ⟨lb, hlb, ho⟩ := hF.own
  have hX : ∀ j, X1 B D v13 j → Own B D j := by
    rintro j (hj | hj)
    · exact own_low j hj
    · exact .inr (by have := (ho.lt j hj).1; omega)
  refine (band_line (h.re (S' := X1 B D v13) (.inl (.inl rfl)) (.inl (.inr rfl))) hl rfl ho (blk_lt hF.cache) (by omega) (by have := hF.le; omega) (fun k hk => .inr hk)).mono ?_
  rintro e w' ⟨rfl, g, cap, hs, ho', hlies⟩
  exact ⟨rfl, _, h.back hs hX, p8, p9, p10, p11, p12, _, n13 + 1, rfl, hF.band (x := (false, ⟨#[65, 83]⟩, 1)) hs.ch (fun _ _ _ => ho') ⟨lb, hlb, rfl⟩ (hlies g rfl) (by omega)⟩
theorem time_any1 (h : St ae (Own B D) B D (B + 1) s w0 cs i w) (_h6 : 6 < B) (hk : k ≤ 90) (hp : Ph1 B D cs k w) {r : List UInt8} (hl : s.data.toList.drop i = 48 :: 32 :: 48 :: 13 :: 10 :: r) (hr : lead isNl r = 0) :
    Calls Tryz.prog 210 #[.pointer (some ⟨B, 0, none⟩)] w (LineR ae B D s w0 217 (i + 5) fun cs w' => Ph2 B D cs (k + 1) w') := by
  obtain ⟨p8, p9, p10, p11, p12, v13, n13, rfl, hF⟩ := hp
  refine (time_line (B := B + 2) (n := 0) (v := .slice none 0 0) (xs := []) h.low hl hr rfl (World.ownsRow_nil _ _ _ _) (blk_lt hF.cache) (by omega) (by simp [Value.ownBlock]) (by simp [Value.ownBlock]) (by simp [Value.ownBlock]) (by simp [Value.ownBlock])).mono ?_
  rintro e w' ⟨rfl, g, cap, hs, ho, hg, _⟩
  have hg' : w.heap.size ≤ g := hg.resolve_left (by simp [Value.ownBlock])
  exact ⟨rfl, _, h.back hs own_low, p8, p9, p10, p11, p12, v13, _, .slice none 0 0, [], [], rfl, hF.time hs hs.ch ho hg' (by omega) (by omega)⟩

theorem F2.low {p8 p9 p10 p11 p12 : Option Addr} {v13 v14 vr : Value} {ts os : List Value} (h : F2 B D p8 p9 p10 p11 p12 v13 v14 vr ts os k w) : ∀ j, X2 B D v14 vr j → Own B D j := by
  rintro j ((hj | hj) | hj)
  · exact own_low j hj
  · exact .inr (by have := (h.own.lt j hj).1; omega)
  · exact .inr (by have := (h.ownr.lt j hj).1; omega)

theorem time_any2 (h : St ae (Own B D) B D (B + 1) s w0 cs i w) (h6 : 6 < B) (hk : k ≤ 90) (hp : Ph2 B D cs k w) {r : List UInt8} (hl : s.data.toList.drop i = 48 :: 32 :: 48 :: 13 :: 10 :: r) (hr : lead isNl r = 0) :
    Calls Tryz.prog 210 #[.pointer (some ⟨B, 0, none⟩)] w (LineR ae B D s w0 217 (i + 5) fun cs w' => Ph2 B D cs (k + 1) w') := by
  obtain ⟨p8, p9, p10, p11, p12, v13, v14, vr, ts, os, rfl, hF⟩ := hp
  have hd := hF.dl
  have hX : ∀ j, ((j = B ∨ j = D) ∨ v14.ownBlock = some j) → Own B D j := fun j hj => hF.low j (.inl hj)
  have hlt : ∀ k, v14.ownBlock = some k → B + 2 ≤ k := fun k hk => (hF.own.lt k hk).1
  refine (time_line (B := B + 2) (n := ts.length + 1) (v := v14) (h.re (S' := fun k => (k = B ∨ k = D) ∨ v14.ownBlock = some k) (.inl (.inl rfl)) (.inl (.inr rfl))) hl hr rfl hF.own (blk_lt hF.cache) (by have := hF.le; omega)
    (fun e => by have := hlt _ e.symm; omega) (fun e => by have := hlt _ e.symm; omega) (fun e => by have := hlt _ e.symm; omega) (fun k hk => .inr hk)).mono ?_
  rintro e w' ⟨rfl, g, cap, hs, ho, hg, _⟩
  exact ⟨rfl, _, h.back hs hX, p8, p9, p10, p11, p12, v13, _, .slice none 0 0, ts ++ [vr], [], rfl, hF.time hs hs.ch ho hg (by omega) (by omega)⟩

theorem rep_any (h : St ae (Own B D) B D (B + 1) s w0 cs i w) (h6 : 6 < B) (hk : k ≤ 90) (hp : Ph2 B D cs k w) {r : List UInt8} (hl : s.data.toList.drop i = 49 :: 32 :: 49 :: 32 :: 48 :: 13 :: 10 :: r) (hr : lead isNl r = 0) :
    Calls Tryz.prog 227 #[.pointer (some ⟨B, 0, none⟩)] w (LineR ae B D s w0 217 (i + 7) fun cs w' => Ph2 B D cs (k + 1) w') := by
  obtain ⟨p8, p9, p10, p11, p12, v13, v14, vr, ts, os, rfl, hF⟩ := hp
  have hot : w.ownsRow (B + 2) 193 3 v14 (ts.length + 1) (ts.flatMap timC ++ [.int .u64 0, .int .u64 0, vr]) := by
    have h1 := hF.own
    simpa [timC] using h1
  refine (rep_line (h.re (S' := X2 B D v14 vr) (.inl (.inl (.inl rfl))) (.inl (.inl (.inr rfl)))) hl hr rfl hot (by omega) (by have := hF.le; omega) (fun k hk => .inl (.inr hk)) hF.ownr (blk_lt hF.cache) (by omega) (by have := hF.ler; omega) (fun k hk => .inr hk)).mono ?_
  rintro e w' ⟨rfl, vr', vo, hs, ho, hor, hof, hlies⟩
  exact ⟨rfl, _, h.back hs hF.low, p8, p9, p10, p11, p12, v13, v14, vr', ts, os ++ [vo], rfl, hF.rep hs hs.ch ho hor ⟨[0], by decide, own0 hof⟩ hlies (by omega)⟩

theorem Ph2.close (h : St ae (Own B D) B D (B + 1) s w0 cs i w) (hk : k ≤ 90) (hp : Ph2 B D cs k w) : Ph3 B D cs k w := by
  obtain ⟨p8, p9, p10, p11, p12, v13, v14, vr, ts, os, rfl, hF⟩ := hp
  exact ⟨p8, p9, p10, p11, p12, v13, v14, _, _, _, _, rfl, hF.close h (by omega)⟩

theorem zone_any (h : St ae (Own B D) B D (B + 1) s w0 cs i w) (h6 : 6 < B) (hk : k ≤ 90) (hp : Ph2 B D cs k w) {r : List UInt8} (hl : s.data.toList.drop i = 49 :: 32 :: 49 :: 13 :: 10 :: r) (hr : lead isNl r = 0) :
    Calls Tryz.prog 224 #[.pointer (some ⟨B, 0, none⟩)] w (LineR ae B D s w0 229 (i + 5) fun cs w' => Ph3 B D cs (k + 1) w') := by
  obtain ⟨p8, p9, p10, p11, p12, v13, v14, vr, ts, os, rfl, hF2⟩ := hp
  have hF := hF2.close h (by omega)
  refine (zone_line (Bs := B + 2) (n := 0) (v := .slice none 0 0) (xs := []) h.low hl hr rfl (World.ownsRow_nil _ _ _ _) (blk_lt hF.cache) (by omega) (by omega) (by simp [Value.ownBlock])).mono ?_
  rintro e w' ⟨rfl, g, cap, hs, ho, _⟩
  exact ⟨rfl, _, h.back hs own_low, p8, p9, p10, p11, p12, v13, v14, _, none, _, _, rfl, (hF.pass hs.ch (Nat.le_add_right _ _)).put15 hs ⟨[(1, 1)], by decide, own0 ho⟩⟩
theorem key_any (h : St ae (Own B D) B D (B + 1) s w0 cs i w) (hp : Ph3 B D cs k w) {r : List UInt8} (hl : s.data.toList.drop i = 112 :: 114 :: 111 :: 109 :: 112 :: 116 :: 13 :: 10 :: r) :
    Calls Tryz.prog 225 #[.pointer (some ⟨B, 0, none⟩)] w (LineR ae B D s w0 230 (i + 8) fun cs w' => Ph3 B D cs (k + 1) w') := by
  obtain ⟨p8, p9, p10, p11, p12, v13, v14, v15, p16, va, la, rfl, hF⟩ := hp
  refine (key_line h.low hl).mono ?_
  rintro e w' ⟨rfl, b, hs, hb, _⟩
  exact ⟨rfl, _, h.back hs own_low, p8, p9, p10, p11, p12, v13, v14, v15, _, va, la, rfl, (hF.pass hs.ch (Nat.le_add_right _ _)).put16 hs (Ptr.mk hb ⟨_, rfl⟩)⟩
theorem attr_any (h : St ae (Own B D) B D (B + 1) s w0 cs i w) (h6 : 6 < B) (hk : k ≤ 90) (hp : Ph3 B D cs k w) {r : List UInt8} (hl : s.data.toList.drop i = 98 :: 13 :: 10 :: r) :
    Calls Tryz.prog 226 #[.pointer (some ⟨B, 0, none⟩)] w (LineR ae B D s w0 230 (i + 3) fun cs w' => Ph3 B D cs (k + 1) w') := by
  obtain ⟨p8, p9, p10, p11, p12, v13, v14, v15, p16, va, la, rfl, hF⟩ := hp
  have hX : ∀ j, X3 B D va j → Own B D j := by
    rintro j ((hj | hj) | hj)
    · exact own_low j hj
    · exact .inr (by omega)
    · exact .inr (by have := (hF.own.lt j hj).1; omega)
  refine (attr_line (h.re (S' := X3 B D va) (.inl (.inl (.inl rfl))) (.inl (.inl (.inr rfl)))) hl hF.cache hF.own (blk_lt hF.cache) (by omega) (by omega) (by have := hF.le; omega) (.inl (.inr rfl)) (fun k hk => .inr hk)).mono ?_
  rintro e w' ⟨rfl, hs, va', hC, ho, hlies⟩
  exact ⟨rfl, _, h.back hs hX, p8, p9, p10, p11, p12, v13, v14, v15, p16, va', _, rfl, hF.attr (x := (⟨#[98]⟩, ⟨#[]⟩)) hs.ch hC ho hlies (by omega)⟩
end
end Go.Proofs.YtimonhimfioohaaGreatDoor

namespace Go.Proofs.YtimonhimfioohaaGreatDoor
open Go.RowKit

theorem ch_drew (w : World) : Ch (fun _ => False) w w.drew := Ch.of_heap (Ch.refl _ _) rfl rfl rfl rfl
theorem ptr_last {W : World} {B n b : Nat} {v : Value} {bs : List Nat} (h : W.ownsRow B 145 1 v n ((bs ++ [b]).flatMap ptrC)) : W.ownsRow B 145 1 v n (bs.flatMap ptrC ++ [.pointer (some ⟨b, 0, none⟩)]) := by
  simpa [ptrC] using h

section
variable {ae : Addr} {B D : Nat} {s : ByteArray} {w0 : World} {cs : Array Value} {i k : Nat} {w : World}

/-- The first medium. -/
theorem med_any3 (h : St ae (Own B D) B D (B + 1) s w0 cs i w) (h6 : 6 < B) (hk : k ≤ 90) (hp : Ph3 B D cs k w) {r : List UInt8} (hl : s.data.toList.drop i = 97 :: 117 :: 100 :: 105 :: 111 :: 32 :: 49 :: 32 :: 82 :: 84 :: 80 :: 47 :: 65 :: 86 :: 80 :: 32 :: 48 :: 13 :: 10 :: r) (hr : lead isNl r = 0) :
    Calls Tryz.prog 228 #[.pointer (some ⟨B, 0, none⟩)] w (LineR ae B D s w0 233 (i + 19) fun cs w' => Ph4 B D cs (k + 1) w') := by
  obtain ⟨p8, p9, p10, p11, p12, v13, v14, v15, p16, va, la, rfl, hF⟩ := hp
  have hF1 := (hF.pass (i' := k) ((ch_drew w).mono fun _ h => h.elim) (Nat.le_refl _)).open5 h.drew (by omega)
  refine (med_line (Bo := B + 2) (n := 0) (v := .slice none 0 0) (xs := []) (Q := fun w1 => w1 = w.drew) (populate_nil _ D w.drew (blk_cell h.drew.desc rfl)) h (fun w1 e => ?_) hl hr rfl (by omega) (by omega)).mono ?_
  · subst e
    exact ⟨h.drew, World.ownsRow_nil _ _ _ _, blk_lt hF1.cache⟩
  · rintro e w' ⟨rfl, w1, g, cap, b, v3, v4, rfl, hs, ho, hlies, hb, hbl, h3, h4⟩
    refine ⟨rfl, _, h.drew.back hs ?_, p8, p9, p10, p11, p12, v13, v14, v15, p16, va, _, _, _, _, _, _, _, _, _, _, _, _, _, rfl, hF1.med hs hs.ch ho (hlies g rfl) hb hbl h3 h4 (Nat.le_refl _)⟩
    rintro j (hj | hj)
    · exact own_low j hj
    · cases hj

/-- One more medium. -/
theorem med_any4 (h : St ae (Own B D) B D (B + 1) s w0 cs i w) (h6 : 6 < B) (hk : k ≤ 90) (hp : Ph4 B D cs k w) {r : List UInt8} (hl : s.data.toList.drop i = 97 :: 117 :: 100 :: 105 :: 111 :: 32 :: 49 :: 32 :: 82 :: 84 :: 80 :: 47 :: 65 :: 86 :: 80 :: 32 :: 48 :: 13 :: 10 :: r) (hr : lead isNl r = 0) :
    Calls Tryz.prog 228 #[.pointer (some ⟨B, 0, none⟩)] w (LineR ae B D s w0 233 (i + 19) fun cs w' => Ph4 B D cs (k + 1) w') := by
  obtain ⟨p8, p9, p10, p11, p12, v13, v14, v15, p16, va, vm, v18, lm, bs, b, q2, v3, v4, q5, q6, v7, q8, lb, rfl, hF⟩ := hp
  have hF0 := hF.pass (i' := k) ((ch_drew w).mono fun _ h => h.elim) (Nat.le_refl _)
  have hd := hF.dl
  have hbl := hF.bl
  have hpop := populate_any (w := w.drew) (C := B + 1) (D := D) (Bs := B + 2) h.drew.desc (v := v18) rfl (ptr_last hF0.own18) (by have := hF.le18; omega) hF0.med rfl hF0.cache hF0.ownm (by have := hF.lem; omega)
  refine (med_line (Bo := B + 2) (n := (bs ++ [b]).length) (v := v18) (xs := (bs ++ [b]).flatMap ptrC)
    (Q := fun w1 => St ae (Own B D) B D (B + 1) s w0 (dC p8 p9 p10 p11 p12 v13 v14 v15 p16 v18) i w1 ∧ ∃ vm', F5 B D (fun W => SesRd p8 p9 p10 p11 p12 v13 v14 v15 p16 W ∧ AttrRd va W) va vm' v18 (bs ++ [b]) k w1)
    (hpop.mono fun e w1 hq => ⟨hq.1, ?_⟩) h (fun w1 hq => ?_) hl hr rfl (by omega) (by have := hF.le18; simp; omega)).mono ?_
  · obtain ⟨_, v9, vm', hb1, hC1, ho9, hm1, hm', hc⟩ := hq
    have hs1 : St ae (Own B D) B D (B + 1) s w0 (dC p8 p9 p10 p11 p12 v13 v14 v15 p16 v18) i w1 := h.drew.chX hc (fun j hj => by omega) (fun j hj => .inr (by omega))
    exact ⟨hs1, vm', hF0.shut hs1 hc hC1 hb1 hm1 hm' ⟨lm, by have := hF.lem; omega, own0 ho9⟩ (fun j hj => (ho9.lt j hj).1) (by omega)⟩
  · obtain ⟨hs1, vm', hF5⟩ := hq
    exact ⟨hs1, hF5.own18, blk_lt hF5.cache⟩
  · rintro e w' ⟨rfl, w1, g, cap, b', v3', v4', ⟨hs1, vm', hF5⟩, hs, ho, hlies, hb, hbl, h3, h4⟩
    refine ⟨rfl, _, hs1.back hs ?_, p8, p9, p10, p11, p12, v13, v14, v15, p16, va, _, _, _, _, _, _, _, _, _, _, _, _, _, rfl, hF5.med hs hs.ch ho (hlies g rfl) hb hbl h3 h4 (Nat.le_refl _)⟩
    rintro j (hj | hj)
    · exact own_low j hj
    · exact .inr (by have := (hF5.own18.lt j hj).1; omega)

theorem low4 {b : Nat} (hb : B + 2 ≤ b) : ∀ j, ((j = B ∨ j = D) ∨ j = b) → Own B D j := fun j hj => hj.elim (own_low j) fun e => .inr (by omega)

theorem title_any (h : St ae (Own B D) B D (B + 1) s w0 cs i w) (h6 : 6 < B) (hk : k ≤ 90) (hp : Ph4 B D cs k w) {r : List UInt8} (hl : s.data.toList.drop i = 121 :: 13 :: 10 :: r) :
    Calls Tryz.prog 241 #[.pointer (some ⟨B, 0, none⟩)] w (LineR ae B D s w0 245 (i + 3) fun cs w' => Ph4 B D cs (k + 1) w') := by
  obtain ⟨p8, p9, p10, p11, p12, v13, v14, v15, p16, va, vm, v18, lm, bs, b, q2, v3, v4, q5, q6, v7, q8, lb, rfl, hF⟩ := hp
  have hbl := hF.bl
  refine (title_line (h.re (S' := fun k => (k = B ∨ k = D) ∨ k = b) (.inl (.inl rfl)) (.inl (.inr rfl))) hl rfl (ptr_last hF.own18) (by have := hF.le18; omega) hF.med rfl (by omega) (.inr rfl)).mono ?_
  rintro e w' ⟨rfl, hs, p, hpp, hb⟩
  exact ⟨rfl, _, h.back hs (low4 hbl), p8, p9, p10, p11, p12, v13, v14, v15, p16, va, vm, v18, lm, bs, b, q2, v3, v4, _, q6, v7, q8, lb, rfl, hF.put hs hs.ch (Nat.le_add_right _ _) hb fun k => { k with a5 := Ptr.mk hpp ⟨_, rfl⟩ }⟩
theorem mkey_any (h : St ae (Own B D) B D (B + 1) s w0 cs i w) (h6 : 6 < B) (hk : k ≤ 90) (hp : Ph4 B D cs k w) {r : List UInt8} (hl : s.data.toList.drop i = 112 :: 114 :: 111 :: 109 :: 112 :: 116 :: 13 :: 10 :: r) :
    Calls Tryz.prog 238 #[.pointer (some ⟨B, 0, none⟩)] w (LineR ae B D s w0 243 (i + 8) fun cs w' => Ph4 B D cs (k + 1) w') := by
  obtain ⟨p8, p9, p10, p11, p12, v13, v14, v15, p16, va, vm, v18, lm, bs, b, q2, v3, v4, q5, q6, v7, q8, lb, rfl, hF⟩ := hp
  have hbl := hF.bl
  refine (mkey_line (h.re (S' := fun k => (k = B ∨ k = D) ∨ k = b) (.inl (.inl rfl)) (.inl (.inr rfl))) hl rfl (ptr_last hF.own18) (by have := hF.le18; omega) hF.med rfl (by omega) (.inr rfl)).mono ?_
  rintro e w' ⟨rfl, hs, p, hpp, hb⟩
  exact ⟨rfl, _, h.back hs (low4 hbl), p8, p9, p10, p11, p12, v13, v14, v15, p16, va, vm, v18, lm, bs, b, q2, v3, v4, q5, q6, v7, _, lb, rfl, hF.put hs hs.ch (Nat.le_add_right _ _) hb fun k => { k with a8 := Ptr.mk hpp ⟨_, rfl⟩ }⟩
theorem mconn_any (h : St ae (Own B D) B D (B + 1) s w0 cs i w) (h6 : 6 < B) (hk : k ≤ 90) (hp : Ph4 B D cs k w) {r : List UInt8} (hl : s.data.toList.drop i = 73 :: 78 :: 32 :: 73 :: 80 :: 52 :: 32 :: 97 :: 13 :: 10 :: r) (hr : lead isNl r = 0) :
    Calls Tryz.prog 240 #[.pointer (some ⟨B, 0, none⟩)] w (LineR ae B D s w0 244 (i + 10) fun cs w' => Ph4 B D cs (k + 1) w') := by
  obtain ⟨p8, p9, p10, p11, p12, v13, v14, v15, p16, va, vm, v18, lm, bs, b, q2, v3, v4, q5, q6, v7, q8, lb, rfl, hF⟩ := hp
  have hbl := hF.bl
  refine (mconn_line (h.re (S' := fun k => (k = B ∨ k = D) ∨ k = b) (.inl (.inl rfl)) (.inl (.inr rfl))) hl hr rfl (ptr_last hF.own18) (by have := hF.le18; omega) hF.med rfl (by omega) (.inr rfl)).mono ?_
  rintro e w' ⟨rfl, hs, p, hpp, hb⟩
  exact ⟨rfl, _, h.back hs (low4 hbl), p8, p9, p10, p11, p12, v13, v14, v15, p16, va, vm, v18, lm, bs, b, q2, v3, v4, q5, _, v7, q8, lb, rfl, hF.put hs hs.ch (Nat.le_add_right _ _) hb fun k => { k with a6 := hpp }⟩
theorem mband_any (h : St ae (Own B D) B D (B + 1) s w0 cs i w) (h6 : 6 < B) (hk : k ≤ 90) (hp : Ph4 B D cs k w) {r : List UInt8} (hl : s.data.toList.drop i = 65 :: 83 :: 58 :: 49 :: 13 :: 10 :: r) :
    Calls Tryz.prog 239 #[.pointer (some ⟨B, 0, none⟩)] w (LineR ae B D s w0 244 (i + 6) fun cs w' => Ph4 B D cs (k + 1) w') := by
  obtain ⟨p8, p9, p10, p11, p12, v13, v14, v15, p16, va, vm, v18, lm, bs, b, q2, v3, v4, q5, q6, v7, q8, lb, rfl, hF⟩ := hp
  have hbl := hF.bl
  refine (mband_line (h.re (S' := fun k => ((k = B ∨ k = D) ∨ k = b) ∨ v7.ownBlock = some k) (.inl (.inl (.inl rfl))) (.inl (.inl (.inr rfl)))) hl rfl (ptr_last hF.own18) (by have := hF.le18; omega) hF.med (by omega) (.inl (.inr rfl)) (v := v7) rfl hF.own7 (blk_lt hF.cache) (by omega) (by have := hF.le7; omega) (fun k hk => .inr hk)).mono ?_
  rintro e w' ⟨rfl, hs, g, cap, hb, ho, hlies⟩
  refine ⟨rfl, _, h.back hs ?_, p8, p9, p10, p11, p12, v13, v14, v15, p16, va, vm, v18, lm, bs, b, q2, v3, v4, q5, q6, _, q8, _, rfl, hF.band (x := (false, ⟨#[65, 83]⟩, 1)) hs.ch ho hlies hb (Nat.le_refl _)⟩
  rintro j (hj | hj)
  · exact low4 hbl j hj
  · exact .inr (by have := (hF.own7.lt j hj).1; omega)
theorem mattr_any (h : St ae (Own B D) B D (B + 1) s w0 cs i w) (h6 : 6 < B) (hk : k ≤ 90) (hp : Ph4 B D cs k w) {r : List UInt8} (hl : s.data.toList.drop i = 98 :: 13 :: 10 :: r) :
    Calls Tryz.prog 237 #[.pointer (some ⟨B, 0, none⟩)] w (LineR ae B D s w0 243 (i + 3) fun cs w' => Ph4 B D cs (k + 1) w') := by
  obtain ⟨p8, p9, p10, p11, p12, v13, v14, v15, p16, va, vm, v18, lm, bs, b, q2, v3, v4, q5, q6, v7, q8, lb, rfl, hF⟩ := hp
  refine (mattr_line (h.re (S' := fun k => ((k = B ∨ k = D) ∨ k = B + 1) ∨ vm.ownBlock = some k) (.inl (.inl (.inl rfl))) (.inl (.inl (.inr rfl)))) hl hF.cache hF.ownm (blk_lt hF.cache) (by omega) (by omega) (by have := hF.lem; omega) (.inl (.inr rfl)) (fun k hk => .inr hk)).mono ?_
  rintro e w' ⟨rfl, hs, vm', hC, ho, hlies⟩
  refine ⟨rfl, _, h.back hs ?_, p8, p9, p10, p11, p12, v13, v14, v15, p16, va, vm', v18, _, bs, b, q2, v3, v4, q5, q6, v7, q8, lb, rfl, hF.attr (x := (⟨#[98]⟩, ⟨#[]⟩)) hs.ch hC ho hlies (Nat.le_refl _)⟩
  rintro j ((hj | hj) | hj)
  · exact own_low j hj
  · exact .inr (by omega)
  · exact .inr (by have := (hF.ownm.lt j hj).1; omega)
end
end Go.Proofs.YtimonhimfioohaaGreatDoor

namespace Go.Proofs.YtimonhimfioohaaGreatDoor
open Go.RowKit

/-- The line behind a letter, as the statement has it; none for an unknown letter. -/
def lineOf (c : UInt8) : List UInt8 := if c == 118 then [48] else if c == 111 then [45, 32, 49, 32, 49, 32, 73, 78, 32, 73, 80, 52, 32, 97] else if c == 115 then [120] else if c == 105 then [121] else if c == 117 then [104, 116, 116, 112, 58, 47, 47, 97] else if c == 101 then [97] else if c == 112 then [49] else if c == 99 then [73, 78, 32, 73, 80, 52, 32, 97] else if c == 98 then [65, 83, 58, 49] else if c == 116 then [48, 32, 48] else if c == 114 then [49, 32, 49, 32, 48] else if c == 122 then [49, 32, 49] else if c == 107 then [112, 114, 111, 109, 112, 116] else if c == 97 then [98] else if c == 109 then [97, 117, 100, 105, 111, 32, 49, 32, 82, 84, 80, 47, 65, 86, 80, 32, 48] else []
def textOf : List UInt8 → List UInt8
  | [] => []
  | c :: l => c :: 61 :: (lineOf c ++ 13 :: 10 :: textOf l)
def knownL (c : UInt8) : Prop := lineOf c ≠ []

theorem known_all : ∀ c : Fin 256, (lineOf (UInt8.ofNat c.val)).isEmpty = true ∨ (isNl (UInt8.ofNat c.val) = false ∧ (lineOf (UInt8.ofNat c.val)).length ≤ 17) := by decide +kernel
theorem known_at {c : UInt8} (h : knownL c) : isNl c = false ∧ (lineOf c).length ≤ 17 := by
  have h1 := known_all ⟨c.toNat, c.toNat_lt⟩
  simp only [UInt8.ofNat_toNat] at h1
  exact h1.resolve_left fun e => h (List.isEmpty_iff.1 e)
theorem lead_text : ∀ (l : List UInt8), (∀ c ∈ l, knownL c) → lead isNl (textOf l) = 0
  | [], _ => rfl
  | c :: l, h => by
    have h1 := (known_at (h c List.mem_cons_self)).1
    simp [textOf, lead, h1]
theorem text_len : ∀ (l : List UInt8), (∀ c ∈ l, knownL c) → (textOf l).length ≤ 21 * l.length
  | [], _ => Nat.le_refl _
  | c :: l, h => by
    have h1 := (known_at (h c List.mem_cons_self)).2
    have h2 := text_len l fun c' hc => h c' (List.mem_cons_of_mem _ hc)
    simp [textOf]
    omega

section
variable {ae : Addr} {B D : Nat} {s : ByteArray} {w0 : World} {cs : Array Value} {i k : Nat} {w : World}
theorem hand1 {q' : Nat} {c : UInt8} (hq : nextP 1 c = some q') (h : St ae (Own B D) B D (B + 1) s w0 cs i w) (hp : PhQ B D 1 cs k w) {r : List UInt8} (hl : s.data.toList.drop i = lineOf c ++ 13 :: 10 :: r) (hr : lead isNl r = 0) :
    Calls Tryz.prog (hdN 1 c) #[.pointer (some ⟨B, 0, none⟩)] w (LineR ae B D s w0 (stN q') (i + ((lineOf c).length + 2)) fun cs w' => PhQ B D q' cs (k + 1) w') := by
  by_cases g0 : c = 118
  · subst g0
    obtain rfl := Option.some.inj hq
    exact v_any h hp hl hr
  exfalso
  simp [nextP, g0] at hq
theorem hand2 {q' : Nat} {c : UInt8} (hq : nextP 2 c = some q') (h : St ae (Own B D) B D (B + 1) s w0 cs i w) (hp : PhQ B D 2 cs k w) {r : List UInt8} (hl : s.data.toList.drop i = lineOf c ++ 13 :: 10 :: r) (hr : lead isNl r = 0) :
    Calls Tryz.prog (hdN 2 c) #[.pointer (some ⟨B, 0, none⟩)] w (LineR ae B D s w0 (stN q') (i + ((lineOf c).length + 2)) fun cs w' => PhQ B D q' cs (k + 1) w') := by
  by_cases g0 : c = 111
  · subst g0
    obtain rfl := Option.some.inj hq
    exact o_any h hp hl hr
  exfalso
  simp [nextP, g0] at hq
theorem hand3 {q' : Nat} {c : UInt8} (hq : nextP 3 c = some q') (h : St ae (Own B D) B D (B + 1) s w0 cs i w) (hp : PhQ B D 3 cs k w) {r : List UInt8} (hl : s.data.toList.drop i = lineOf c ++ 13 :: 10 :: r) :
    Calls Tryz.prog (hdN 3 c) #[.pointer (some ⟨B, 0, none⟩)] w (LineR ae B D s w0 (stN q') (i + ((lineOf c).length + 2)) fun cs w' => PhQ B D q' cs (k + 1) w') := by
  by_cases g0 : c = 115
  · subst g0
    obtain rfl := Option.some.inj hq
    exact s_any h hp hl
  exfalso
  simp [nextP, g0] at hq
theorem hand4 {q' : Nat} {c : UInt8} (hq : nextP 4 c = some q') (h : St ae (Own B D) B D (B + 1) s w0 cs i w) (h6 : 6 < B) (hk : k ≤ 90) (hp : PhQ B D 4 cs k w) {r : List UInt8} (hl : s.data.toList.drop i = lineOf c ++ 13 :: 10 :: r) (hr : lead isNl r = 0) :
    Calls Tryz.prog (hdN 4 c) #[.pointer (some ⟨B, 0, none⟩)] w (LineR ae B D s w0 (stN q') (i + ((lineOf c).length + 2)) fun cs w' => PhQ B D q' cs (k + 1) w') := by
  by_cases g0 : c = 105
  · subst g0
    obtain rfl := Option.some.inj hq
    exact info_any h hp hl
  by_cases g1 : c = 117
  · subst g1
    obtain rfl := Option.some.inj hq
    exact uri_any h hp hl
  by_cases g2 : c = 101
  · subst g2
    obtain rfl := Option.some.inj hq
    exact email_any h hp hl
  by_cases g3 : c = 112
  · subst g3
    obtain rfl := Option.some.inj hq
    exact phone_any h hp hl
  by_cases g4 : c = 99
  · subst g4
    obtain rfl := Option.some.inj hq
    exact conn_any h hp hl hr
  by_cases g5 : c = 98
  · subst g5
    obtain rfl := Option.some.inj hq
    exact band_any h h6 hk hp hl
  by_cases g6 : c = 116
  · subst g6
    obtain rfl := Option.some.inj hq
    exact time_any1 h h6 hk hp hl hr
  exfalso
  simp [nextP, g0, g1, g2, g3, g4, g5, g6] at hq
theorem hand5 {q' : Nat} {c : UInt8} (hq : nextP 5 c = some q') (h : St ae (Own B D) B D (B + 1) s w0 cs i w) (h6 : 6 < B) (hk : k ≤ 90) (hp : PhQ B D 5 cs k w) {r : List UInt8} (hl : s.data.toList.drop i = lineOf c ++ 13 :: 10 :: r) (hr : lead isNl r = 0) :
    Calls Tryz.prog (hdN 5 c) #[.pointer (some ⟨B, 0, none⟩)] w (LineR ae B D s w0 (stN q') (i + ((lineOf c).length + 2)) fun cs w' => PhQ B D q' cs (k + 1) w') := by
  by_cases g0 : c = 98
  · subst g0
    obtain rfl := Option.some.inj hq
    exact band_any h h6 hk hp hl
  by_cases g1 : c = 116
  · subst g1
    obtain rfl := Option.some.inj hq
    exact time_any1 h h6 hk hp hl hr
  exfalso
  simp [nextP, g0, g1] at hq
theorem hand6 {q' : Nat} {c : UInt8} (hq : nextP 6 c = some q') (h : St ae (Own B D) B D (B + 1) s w0 cs i w) (h6 : 6 < B) (hk : k ≤ 90) (hp : PhQ B D 6 cs k w) {r : List UInt8} (hl : s.data.toList.drop i = lineOf c ++ 13 :: 10 :: r) (hr : lead isNl r = 0) :
    Calls Tryz.prog (hdN 6 c) #[.pointer (some ⟨B, 0, none⟩)] w (LineR ae B D s w0 (stN q') (i + ((lineOf c).length + 2)) fun cs w' => PhQ B D q' cs (k + 1) w') := by
  by_cases g0 : c = 112
  · subst g0
    obtain rfl := Option.some.inj hq
    exact phone_any h hp hl
  by_cases g1 : c = 99
  · subst g1
    obtain rfl := Option.some.inj hq
    exact conn_any h hp hl hr
  by_cases g2 : c = 98
  · subst g2
    obtain rfl := Option.some.inj hq
    exact band_any h h6 hk hp hl
  by_cases g3 : c = 116
  · subst g3
    obtain rfl := Option.some.inj hq
    exact time_any1 h h6 hk hp hl hr
  exfalso
  simp [nextP, g0, g1, g2, g3] at hq
theorem hand7 {q' : Nat} {c : UInt8} (hq : nextP 7 c = some q') (h : St ae (Own B D) B D (B + 1) s w0 cs i w) (h6 : 6 < B) (hk : k ≤ 90) (hp : PhQ B D 7 cs k w) {r : List UInt8} (hl : s.data.toList.drop i = lineOf c ++ 13 :: 10 :: r) (hr : lead isNl r = 0) :
    Calls Tryz.prog (hdN 7 c) #[.pointer (some ⟨B, 0, none⟩)] w (LineR ae B D s w0 (stN q') (i + ((lineOf c).length + 2)) fun cs w' => PhQ B D q' cs (k + 1) w') := by
  by_cases g0 : c = 117
  · subst g0
    obtain rfl := Option.some.inj hq
    exact uri_any h hp hl
  by_cases g1 : c = 101
  · subst g1
    obtain rfl := Option.some.inj hq
    exact email_any h hp hl
  by_cases g2 : c = 112
  · subst g2
    obtain rfl := Option.some.inj hq
    exact phone_any h hp hl
  by_cases g3 : c = 99
  · subst g3
    obtain rfl := Option.some.inj hq
    exact conn_any h hp hl hr
  by_cases g4 : c = 98
  · subst g4
    obtain rfl := Option.some.inj hq
    exact band_any h h6 hk hp hl
  by_cases g5 : c = 116
  · subst g5
    obtain rfl := Option.some.inj hq
    exact time_any1 h h6 hk hp hl hr
  exfalso
  simp [nextP, g0, g1, g2, g3, g4, g5] at hq
theorem hand8 {q' : Nat} {c : UInt8} (hq : nextP 8 c = some q') (h : St ae (Own B D) B D (B + 1) s w0 cs i w) (h6 : 6 < B) (hk : k ≤ 90) (hp : PhQ B D 8 cs k w) {r : List UInt8} (hl : s.data.toList.drop i = lineOf c ++ 13 :: 10 :: r) (hr : lead isNl r = 0) :
    Calls Tryz.prog (hdN 8 c) #[.pointer (some ⟨B, 0, none⟩)] w (LineR ae B D s w0 (stN q') (i + ((lineOf c).length + 2)) fun cs w' => PhQ B D q' cs (k + 1) w') := by
  by_cases g0 : c = 99
  · subst g0
    obtain rfl := Option.some.inj hq
    exact conn_any h hp hl hr
  by_cases g1 : c = 98
  · subst g1
    obtain rfl := Option.some.inj hq
    exact band_any h h6 hk hp hl
  by_cases g2 : c = 116
  · subst g2
    obtain rfl := Option.some.inj hq
    exact time_any1 h h6 hk hp hl hr
  exfalso
  simp [nextP, g0, g1, g2] at hq
theorem hand9 {q' : Nat} {c : UInt8} (hq : nextP 9 c = some q') (h : St ae (Own B D) B D (B + 1) s w0 cs i w) (h6 : 6 < B) (hk : k ≤ 90) (hp : PhQ B D 9 cs k w) {r : List UInt8} (hl : s.data.toList.drop i = lineOf c ++ 13 :: 10 :: r) (hr : lead isNl r = 0) :
    Calls Tryz.prog (hdN 9 c) #[.pointer (some ⟨B, 0, none⟩)] w (LineR ae B D s w0 (stN q') (i + ((lineOf c).length + 2)) fun cs w' => PhQ B D q' cs (k + 1) w') := by
  by_cases g0 : c = 122
  · subst g0
    obtain rfl := Option.some.inj hq
    exact zone_any h h6 hk hp hl hr
  by_cases g1 : c = 107
  · subst g1
    obtain rfl := Option.some.inj hq
    exact key_any h (Ph2.close h hk hp) hl
  by_cases g2 : c = 97
  · subst g2
    obtain rfl := Option.some.inj hq
    exact attr_any h h6 hk (Ph2.close h hk hp) hl
  by_cases g3 : c = 114
  · subst g3
    obtain rfl := Option.some.inj hq
    exact rep_any h h6 hk hp hl hr
  by_cases g4 : c = 116
  · subst g4
    obtain rfl := Option.some.inj hq
    exact time_any2 h h6 hk hp hl hr
  by_cases g5 : c = 109
  · subst g5
    obtain rfl := Option.some.inj hq
    exact med_any3 h h6 hk (Ph2.close h hk hp) hl hr
  exfalso
  simp [nextP, g0, g1, g2, g3, g4, g5] at hq
theorem hand10 {q' : Nat} {c : UInt8} (hq : nextP 10 c = some q') (h : St ae (Own B D) B D (B + 1) s w0 cs i w) (h6 : 6 < B) (hk : k ≤ 90) (hp : PhQ B D 10 cs k w) {r : List UInt8} (hl : s.data.toList.drop i = lineOf c ++ 13 :: 10 :: r) (hr : lead isNl r = 0) :
    Calls Tryz.prog (hdN 10 c) #[.pointer (some ⟨B, 0, none⟩)] w (LineR ae B D s w0 (stN q') (i + ((lineOf c).length + 2)) fun cs w' => PhQ B D q' cs (k + 1) w') := by
  by_cases g0 : c = 101
  · subst g0
    obtain rfl := Option.some.inj hq
    exact email_any h hp hl
  by_cases g1 : c = 112
  · subst g1
    obtain rfl := Option.some.inj hq
    exact phone_any h hp hl
  by_cases g2 : c = 99
  · subst g2
    obtain rfl := Option.some.inj hq
    exact conn_any h hp hl hr
  by_cases g3 : c = 98
  · subst g3
    obtain rfl := Option.some.inj hq
    exact band_any h h6 hk hp hl
  by_cases g4 : c = 116
  · subst g4
    obtain rfl := Option.some.inj hq
    exact time_any1 h h6 hk hp hl hr
  exfalso
  simp [nextP, g0, g1, g2, g3, g4] at hq
theorem hand11 {q' : Nat} {c : UInt8} (hq : nextP 11 c = some q') (h : St ae (Own B D) B D (B + 1) s w0 cs i w) (h6 : 6 < B) (hk : k ≤ 90) (hp : PhQ B D 11 cs k w) {r : List UInt8} (hl : s.data.toList.drop i = lineOf c ++ 13 :: 10 :: r) (hr : lead isNl r = 0) :
    Calls Tryz.prog (hdN 11 c) #[.pointer (some ⟨B, 0, none⟩)] w (LineR ae B D s w0 (stN q') (i + ((lineOf c).length + 2)) fun cs w' => PhQ B D q' cs (k + 1) w') := by
  by_cases g0 : c = 97
  · subst g0
    obtain rfl := Option.some.inj hq
    exact attr_any h h6 hk hp hl
  by_cases g1 : c = 109
  · subst g1
    obtain rfl := Option.some.inj hq
    exact med_any3 h h6 hk hp hl hr
  exfalso
  simp [nextP, g0, g1] at hq
theorem hand12 {q' : Nat} {c : UInt8} (hq : nextP 12 c = some q') (h : St ae (Own B D) B D (B + 1) s w0 cs i w) (h6 : 6 < B) (hk : k ≤ 90) (hp : PhQ B D 12 cs k w) {r : List UInt8} (hl : s.data.toList.drop i = lineOf c ++ 13 :: 10 :: r) (hr : lead isNl r = 0) :
    Calls Tryz.prog (hdN 12 c) #[.pointer (some ⟨B, 0, none⟩)] w (LineR ae B D s w0 (stN q') (i + ((lineOf c).length + 2)) fun cs w' => PhQ B D q' cs (k + 1) w') := by
  by_cases g0 : c = 97
  · subst g0
    obtain rfl := Option.some.inj hq
    exact mattr_any h h6 hk hp hl
  by_cases g1 : c = 107
  · subst g1
    obtain rfl := Option.some.inj hq
    exact mkey_any h h6 hk hp hl
  by_cases g2 : c = 98
  · subst g2
    obtain rfl := Option.some.inj hq
    exact mband_any h h6 hk hp hl
  by_cases g3 : c = 99
  · subst g3
    obtain rfl := Option.some.inj hq
    exact mconn_any h h6 hk hp hl hr
  by_cases g4 : c = 105
  · subst g4
    obtain rfl := Option.some.inj hq
    exact title_any h h6 hk hp hl
  by_cases g5 : c = 109
  · subst g5
    obtain rfl := Option.some.inj hq
    exact med_any4 h h6 hk hp hl hr
  exfalso
  simp [nextP, g0, g1, g2, g3, g4, g5] at hq
theorem hand13 {q' : Nat} {c : UInt8} (hq : nextP 13 c = some q') (h : St ae (Own B D) B D (B + 1) s w0 cs i w) (h6 : 6 < B) (hk : k ≤ 90) (hp : PhQ B D 13 cs k w) {r : List UInt8} (hl : s.data.toList.drop i = lineOf c ++ 13 :: 10 :: r) (hr : lead isNl r = 0) :
    Calls Tryz.prog (hdN 13 c) #[.pointer (some ⟨B, 0, none⟩)] w (LineR ae B D s w0 (stN q') (i + ((lineOf c).length + 2)) fun cs w' => PhQ B D q' cs (k + 1) w') := by
  by_cases g0 : c = 97
  · subst g0
    obtain rfl := Option.some.inj hq
    exact attr_any h h6 hk hp hl
  by_cases g1 : c = 107
  · subst g1
    obtain rfl := Option.some.inj hq
    exact key_any h hp hl
  by_cases g2 : c = 109
  · subst g2
    obtain rfl := Option.some.inj hq
    exact med_any3 h h6 hk hp hl hr
  exfalso
  simp [nextP, g0, g1, g2] at hq
theorem hand14 {q' : Nat} {c : UInt8} (hq : nextP 14 c = some q') (h : St ae (Own B D) B D (B + 1) s w0 cs i w) (h6 : 6 < B) (hk : k ≤ 90) (hp : PhQ B D 14 cs k w) {r : List UInt8} (hl : s.data.toList.drop i = lineOf c ++ 13 :: 10 :: r) (hr : lead isNl r = 0) :
    Calls Tryz.prog (hdN 14 c) #[.pointer (some ⟨B, 0, none⟩)] w (LineR ae B D s w0 (stN q') (i + ((lineOf c).length + 2)) fun cs w' => PhQ B D q' cs (k + 1) w') := by
  by_cases g0 : c = 97
  · subst g0
    obtain rfl := Option.some.inj hq
    exact mattr_any h h6 hk hp hl
  by_cases g1 : c = 107
  · subst g1
    obtain rfl := Option.some.inj hq
    exact mkey_any h h6 hk hp hl
  by_cases g2 : c = 98
  · subst g2
    obtain rfl := Option.some.inj hq
    exact mband_any h h6 hk hp hl
  by_cases g3 : c = 99
  · subst g3
    obtain rfl := Option.some.inj hq
    exact mconn_any h h6 hk hp hl hr
  by_cases g4 : c = 105
  · subst g4
    obtain rfl := Option.some.inj hq
    exact title_any h h6 hk hp hl
  by_cases g5 : c = 109
  · subst g5
    obtain rfl := Option.some.inj hq
    exact med_any4 h h6 hk hp hl hr
  exfalso
  simp [nextP, g0, g1, g2, g3, g4, g5] at hq
theorem hand15 {q' : Nat} {c : UInt8} (hq : nextP 15 c = some q') (h : St ae (Own B D) B D (B + 1) s w0 cs i w) (h6 : 6 < B) (hk : k ≤ 90) (hp : PhQ B D 15 cs k w) {r : List UInt8} (hl : s.data.toList.drop i = lineOf c ++ 13 :: 10 :: r) (hr : lead isNl r = 0) :
    Calls Tryz.prog (hdN 15 c) #[.pointer (some ⟨B, 0, none⟩)] w (LineR ae B D s w0 (stN q') (i + ((lineOf c).length + 2)) fun cs w' => PhQ B D q' cs (k + 1) w') := by
  by_cases g0 : c = 97
  · subst g0
    obtain rfl := Option.some.inj hq
    exact mattr_any h h6 hk hp hl
  by_cases g1 : c = 107
  · subst g1
    obtain rfl := Option.some.inj hq
    exact mkey_any h h6 hk hp hl
  by_cases g2 : c = 98
  · subst g2
    obtain rfl := Option.some.inj hq
    exact mband_any h h6 hk hp hl
  by_cases g3 : c = 99
  · subst g3
    obtain rfl := Option.some.inj hq
    exact mconn_any h h6 hk hp hl hr
  by_cases g4 : c = 105
  · subst g4
    obtain rfl := Option.some.inj hq
    exact title_any h h6 hk hp hl
  by_cases g5 : c = 109
  · subst g5
    obtain rfl := Option.some.inj hq
    exact med_any4 h h6 hk hp hl hr
  exfalso
  simp [nextP, g0, g1, g2, g3, g4, g5] at hq
theorem hand16 {q' : Nat} {c : UInt8} (hq : nextP 16 c = some q') (h : St ae (Own B D) B D (B + 1) s w0 cs i w) (h6 : 6 < B) (hk : k ≤ 90) (hp : PhQ B D 16 cs k w) {r : List UInt8} (hl : s.data.toList.drop i = lineOf c ++ 13 :: 10 :: r) (hr : lead isNl r = 0) :
    Calls Tryz.prog (hdN 16 c) #[.pointer (some ⟨B, 0, none⟩)] w (LineR ae B D s w0 (stN q') (i + ((lineOf c).length + 2)) fun cs w' => PhQ B D q' cs (k + 1) w') := by
  by_cases g0 : c = 97
  · subst g0
    obtain rfl := Option.some.inj hq
    exact mattr_any h h6 hk hp hl
  by_cases g1 : c = 107
  · subst g1
    obtain rfl := Option.some.inj hq
    exact mkey_any h h6 hk hp hl
  by_cases g2 : c = 99
  · subst g2
    obtain rfl := Option.some.inj hq
    exact mconn_any h h6 hk hp hl hr
  by_cases g3 : c = 98
  · subst g3
    obtain rfl := Option.some.inj hq
    exact mband_any h h6 hk hp hl
  by_cases g4 : c = 105
  · subst g4
    obtain rfl := Option.some.inj hq
    exact title_any h h6 hk hp hl
  by_cases g5 : c = 109
  · subst g5
    obtain rfl := Option.some.inj hq
    exact med_any4 h h6 hk hp hl hr
  exfalso
  simp [nextP, g0, g1, g2, g3, g4, g5] at hq

theorem hand_all {q q' : Nat} {c : UInt8} (hq : nextP q c = some q') (h1 : 1 ≤ q) (h2 : q ≤ 16) (h : St ae (Own B D) B D (B + 1) s w0 cs i w) (h6 : 6 < B) (hk : k ≤ 90) (hp : PhQ B D q cs k w) {r : List UInt8} (hl : s.data.toList.drop i = lineOf c ++ 13 :: 10 :: r) (hr : lead isNl r = 0) :
    Calls Tryz.prog (hdN q c) #[.pointer (some ⟨B, 0, none⟩)] w (LineR ae B D s w0 (stN q') (i + ((lineOf c).length + 2)) fun cs w' => PhQ B D q' cs (k + 1) w') :=
  match q, h1, h2 with
  | 1, _, _ => hand1 hq h hp hl hr
  | 2, _, _ => hand2 hq h hp hl hr
  | 3, _, _ => hand3 hq h hp hl
  | 4, _, _ => hand4 hq h h6 hk hp hl hr
  | 5, _, _ => hand5 hq h h6 hk hp hl hr
  | 6, _, _ => hand6 hq h h6 hk hp hl hr
  | 7, _, _ => hand7 hq h h6 hk hp hl hr
  | 8, _, _ => hand8 hq h h6 hk hp hl hr
  | 9, _, _ => hand9 hq h h6 hk hp hl hr
  | 10, _, _ => hand10 hq h h6 hk hp hl hr
  | 11, _, _ => hand11 hq h h6 hk hp hl hr
  | 12, _, _ => hand12 hq h h6 hk hp hl hr
  | 13, _, _ => hand13 hq h h6 hk hp hl hr
  | 14, _, _ => hand14 hq h h6 hk hp hl hr
  | 15, _, _ => hand15 hq h h6 hk hp hl hr
  | 16, _, _ => hand16 hq h h6 hk hp hl hr
  | n + 17, _, h2 => absurd h2 (by omega)

theorem next_range : ∀ (q : Nat), 1 ≤ q → q ≤ 16 → ∀ (c : UInt8) (q' : Nat), nextP q c = some q' → 1 ≤ q' ∧ q' ≤ 16 := by
  have h : ∀ q, q < 17 → ∀ c : Fin 256, (match nextP q (UInt8.ofNat c.val) with | none => true | some q' => decide (1 ≤ q') && decide (q' ≤ 16)) = true := by decide +kernel
  intro q _ h2 c q' hq
  have h1 := h q (by omega) ⟨c.toNat, c.toNat_lt⟩
  simp only [UInt8.ofNat_toNat, hq, Bool.and_eq_true, decide_eq_true_eq] at h1
  exact h1

/-- Where the parse stands. -/
inductive LI (ae : Addr) (B D : Nat) (s : ByteArray) (w0 : World) (l : List UInt8) : Nat → Value → World → Prop
  | at_ {q k i : Nat} {rest : List UInt8} {cs : Array Value} {W : World} (h1 : 1 ≤ q) (h2 : q ≤ 16) (hs : St ae (Own B D) B D (B + 1) s w0 cs i W) (hp : PhQ B D q cs k W) (hk : k + rest.length ≤ 60) (hl : s.data.toList.drop i = textOf rest)
      (hn : ∀ c ∈ rest, knownL c) (hr : runP q rest = runP 1 l) : LI ae B D s w0 l (2 * rest.length + 1) (.func (.func (stN q)) #[] #[]) W
  | line {q q' k i : Nat} {c : UInt8} {rest : List UInt8} {cs : Array Value} {W : World} (h1 : 1 ≤ q) (h2 : q ≤ 16) (hq : nextP q c = some q') (hcall : ∀ (args : Array Value) (W : World), (callFunc (hdN q c) args).run Tryz.prog W = .ok (.enter (hdN q c) args) W)
      (hs : St ae (Own B D) B D (B + 1) s w0 cs i W) (hp : PhQ B D q cs k W) (hk : k + rest.length + 1 ≤ 60) (hl : s.data.toList.drop i = lineOf c ++ 13 :: 10 :: textOf rest)
      (hn : ∀ c ∈ rest, knownL c) (hr : runP q' rest = runP 1 l) : LI ae B D s w0 l (2 * rest.length + 2) (.func (.func (hdN q c)) #[] #[]) W
  | done {q k i : Nat} {cs : Array Value} {W : World} (hs : St ae (Own B D) B D (B + 1) s w0 cs i W) (hp : PhQ B D q cs k W) (hk : k ≤ 60) (hr : runP 1 l = some q) : LI ae B D s w0 l 0 .nilFunc W

theorem langStages {l : List UInt8} (h6 : 6 < B) : Stages (LI ae B D s w0 l) B (fun W => runP 1 l = none ∧ Ch (Own B D) w0 W) := by
  refine ⟨fun n v W h => ?_⟩
  cases h with
  | done => exact .inl rfl
  | @at_ q k i rest cs _ h1 h2 hs hp hk hl hn hr =>
    refine .inr ⟨stN q, rfl, stN_calls h1 h2, ?_⟩
    cases rest with
    | nil =>
      have hi : i = s.size := by
        have h3 := congrArg List.length hl
        have h4 := hs.le
        simp [textOf] at h3
        omega
      refine (end_all h1 h2 hs.low hi).mono ?_
      rintro e w' ⟨rfl, hs'⟩
      exact .inl ⟨_, 0, rfl, by simp, .done (hs.back hs' own_low) (hp.pass hs'.ch (Nat.le_refl _)) (by simpa using hk) hr.symm⟩
    | cons c rest =>
      refine (stage_all h1 h2 hs.low hl (known_at (hn c List.mem_cons_self)).1).mono ?_
      rintro e w' ⟨hs', hres⟩
      rcases hres with ⟨q', hq, hcall, rfl⟩ | ⟨hq, v, rfl⟩
      · refine .inl ⟨_, 2 * rest.length + 2, rfl, by simp; omega, .line h1 h2 hq hcall (hs.back hs' own_low) (hp.pass hs'.ch (Nat.le_refl _)) (by simp at hk; omega) (step_drop hl rfl) (fun c' hc => hn c' (List.mem_cons_of_mem _ hc)) ?_⟩
        rw [← hr]
        simp only [runP, hq]
      · refine .inr ⟨_, _, rfl, ?_, (hs.back hs' own_low).ch⟩
        rw [← hr]
        simp only [runP, hq]
  | @line q q' k i c rest cs _ h1 h2 hq hcall hs hp hk hl hn hr =>
    refine .inr ⟨hdN q c, rfl, hcall, (hand_all hq h1 h2 hs h6 (by omega) hp hl (lead_text rest hn)).mono ?_⟩
    rintro e w' ⟨rfl, cs', hs', hp'⟩
    obtain ⟨h3, h4⟩ := next_range q h1 h2 c q' hq
    exact .inl ⟨_, 2 * rest.length + 1, rfl, by omega, .at_ h3 h4 hs' hp' (by omega) (step_drop hl (by simp [List.drop_append])) hn hr⟩
end
end Go.Proofs.YtimonhimfioohaaGreatDoor

namespace Go.Proofs.YtimonhimfioohaaGreatDoor
open Go.RowKit

/-- A description's cells at the end of the parse. -/
def dE (p8 p9 p10 p11 p12 : Option Addr) (v13 v14 v15 : Value) (p16 : Option Addr) (v17 v18 : Value) : Array Value :=
  #[.int .i64 0, .string ⟨#[45]⟩, .int .u64 1, .int .u64 1, .string ⟨#[73, 78]⟩, .string ⟨#[73, 80, 52]⟩, .string ⟨#[97]⟩, .string ⟨#[120]⟩, .pointer p8, .pointer p9, .pointer p10, .pointer p11, .pointer p12, v13, v14, v15, .pointer p16, v17, v18]

/-- A description that is read. -/
def DescOk (D : Nat) (w W : World) : Prop := ∃ p8 p9 p10 p11 p12 v13 v14 v15 p16 v17 v18, ∃ bs : List Nat, W.heap[D]? = some (.cells (dE p8 p9 p10 p11 p12 v13 v14 v15 p16 v17 v18) 108 (0, 0)) ∧
  SesRd p8 p9 p10 p11 p12 v13 v14 v15 p16 W ∧ AttrRd v17 W ∧ bs.length ≤ 100000 ∧ W.ownsRow 0 145 1 v18 bs.length (bs.flatMap ptrC) ∧ (∀ b ∈ bs, MedRdy b W) ∧ Ch (fun k => k = D) w W

theorem own_ch0 {w W : World} {D : Nat} (h : Ch (Own w.heap.size D) w W) : Ch (fun k => k = D) w W :=
  ⟨h.os, h.tape, h.output, h.size, fun k hk hne => h.block k hk fun ho => ho.elim hne fun hb => by omega⟩

section
variable {ae : Addr} {S : Nat → Prop} {B D C : Nat} {s : ByteArray} {w0 : World} {cs : Array Value} {i k ip : Nat} {W W' : World} {F : World → Prop}
variable {vc vc' vm v18 v3 v4 v7 : Value} {lm : List (ByteArray × ByteArray)} {bs : List Nat} {b : Nat} {q2 q5 q6 q8 : Option Addr} {lb : List (Bool × ByteArray × Int)}

theorem F4.touch (h : F4 B D F vc vm v18 lm bs b q2 v3 v4 q5 q6 v7 q8 lb i W) (hc : Ch (fun k => (k = B ∨ k = D) ∨ k = B + 1) W W') (hC : W'.heap[B + 1]? = some (.cells #[vc', vm] 172 (0, 0))) :
    F4 B D F vc' vm v18 lm bs b q2 v3 v4 q5 q6 v7 q8 lb i W' := by
  have hd := h.dl
  have hlow : ∀ {e size n : Nat} {v : Value} {xs : List Value}, W.ownsRow (B + 2) e size v n xs → ∀ k, ((k = B ∨ k = D) ∨ k = B + 1) → v.ownBlock ≠ some k := fun ho k hk hv => by
    have := (ho.lt k hv).1
    omega
  exact ⟨h.dl, hC, own_chX h.ownm hc (hlow h.ownm), h.lem, own_chX h.own18 hc (hlow h.own18), h.le18, h.bl, (hc.block _ (blk_lt h.med) (by have := h.bl; omega)).trans h.med, own_chX h.own7 hc (hlow h.own7), h.le7,
    h.keep.same (hc.mono fun _ hk => .inl (.inl (.inl (.inl hk))))⟩
end

section
variable {ae : Addr} {B D : Nat} {s : ByteArray} {w0 : World} {cs : Array Value} {i k : Nat} {W : World}

/-- What stands behind the loop over the states. -/
def Tail (B D : Nat) (w0 W : World) : Prop := ∃ C, W.cell? ⟨B, 1, none⟩ = some (.pointer (some ⟨C, 0, none⟩)) ∧ W.cell? ⟨B, 0, none⟩ = some (.pointer (some ⟨D, 0, none⟩)) ∧
  Calls Tryz.prog 87 #[.pointer (some ⟨C, 0, none⟩)] W fun e W1 => ∃ a n c, e = .returned (.slice a n c) ∧ W1.cell? ⟨B, 1, none⟩ = some (.pointer (some ⟨C, 0, none⟩)) ∧ W1.cell? ⟨B, 0, none⟩ = some (.pointer (some ⟨D, 0, none⟩)) ∧ (∃ u, W1.cell? ⟨D, 17, none⟩ = some u) ∧ W1.frozen? ⟨D, 17, none⟩ = false ∧
    Calls Tryz.prog 88 #[.pointer (some ⟨C, 0, none⟩), .pointer (some ⟨D, 0, none⟩)] (W1.setCell ⟨D, 17, none⟩ (.slice a n c)).drew fun e W2 => e = .returned (.tuple #[]) ∧ DescOk D w0 W2

theorem tail3 (h : St ae (Own B D) B D (B + 1) s w0 cs i W) (hB : w0.heap.size = B) (h6 : 6 < B) (hk : k ≤ 90) (hp : Ph3 B D cs k W) : Tail B D w0 W := by
  obtain ⟨p8, p9, p10, p11, p12, v13, v14, v15, p16, va, la, rfl, hF⟩ := hp
  have hd := hF.dl
  refine ⟨B + 1, blk_cell h.lexb rfl, h.p0, (cloneSession_any hF.cache hF.own (by have := hF.le; omega)).mono ?_⟩
  rintro e W1 ⟨a, n, c, va', rfl, ho, hC, _, _, hc⟩
  have h1 : St ae (Own B D) B D (B + 1) s w0 _ i W1 := h.chX hc (fun j hj => by omega) (fun j hj => .inr (by omega))
  refine ⟨a, n, c, rfl, blk_cell h1.lexb rfl, h1.p0, ⟨_, blk_cell h1.desc rfl⟩, blk_frozen h1.desc, ?_⟩
  have h2 := (h1.set 17 (.slice a n c)).drew
  have hc2 : Ch (fun k => (k = B ∨ k = D) ∨ k = B + 1) W (W1.setCell ⟨D, 17, none⟩ (.slice a n c)).drew :=
    ((hc.mono fun _ hk => .inr hk).trans (Ch.set (S := fun k => (k = B ∨ k = D) ∨ k = B + 1) W1 (.inl (.inr rfl)) _)).trans ((ch_drew _).mono fun _ h => h.elim)
  refine (populate_nil _ D _ (blk_cell h2.desc rfl)).mono ?_
  rintro e W2 ⟨rfl, rfl⟩
  refine ⟨rfl, p8, p9, p10, p11, p12, v13, v14, v15, p16, .slice a n c, .slice none 0 0, [], h2.desc, hF.keep _ (hc2.mono fun _ hk => .inl hk), ?_, by decide, World.ownsRow_nil _ _ _ _, by simp, ?_⟩
  · exact ⟨la, by have := hF.le; omega, own_ch (own_tb (k := 17) (x := .slice a n c) h1.desc (own0 ho) (by decide)) (ch_drew _)⟩
  · subst hB
    exact own_ch0 h2.ch

theorem tail4 (h : St ae (Own B D) B D (B + 1) s w0 cs i W) (hB : w0.heap.size = B) (h6 : 6 < B) (hk : k ≤ 90) (hp : Ph4 B D cs k W) : Tail B D w0 W := by
  obtain ⟨p8, p9, p10, p11, p12, v13, v14, v15, p16, va, vm, v18, lm, bs, b, q2, v3, v4, q5, q6, v7, q8, lb, rfl, hF⟩ := hp
  have hd := hF.dl
  have hbl := hF.bl
  obtain ⟨la, hla, hoa⟩ := hF.keep.now.1.1.2
  refine ⟨B + 1, blk_cell h.lexb rfl, h.p0, (cloneSession_any hF.cache hoa hla).mono ?_⟩
  rintro e W1 ⟨a, n, c, va', rfl, ho, hC, _, _, hc⟩
  have h1 : St ae (Own B D) B D (B + 1) s w0 _ i W1 := h.chX hc (fun j hj => by omega) (fun j hj => .inr (by omega))
  refine ⟨a, n, c, rfl, blk_cell h1.lexb rfl, h1.p0, ⟨_, blk_cell h1.desc rfl⟩, blk_frozen h1.desc, ?_⟩
  have h2 := (h1.set 17 (.slice a n c)).drew
  have hc2 : Ch (fun k => (k = B ∨ k = D) ∨ k = B + 1) W (W1.setCell ⟨D, 17, none⟩ (.slice a n c)).drew :=
    ((hc.mono fun _ hk => .inr hk).trans (Ch.set (S := fun k => (k = B ∨ k = D) ∨ k = B + 1) W1 (.inl (.inr rfl)) _)).trans ((ch_drew _).mono fun _ h => h.elim)
  have hC2 : (W1.setCell ⟨D, 17, none⟩ (.slice a n c)).drew.heap[B + 1]? = some (.cells #[va', vm] 172 (0, 0)) := (blk_set_other _ (by omega)).trans hC
  have hF2 := hF.touch hc2 hC2
  have ho2 := own_ch (own_tb (k := 17) (x := .slice a n c) h1.desc ho (by decide)) (ch_drew _)
  refine (populate_any (C := B + 1) (D := D) (Bs := B + 2) h2.desc (v := v18) rfl (ptr_last hF2.own18) (by have := hF.le18; omega) hF2.med rfl hF2.cache hF2.ownm (by have := hF.lem; omega)).mono ?_
  rintro e W2 ⟨rfl, v9, vm', hb3, hC3, ho9, hm3, hm', hc3⟩
  have h3 : St ae (Own B D) B D (B + 1) s w0 _ i W2 := h2.chX hc3 (fun j hj => by omega) (fun j hj => .inr (by omega))
  have hF5 := hF2.shut h3 hc3 hC3 hb3 hm3 hm' ⟨lm, by have := hF.lem; omega, own0 ho9⟩ (fun j hj => (ho9.lt j hj).1) (by omega)
  have hn := hF5.keep.now
  refine ⟨rfl, p8, p9, p10, p11, p12, v13, v14, v15, p16, .slice a n c, v18, bs ++ [b], h3.desc, hn.1.1, ⟨la, hla, own0 (own_chX ho2 hc3 ?_)⟩, by have := hF5.le18; omega, own0 hF5.own18, hn.2, ?_⟩
  · rintro j (hj | hj)
    · subst hj
      exact own_not ho2 hF2.med (by decide)
    · subst hj
      exact own_not ho2 hF2.cache (by decide)
  · subst hB
    exact own_ch0 h3.ch

theorem tail_any {q : Nat} (h : St ae (Own B D) B D (B + 1) s w0 cs i W) (hB : w0.heap.size = B) (h6 : 6 < B) (hk : k ≤ 90) (hp : PhQ B D q cs k W) (hq : q = 9 ∨ 11 ≤ q) : Tail B D w0 W := by
  unfold PhQ at hp
  split at hp
  all_goals first
    | (exfalso; omega)
    | exact tail3 h hB h6 hk (Ph2.close h hk hp)
    | exact tail3 h hB h6 hk hp
    | exact tail4 h hB h6 hk hp

/-- THE PARSE: an error where the parser's states do not take the lines; else a description that is read. -/
theorem parse_any {D : Nat} {w : World} {l : List UInt8} (hD : w.heap[D]? = some (.cells zeroDesc 108 (0, 0))) (h6 : w.cell? ⟨6, 0, none⟩ = some (.iface 342 (.pointer (some ae)))) (hD6 : D ≠ 6)
    (hs : s.data.toList = textOf l) (hl : l.length ≤ 60) (hn : ∀ c ∈ l, knownL c) (hq : ∀ q, runP 1 l = some q → q = 9 ∨ 11 ≤ q) :
    Calls Tryz.prog 46 #[.pointer (some ⟨D, 0, none⟩), .string s] w (Res (fun W => runP 1 l = none ∧ Ch (fun k => k = D) w W) (fun W => (runP 1 l).isSome = true ∧ DescOk D w W)) := by
  have hsz : s.size ≤ 1260 := by
    have h1 : s.size = s.data.toList.length := by simp
    have h2 := text_len l hn
    rw [h1, hs]
    omega
  have hw6 : 6 < w.heap.size := World.block_lt_of_cell? w _ h6
  have hDl := blk_lt hD
  refine (unmarshalString_gen (n := 2 * l.length + 1) (I := LI ae w.heap.size D s w l) (Bad := fun W => runP 1 l = none ∧ Ch (Own w.heap.size D) w W) (Good := fun W => (runP 1 l).isSome = true ∧ DescOk D w W) hD rfl h6 hD6 (by omega) (langStages hw6) ?_ ?_).mono ?_
  · intro W hst hc hch
    exact .at_ (q := 1) (by decide) (by decide) (hst.frame (w1 := w) (hch.mono fun _ h => h.elim) (.inr (Nat.le_refl _)) (.inl rfl)) (k := 0) ⟨rfl, hDl, hc⟩ (by omega) (by simpa using hs) hn rfl
  · intro k W hI
    cases hI with
    | done hst hp hk hr =>
      obtain ⟨C, h1, h2, h3⟩ := tail_any hst rfl hw6 (by omega) hp (hq _ hr)
      refine ⟨C, h1, h2, h3.mono ?_⟩
      rintro e W1 ⟨a, n, c, he, g1, g2, g3, g4, g5⟩
      exact ⟨a, n, c, he, g1, g2, g3, g4, g5.mono fun e W2 ⟨he, hg⟩ => ⟨he, by rw [hr]; rfl, hg⟩⟩
  · rintro e w' (⟨he, hg⟩ | ⟨t, x, he, hb⟩)
    · exact .inl ⟨he, hg⟩
    · exact .inr ⟨t, x, he, hb.1, own_ch0 hb.2⟩
end
end Go.Proofs.YtimonhimfioohaaGreatDoor
