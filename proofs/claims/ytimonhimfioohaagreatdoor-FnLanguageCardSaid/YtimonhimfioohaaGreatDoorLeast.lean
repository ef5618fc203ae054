/- The shortest description is read (package sdp): UnmarshalString at the one text that all statements read. -/
import Derived.Test.YtimonhimfioohaaGreatDoorRun
import Derived.Test.YtimonhimfioohaaGreatDoorTime
namespace Go.Proofs.YtimonhimfioohaaGreatDoor
open Go.RowKit

/-- The text: v=0, o=- 1 1 IN IP4 a, s=x, t=0 0. -/
def leastText : ByteArray := ⟨#[118, 61, 48, 13, 10, 111, 61, 45, 32, 49, 32, 49, 32, 73, 78, 32, 73, 80, 52, 32, 97, 13, 10, 115, 61, 120, 13, 10, 116, 61, 48, 32, 48, 13, 10]⟩

def desc1 : Array Value := #[.int .i64 0, .string ⟨#[45]⟩, .int .u64 1, .int .u64 1, .string ⟨#[73, 78]⟩, .string ⟨#[73, 80, 52]⟩, .string ⟨#[97]⟩, .string ⟨#[]⟩, .pointer none, .pointer none, .pointer none, .pointer none, .pointer none, .slice none 0 0, .slice none 0 0, .slice none 0 0, .pointer none, .slice none 0 0, .slice none 0 0]
def desc2 (v : Value) : Array Value := #[.int .i64 0, .string ⟨#[45]⟩, .int .u64 1, .int .u64 1, .string ⟨#[73, 78]⟩, .string ⟨#[73, 80, 52]⟩, .string ⟨#[97]⟩, .string ⟨#[120]⟩, .pointer none, .pointer none, .pointer none, .pointer none, .pointer none, .slice none 0 0, v, .slice none 0 0, .pointer none, .slice none 0 0, .slice none 0 0]

theorem call129 (args : Array Value) (W : World) : (callFunc 129 args).run Tryz.prog W = .ok (.enter 129 args) W := by kernel_rfl
theorem call178 (args : Array Value) (W : World) : (callFunc 178 args).run Tryz.prog W = .ok (.enter 178 args) W := by kernel_rfl
theorem call200 (args : Array Value) (W : World) : (callFunc 200 args).run Tryz.prog W = .ok (.enter 200 args) W := by kernel_rfl
theorem call210 (args : Array Value) (W : World) : (callFunc 210 args).run Tryz.prog W = .ok (.enter 210 args) W := by kernel_rfl
theorem call86 (args : Array Value) (W : World) : (callFunc 86 args).run Tryz.prog W = .ok (.enter 86 args) W := by kernel_rfl
theorem call152 (args : Array Value) (W : World) : (callFunc 152 args).run Tryz.prog W = .ok (.enter 152 args) W := by kernel_rfl
theorem call194 (args : Array Value) (W : World) : (callFunc 194 args).run Tryz.prog W = .ok (.enter 194 args) W := by kernel_rfl
theorem call202 (args : Array Value) (W : World) : (callFunc 202 args).run Tryz.prog W = .ok (.enter 202 args) W := by kernel_rfl
theorem call217 (args : Array Value) (W : World) : (callFunc 217 args).run Tryz.prog W = .ok (.enter 217 args) W := by kernel_rfl

theorem owns_same {w w' : World} {base size n : Nat} {e : TypeId} {v : Value} {xs : List Value} (h : w.ownsRow base e size v n xs) (hb : ∀ g, v.ownBlock = some g → w'.heap[g]? = w.heap[g]?) : w'.ownsRow base e size v n xs := by
  refine ⟨h.1, ?_⟩
  rcases h.2 with hn | ⟨g, cap, cur, rfl, hbg, hg, rest⟩
  · exact .inl hn
  · exact .inr ⟨g, cap, cur, rfl, hbg, (hb g rfl).trans hg, rest⟩

theorem St.rebase {ae : Addr} {S : Nat → Prop} {L D C i : Nat} {s : ByteArray} {w0 w : World} {cs : Array Value} (h : St ae S L D C s w0 cs i w) : St ae S L D C s w cs i w :=
  { h with ch := Ch.refl _ _ }
theorem St.trans {ae : Addr} {S : Nat → Prop} {L D C i i' : Nat} {s : ByteArray} {w0 w w' : World} {cs cs' : Array Value} (k : St ae S L D C s w cs' i' w') (h : St ae S L D C s w0 cs i w) : St ae S L D C s w0 cs' i' w' :=
  { k with ch := h.ch.trans k.ch }

/-- The description's times, once the line t=0 0 is read. -/
def Timed (B _D : Nat) (w W : World) (v : Value) : Prop := ∃ g cap, v = .slice (some ⟨g, 0, none⟩) 1 cap ∧ W.ownsRow B 193 3 v 1 [.int .u64 0, .int .u64 0, .slice none 0 0] ∧ w.heap.size < g

structure Least (ae : Addr) (D : Nat) (w W0 : World) (cs : Array Value) (i : Nat) (W : World) : Prop where
  st : St ae (fun k => k = w.heap.size ∨ k = D) w.heap.size D (w.heap.size + 1) leastText W0 cs i W
  cache : W0.heap[w.heap.size + 1]? = some (.cells #[.slice none 0 0, .slice none 0 0] 172 (0, 0))
  ch : Ch (fun _ => False) w W0
  dl : D < w.heap.size

def leastI (ae : Addr) (D : Nat) (w : World) : Nat → Value → World → Prop
  | 9, v, W => v = .func (.func 86) #[] #[] ∧ ∃ W0, Least ae D w W0 zeroDesc 0 W
  | 8, v, W => v = .func (.func 129) #[] #[] ∧ ∃ W0, Least ae D w W0 zeroDesc 2 W
  | 7, v, W => v = .func (.func 152) #[] #[] ∧ ∃ W0, Least ae D w W0 zeroDesc 5 W
  | 6, v, W => v = .func (.func 178) #[] #[] ∧ ∃ W0, Least ae D w W0 zeroDesc 7 W
  | 5, v, W => v = .func (.func 194) #[] #[] ∧ ∃ W0, Least ae D w W0 desc1 23 W
  | 4, v, W => v = .func (.func 200) #[] #[] ∧ ∃ W0, Least ae D w W0 desc1 25 W
  | 3, v, W => v = .func (.func 202) #[] #[] ∧ ∃ W0, Least ae D w W0 (desc2 (.slice none 0 0)) 28 W
  | 2, v, W => v = .func (.func 210) #[] #[] ∧ ∃ W0, Least ae D w W0 (desc2 (.slice none 0 0)) 30 W
  | 1, v, W => v = .func (.func 217) #[] #[] ∧ ∃ W0 t, Least ae D w W0 (desc2 t) 35 W ∧ Timed w.heap.size D w W t
  | 0, v, W => v = .nilFunc ∧ ∃ W0 t, Least ae D w W0 (desc2 t) 35 W ∧ Timed w.heap.size D w W t
  | _ + 10, _, _ => False

theorem leastStages (ae : Addr) (D : Nat) (w : World) : Stages (leastI ae D w) w.heap.size (fun _ => False) := by
  refine ⟨fun k v W h => ?_⟩
  match k, h with
  | 9, ⟨hv, W0, h⟩ =>
    refine .inr ⟨86, hv, call86, (s1_v h.st (r := leastText.data.toList.drop 2) rfl).mono fun e w' ⟨he, hs⟩ => .inl ⟨_, 8, he, by omega, rfl, W0, hs, h.cache, h.ch, h.dl⟩⟩
  | 8, ⟨hv, W0, h⟩ =>
    refine .inr ⟨129, hv, call129, (version_line h.st (r := leastText.data.toList.drop 5) rfl rfl).mono fun e w' ⟨he, hs⟩ => .inl ⟨_, 7, he, by omega, rfl, W0, hs, h.cache, h.ch, h.dl⟩⟩
  | 7, ⟨hv, W0, h⟩ =>
    refine .inr ⟨152, hv, call152, (s2_o h.st (r := leastText.data.toList.drop 7) rfl).mono fun e w' ⟨he, hs⟩ => .inl ⟨_, 6, he, by omega, rfl, W0, hs, h.cache, h.ch, h.dl⟩⟩
  | 6, ⟨hv, W0, h⟩ =>
    refine .inr ⟨178, hv, call178, (origin_line h.st (r := leastText.data.toList.drop 23) rfl rfl).mono fun e w' ⟨he, hs⟩ => .inl ⟨_, 5, he, by omega, rfl, W0, hs, h.cache, h.ch, h.dl⟩⟩
  | 5, ⟨hv, W0, h⟩ =>
    refine .inr ⟨194, hv, call194, (s3_s h.st (r := leastText.data.toList.drop 25) rfl).mono fun e w' ⟨he, hs⟩ => .inl ⟨_, 4, he, by omega, rfl, W0, hs, h.cache, h.ch, h.dl⟩⟩
  | 4, ⟨hv, W0, h⟩ =>
    refine .inr ⟨200, hv, call200, (name_line h.st (r := leastText.data.toList.drop 28) rfl).mono fun e w' ⟨he, hs⟩ => .inl ⟨_, 3, he, by omega, rfl, W0, hs, h.cache, h.ch, h.dl⟩⟩
  | 3, ⟨hv, W0, h⟩ =>
    refine .inr ⟨202, hv, call202, (s4_t h.st (r := leastText.data.toList.drop 30) rfl).mono fun e w' ⟨he, hs⟩ => .inl ⟨_, 2, he, by omega, rfl, W0, hs, h.cache, h.ch, h.dl⟩⟩
  | 2, ⟨hv, W0, h⟩ =>
    have hsz : w.heap.size < W.heap.size := blk_lt h.st.lexb
    refine .inr ⟨210, hv, call210, (time_line (B := w.heap.size) (n := 0) (v := .slice none 0 0) (xs := []) h.st (r := []) rfl rfl rfl (World.ownsRow_nil _ _ _ _) (by omega) (by omega) (by simp [Value.ownBlock]) (by simp [Value.ownBlock]) (by simp [Value.ownBlock]) (by simp [Value.ownBlock])).mono fun e w' ⟨he, g, cap, hs, ho, hg, _⟩ => .inl ⟨_, 1, he, by omega, rfl, W0, _, ⟨hs, h.cache, h.ch, h.dl⟩, g, cap, rfl, ho, ?_⟩⟩
    rcases hg with hg | hg
    · cases hg
    · omega
  | 1, ⟨hv, W0, t, h, ht⟩ =>
    refine .inr ⟨217, hv, call217, (s9_end h.st.rebase rfl).mono fun e w' ⟨he, hs⟩ => .inl ⟨_, 0, he, by omega, rfl, W0, t, ⟨hs.trans h.st, h.cache, h.ch, h.dl⟩, ?_⟩⟩
    obtain ⟨g, cap, rfl, ho, hg⟩ := ht
    refine ⟨g, cap, rfl, owns_same ho fun g' hg' => ?_, hg⟩
    obtain rfl : g = g' := by simpa [Value.ownBlock] using hg'
    exact hs.ch.block g (ho.lt g rfl).2 (by have := h.dl; omega)
  | 0, ⟨hv, _⟩ => exact .inl hv

/-- What the parse leaves: the description's block, its times; nothing else that was there has changed. -/
def LeastGood (D : Nat) (w W : World) : Prop := ∃ t, W.heap[D]? = some (.cells (desc2 t) 108 (0, 0)) ∧ Timed w.heap.size D w W t ∧ Ch (fun k => k = D) w W

theorem least_parse {ae : Addr} {D : Nat} {w : World} (hD : w.heap[D]? = some (.cells zeroDesc 108 (0, 0))) (h6 : w.cell? ⟨6, 0, none⟩ = some (.iface 342 (.pointer (some ae)))) (hD6 : D ≠ 6) :
    Calls Tryz.prog 46 #[.pointer (some ⟨D, 0, none⟩), .string leastText] w fun e w' => e = .returned .nilIface ∧ LeastGood D w w' := by
  refine (unmarshalString_gen (n := 9) (Bad := fun _ => False) (Good := LeastGood D w) hD rfl h6 hD6 (by decide) (leastStages ae D w) (fun W hst hc hch => ⟨rfl, W, hst, hc, hch, blk_lt hD⟩) ?_).mono ?_
  · intro k W hI
    match k, hI with
    | 0, ⟨_, W0, t, h, ht⟩ =>
      have hcache : W.heap[w.heap.size + 1]? = some (.cells #[.slice none 0 0, .slice none 0 0] 172 (0, 0)) :=
        (h.st.ch.block _ (blk_lt h.cache) (by have := h.dl; omega)).trans h.cache
      refine ⟨w.heap.size + 1, blk_cell h.st.lexb rfl, h.st.p0, (cloneSession_nil _ W hcache).mono ?_⟩
      rintro e W1 ⟨rfl, rfl⟩
      refine ⟨none, 0, 0, rfl, blk_cell h.st.lexb rfl, h.st.p0, ⟨_, blk_cell h.st.desc rfl⟩, blk_frozen h.st.desc, (populate_nil _ D _ ?_).mono ?_⟩
      · exact blk_cell (blk_set (j := 17) (.slice none 0 0) h.st.desc) rfl
      · rintro e W2 ⟨rfl, rfl⟩
        refine ⟨rfl, t, blk_set (j := 17) (.slice none 0 0) h.st.desc, ?_, ?_⟩
        · obtain ⟨g, cap, rfl, ho, hg⟩ := ht
          refine ⟨g, cap, rfl, owns_same ho fun g' hg' => ?_, hg⟩
          obtain rfl : g = g' := by simpa [Value.ownBlock] using hg'
          exact blk_set_other _ (by have := h.dl; omega)
        · have c1 : Ch (fun k => k = D) w W := ⟨h.st.ch.os.trans h.ch.os, h.st.ch.tape.trans h.ch.tape, h.st.ch.output.trans h.ch.output, Nat.le_trans h.ch.size h.st.ch.size, fun k hk hS =>
            (h.st.ch.block k (Nat.lt_of_lt_of_le hk h.ch.size) (by omega)).trans (h.ch.block k hk id)⟩
          exact (c1.trans (Ch.set (S := fun k => k = D) (k := D) (j := 17) W rfl (.slice none 0 0))).of_heap rfl rfl rfl rfl
    | 1, ⟨hv, _⟩ => cases hv
    | 2, ⟨hv, _⟩ => cases hv
    | 3, ⟨hv, _⟩ => cases hv
    | 4, ⟨hv, _⟩ => cases hv
    | 5, ⟨hv, _⟩ => cases hv
    | 6, ⟨hv, _⟩ => cases hv
    | 7, ⟨hv, _⟩ => cases hv
    | 8, ⟨hv, _⟩ => cases hv
    | 9, ⟨hv, _⟩ => cases hv
    | _ + 10, hf => exact hf.elim
  · rintro e w' (⟨he, hg⟩ | ⟨_, _, _, hf⟩)
    · exact ⟨he, hg⟩
    · exact hf.elim
end Go.Proofs.YtimonhimfioohaaGreatDoor
