/- What the rows' lists give a walk (io.EOF's cell), and a world for the witness: the settled one with the listed variables laid. -/
import Derived.Test.YtimonhimfioohaaGreatDoorCards
import Derived.Test.YtimonhimfioohaaGreatDoorTie
import Derived.Test.YtimonhimfioohaaGreatDoorWorks
import Derived.WalkKit
import Derived.ProofKit
import Derived.OpenShut
import Derived.Deep.DeepHandedRow
import Derived.Lib.LaidTab
import Derived.Stop.LaidErr
import Derived.Stop.ErrReads
namespace Go.Proofs.YtimonhimfioohaaGreatDoor
open Go.ChangeShapes Go.WideShapes Go.ChangeAt Go.RowKit

theorem own : ownKnob Tryz.prog.godebug = none := by kernel_rfl
theorem gEof : Tryz.prog.globalNamed "io.EOF" = some 6 := by kernel_rfl
theorem gEofType : (Tryz.prog.globals[6]?).map (·.type) = some 111 := by kernel_rfl
theorem starName : "*" ++ "errors.errorString" = "*errors.errorString" := by decide
theorem row342 (u : TypeId) (h : Tryz.prog.typeName? 3 u = some "*errors.errorString") : u = 342 :=
  typeName_ptr_named (nm := "errors.errorString") (by rw [starName]; kernel_rfl) (by kernel_rfl) (by decide) u (by rw [starName]; exact h)
theorem cells344 : Tryz.prog.cellsOf 344 = 1 := by kernel_rfl
theorem cells9 : Tryz.prog.cellsOf 9 = 1 := by kernel_rfl

/-- io.EOF's cell, where it heads the list. -/
theorem eof_of_laid {W : World} {r : List (String × DataW Unit)} (h : laidMet Tryz.prog (("io.EOF", Rows.laid_io_EOF) :: r) W) : ∃ ae, W.cell? ⟨6, 0, none⟩ = some (.iface 342 (.pointer (some ae))) := by
  obtain ⟨a, s, h1, _⟩ := laid_sentinel h gEof gEofType Tryz.underlying111 row342 Tryz.underlying342 Tryz.underlying344 rfl rfl Tryz.underlying9 cells344 cells9
  exact ⟨a, by simpa using World.var?_cell gEof h1 0⟩

theorem lt_of_cell {W : World} {k j : Nat} {v : Value} (h : W.cell? ⟨k, j, none⟩ = some v) : k < W.heap.size := by
  rcases Nat.lt_or_ge k W.heap.size with h' | h'
  · exact h'
  · simp [World.cell?, Array.getElem?_eq_none h'] at h

/-- The frame that a row asks for. -/
theorem Ch.kept {w w' : World} (h : Ch (fun _ => False) w w') (may : MemPlace → Prop) : w.keptBut w' may := ((h.mono (fun _ hk => hk.elim) : Ch (fun k => w.heap.size ≤ k) w w').below (Nat.le_refl _)).frame may

noncomputable def low : Nat := (World.holding Tryz.prog default ⟨#[], #[], []⟩).heap.size

/-- What the listed variables hold. -/
noncomputable def laidCells : Nat → Option (Array Value) := fun g => match g with
  | 0 => some #[.iface 342 (.pointer (some ⟨low + 0, 0, none⟩))]
  | 1 => some #[.iface 342 (.pointer (some ⟨low + 1, 0, none⟩))]
  | 2 => some #[.iface 342 (.pointer (some ⟨low + 2, 0, none⟩))]
  | 3 => some #[.iface 342 (.pointer (some ⟨low + 3, 0, none⟩))]
  | 4 => some #[.iface 342 (.pointer (some ⟨low + 4, 0, none⟩))]
  | 6 => some #[.iface 342 (.pointer (some ⟨low + 5, 0, none⟩))]
  | 8 => some #[.int .u64 1, .int .u64 10, .int .u64 100, .int .u64 1000, .int .u64 10000, .int .u64 100000, .int .u64 1000000, .int .u64 10000000, .int .u64 100000000, .int .u64 1000000000, .int .u64 10000000000, .int .u64 100000000000, .int .u64 1000000000000, .int .u64 10000000000000, .int .u64 100000000000000, .int .u64 1000000000000000, .int .u64 10000000000000000, .int .u64 100000000000000000, .int .u64 1000000000000000000, .int .u64 10000000000000000000]
  | 9 => some #[.iface 342 (.pointer (some ⟨low + 6, 0, none⟩))]
  | 10 => some #[.iface 342 (.pointer (some ⟨low + 7, 0, none⟩))]
  | 11 => some #[.iface 342 (.pointer (some ⟨low + 8, 0, none⟩))]
  | 12 => some #[.iface 342 (.pointer (some ⟨low + 9, 0, none⟩))]
  | 13 => some #[.int .u8 0, .int .u8 1, .int .u8 28, .int .u8 2, .int .u8 29, .int .u8 14, .int .u8 24, .int .u8 3, .int .u8 30, .int .u8 22, .int .u8 20, .int .u8 15, .int .u8 25, .int .u8 17, .int .u8 4, .int .u8 8, .int .u8 31, .int .u8 27, .int .u8 13, .int .u8 23, .int .u8 21, .int .u8 19, .int .u8 16, .int .u8 7, .int .u8 26, .int .u8 12, .int .u8 18, .int .u8 6, .int .u8 11, .int .u8 5, .int .u8 10, .int .u8 9]
  | 14 => some #[.int .u8 0, .int .u8 1, .int .u8 56, .int .u8 2, .int .u8 57, .int .u8 49, .int .u8 28, .int .u8 3, .int .u8 61, .int .u8 58, .int .u8 42, .int .u8 50, .int .u8 38, .int .u8 29, .int .u8 17, .int .u8 4, .int .u8 62, .int .u8 47, .int .u8 59, .int .u8 36, .int .u8 45, .int .u8 43, .int .u8 51, .int .u8 22, .int .u8 53, .int .u8 39, .int .u8 33, .int .u8 30, .int .u8 24, .int .u8 18, .int .u8 12, .int .u8 5, .int .u8 63, .int .u8 55, .int .u8 48, .int .u8 27, .int .u8 60, .int .u8 41, .int .u8 37, .int .u8 16, .int .u8 46, .int .u8 35, .int .u8 44, .int .u8 21, .int .u8 52, .int .u8 32, .int .u8 23, .int .u8 11, .int .u8 54, .int .u8 26, .int .u8 40, .int .u8 15, .int .u8 34, .int .u8 20, .int .u8 31, .int .u8 10, .int .u8 25, .int .u8 14, .int .u8 19, .int .u8 9, .int .u8 13, .int .u8 8, .int .u8 7, .int .u8 6]
  | 15 => some #[.iface 342 (.pointer (some ⟨low + 10, 0, none⟩))]
  | _ => none
/-- A world for the witness. -/
noncomputable def laidWorld (os : Os) : World :=
  let w0 := World.holding Tryz.prog os ⟨#[.cells #[.string ⟨#[105, 110, 118, 97, 108, 105, 100, 32, 100, 105, 114, 101, 99, 116, 105, 111, 110, 32, 115, 116, 114, 105, 110, 103]⟩] 344, .cells #[.string ⟨#[83, 121, 110, 116, 97, 120, 69, 114, 114, 111, 114]⟩] 344, .cells #[.string ⟨#[115, 100, 112, 58, 32, 105, 110, 118, 97, 108, 105, 100, 32, 112, 111, 114, 116, 32, 118, 97, 108, 117, 101]⟩] 344, .cells #[.string ⟨#[115, 100, 112, 58, 32, 105, 110, 118, 97, 108, 105, 100, 32, 118, 97, 108, 117, 101]⟩] 344, .cells #[.string ⟨#[115, 100, 112, 58, 32, 105, 110, 118, 97, 108, 105, 100, 32, 110, 117, 109, 101, 114, 105, 99, 32, 118, 97, 108, 117, 101]⟩] 344, .cells #[.string ⟨#[69, 79, 70]⟩] 344, .cells #[.string ⟨#[105, 110, 118, 97, 108, 105, 100, 32, 115, 121, 110, 116, 97, 120]⟩] 344, .cells #[.string ⟨#[118, 97, 108, 117, 101, 32, 111, 117, 116, 32, 111, 102, 32, 114, 97, 110, 103, 101]⟩] 344, .cells #[.string ⟨#[97, 108, 114, 101, 97, 100, 121, 32, 111, 110, 32, 100, 111, 99, 117, 109, 101, 110, 116, 32, 115, 116, 97, 114, 116]⟩] 344, .cells #[.string ⟨#[102, 105, 101, 108, 100, 32, 109, 105, 115, 115, 105, 110, 103]⟩] 344, .cells #[.string ⟨#[115, 100, 112, 58, 32, 105, 110, 118, 97, 108, 105, 100, 32, 115, 121, 110, 116, 97, 120]⟩] 344], #[], []⟩
  { w0 with heap := w0.heap.mapIdx fun i o => match o, laidCells i with
      | .cells _ t frozen, some cs => .cells cs t frozen
      | o, _ => o }

end Go.Proofs.YtimonhimfioohaaGreatDoor
