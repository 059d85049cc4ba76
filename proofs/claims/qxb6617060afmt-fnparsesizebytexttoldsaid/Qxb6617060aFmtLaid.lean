import Derived.Test.Qxb6617060aFmtRows
import Derived.Deep.DeepWitnessRowRef
import Derived.Deep.DeepWitnessRef
import Derived.Lib.LaidIn
import Derived.ProofKit
import Derived.Stop.JoinedTold
import Derived.Stop.LaidErr
namespace Go.Proofs.Qxb6617060aFmt

/-- The two errors' structs. -/
def laidBlocks : Array Obj := #[.cells #[.string ⟨#[118, 97, 108, 117, 101, 32, 111, 117, 116, 32, 111, 102, 32, 114, 97, 110, 103, 101]⟩] 50, .cells #[.string ⟨#[105, 110, 118, 97, 108, 105, 100, 32, 115, 121, 110, 116, 97, 120]⟩] 50]
/-- One variable's cells laid. -/
def putCells (h : Array Obj) (g : Nat) (cs : Array Value) : Array Obj := h.modify g fun
  | .cells _ t frozen => .cells cs t frozen
  | o => o
/-- The five listed variables laid as their initialisers lay them; N: the block of the first error's struct. -/
def laidOver (w0 : World) (N : Nat) : World :=
  { w0 with heap := (putCells (putCells (putCells (putCells (putCells w0.heap 0 #[.iface 48 (.pointer (some ⟨N + 1, 0, none⟩))]) 1 #[.iface 48 (.pointer (some ⟨N, 0, none⟩))])
    2 #[.int .u64 1, .int .u64 10, .int .u64 100, .int .u64 1000, .int .u64 10000, .int .u64 100000, .int .u64 1000000, .int .u64 10000000, .int .u64 100000000, .int .u64 1000000000, .int .u64 10000000000, .int .u64 100000000000, .int .u64 1000000000000, .int .u64 10000000000000, .int .u64 100000000000000, .int .u64 1000000000000000, .int .u64 10000000000000000, .int .u64 100000000000000000, .int .u64 1000000000000000000, .int .u64 10000000000000000000])
    3 #[.int .u8 0, .int .u8 1, .int .u8 28, .int .u8 2, .int .u8 29, .int .u8 14, .int .u8 24, .int .u8 3, .int .u8 30, .int .u8 22, .int .u8 20, .int .u8 15, .int .u8 25, .int .u8 17, .int .u8 4, .int .u8 8, .int .u8 31, .int .u8 27, .int .u8 13, .int .u8 23, .int .u8 21, .int .u8 19, .int .u8 16, .int .u8 7, .int .u8 26, .int .u8 12, .int .u8 18, .int .u8 6, .int .u8 11, .int .u8 5, .int .u8 10, .int .u8 9])
    4 #[.int .u8 0, .int .u8 1, .int .u8 56, .int .u8 2, .int .u8 57, .int .u8 49, .int .u8 28, .int .u8 3, .int .u8 61, .int .u8 58, .int .u8 42, .int .u8 50, .int .u8 38, .int .u8 29, .int .u8 17, .int .u8 4, .int .u8 62, .int .u8 47, .int .u8 59, .int .u8 36, .int .u8 45, .int .u8 43, .int .u8 51, .int .u8 22, .int .u8 53, .int .u8 39, .int .u8 33, .int .u8 30, .int .u8 24, .int .u8 18, .int .u8 12, .int .u8 5, .int .u8 63, .int .u8 55, .int .u8 48, .int .u8 27, .int .u8 60, .int .u8 41, .int .u8 37, .int .u8 16, .int .u8 46, .int .u8 35, .int .u8 44, .int .u8 21, .int .u8 52, .int .u8 32, .int .u8 23, .int .u8 11, .int .u8 54, .int .u8 26, .int .u8 40, .int .u8 15, .int .u8 34, .int .u8 20, .int .u8 31, .int .u8 10, .int .u8 25, .int .u8 14, .int .u8 19, .int .u8 9, .int .u8 13, .int .u8 8, .int .u8 7, .int .u8 6]) }

set_option maxRecDepth 1000000 in
theorem laid_piece (os : Os) (args : Array Value) : LaidIn Tryf.prog ((laidOver (World.holding Tryf.prog os ⟨laidBlocks, #[], []⟩) (World.settled Tryf.prog os).heap.size).forCall (fun _ _ => 0) ⟨#[], args, []⟩).memory Rows.fnParseSizeAppendDigitRow.laid
    [3, 4, 2, 1, (World.settled Tryf.prog default).heap.size, 0, (World.settled Tryf.prog default).heap.size + 1] :=
  LaidIn.of_run [3, 4, 2, 1, (World.settled Tryf.prog default).heap.size, 0, (World.settled Tryf.prog default).heap.size + 1] 10 (by kernel_rfl) (by kernel_rfl) (by kernel_rfl) (by kernel_rfl)

theorem laid_met (os : Os) (args : Array Value) : laidMet Tryf.prog Rows.fnParseSizeAppendDigitRow.laid ((laidOver (World.holding Tryf.prog os ⟨laidBlocks, #[], []⟩) (World.settled Tryf.prog os).heap.size).forCall (fun _ _ => 0) ⟨#[], args, []⟩).memory := (laid_piece os args).met

theorem digit_row (os : Os) {H : Type} (enc : TypeId × Value → H) :
    (OpenSpec.ofChange Rows.fnParseSizeAppendDigitSpec).preRow enc Tryf.prog Tryf.f4 Rows.fnParseSizeAppendDigitRow.domain false Rows.fnParseSizeAppendDigitRow.laid
      ((laidOver (World.holding Tryf.prog os ⟨laidBlocks, #[], []⟩) (World.settled Tryf.prog os).heap.size).forCall (fun _ _ => 0) ⟨#[], #[.string ⟨#[]⟩, .int .u8 0], []⟩).memory #[.string ⟨#[]⟩, .int .u8 0] := by
  have hw : (DataW.whole enc Tryf.prog ((laidOver (World.holding Tryf.prog os ⟨laidBlocks, #[], []⟩) (World.settled Tryf.prog os).heap.size).forCall (fun _ _ => 0) ⟨#[], #[.string ⟨#[]⟩, .int .u8 0], []⟩).memory Tryf.f4.params.toList (OpenSpec.ofChange Rows.fnParseSizeAppendDigitSpec).vars false #[Value.string ⟨#[]⟩, .int .u8 0].toList 8).map (fun x => (x.1, x.2.1)) =
      some ([.lit (.string []), .lit (.int .u8 0)], []) := by kernel_rfl
  obtain ⟨⟨x1, x2, x3⟩, hx, hx1⟩ := Option.map_eq_some_iff.1 hw
  simp only [Prod.mk.injEq] at hx1
  obtain ⟨rfl, rfl⟩ := hx1
  exact OpenSpec.preRow_of_cond 8 hx (by kernel_rfl) (fun k hk => by cases hk) (by kernel_rfl) (laid_met os _)

theorem byText_row (os : Os) {H : Type} (enc : TypeId × Value → H) :
    (OpenSpec.ofChange Rows.fnParseSizeByTextSpec).preRow enc Tryf.prog Tryf.f3 Rows.fnParseSizeByTextRow.domain false Rows.fnParseSizeByTextRow.laid
      ((laidOver (World.holding Tryf.prog os ⟨laidBlocks, #[], []⟩) (World.settled Tryf.prog os).heap.size).forCall (fun _ _ => 0) ⟨#[], #[.string ⟨#[]⟩, .int .u8 0], []⟩).memory #[.string ⟨#[]⟩, .int .u8 0] := by
  have hw : (DataW.whole enc Tryf.prog ((laidOver (World.holding Tryf.prog os ⟨laidBlocks, #[], []⟩) (World.settled Tryf.prog os).heap.size).forCall (fun _ _ => 0) ⟨#[], #[.string ⟨#[]⟩, .int .u8 0], []⟩).memory Tryf.f3.params.toList (OpenSpec.ofChange Rows.fnParseSizeByTextSpec).vars false #[Value.string ⟨#[]⟩, .int .u8 0].toList 8).map (fun x => (x.1, x.2.1)) =
      some ([.lit (.string []), .lit (.int .u8 0)], []) := by kernel_rfl
  obtain ⟨⟨x1, x2, x3⟩, hx, hx1⟩ := Option.map_eq_some_iff.1 hw
  simp only [Prod.mk.injEq] at hx1
  obtain ⟨rfl, rfl⟩ := hx1
  exact OpenSpec.preRow_of_cond 8 hx (by kernel_rfl) (fun k hk => by cases hk) (by kernel_rfl) (laid_met os _)
end Go.Proofs.Qxb6617060aFmt
