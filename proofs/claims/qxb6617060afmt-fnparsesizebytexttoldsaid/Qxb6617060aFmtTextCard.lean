import Derived.Test.Qxb6617060aFmtCards
import Derived.Test.Qxb6617060aFmtTie
import Derived.Test.Qxb6617060aFmtLaid
import Derived.Test.Qxb6617060aFmtByText
import Derived.SevenTiedAt
import Derived.OpenShut
import Derived.ShutString
import Derived.Stop.JoinedAt
namespace Go.Proofs.Qxb6617060aFmt
open Go.ChangeShapes Go.WideShapes Go.ChangeAt Go.RowKit
open Go.ChangeMaps (open_string shut_string)
set_option linter.unusedVariables false

theorem own : ownKnob Tryf.prog.godebug = none := by kernel_rfl
theorem laidOut : laidOutB Tryf.pinned.checked.prog = true := by kernel_rfl
theorem stops : Tryf.pinned.checked.prog.stops = ["fmt.errorf"] := by kernel_rfl
theorem stopKnobs : Tryf.pinned.checked.prog.stopKnobs = [] := by kernel_rfl
theorem quiet (os : Os) : Stop.quiet Tryf.pinned.checked.prog os := by
  intro k hk
  rw [stopKnobs] at hk
  cases hk

/-- The two error variables, off 'laid'. -/
theorem isErr_of_laid {W : World} (hL : laidMet Tryf.prog Rows.fnParseSizeAppendDigitRow.laid W) : IsErr W 0 ∧ IsErr W 1 := by
  obtain ⟨a1, t1, hv1, _⟩ := laid_sentinel (g := 1) (tp := 48) hL.tail.tail.tail (by kernel_rfl) (by kernel_rfl) Tryf.underlying24
    (fun u h => typeName_ptr_named (nm := "errors.errorString") (by kernel_rfl) (by kernel_rfl) (by decide) u (h.trans (congrArg some (by decide)))) Tryf.underlying48 Tryf.underlying50 rfl rfl Tryf.underlying9 (by kernel_rfl) (by kernel_rfl)
  obtain ⟨a0, t0, hv0, _⟩ := laid_sentinel (g := 0) (tp := 48) hL.tail.tail.tail.tail (by kernel_rfl) (by kernel_rfl) Tryf.underlying24
    (fun u h => typeName_ptr_named (nm := "errors.errorString") (by kernel_rfl) (by kernel_rfl) (by decide) u (h.trans (congrArg some (by decide)))) Tryf.underlying48 Tryf.underlying50 rfl rfl Tryf.underlying9 (by kernel_rfl) (by kernel_rfl)
  exact ⟨⟨_, World.var?_cell (by kernel_rfl) hv0 0, .inr ⟨_, _, rfl⟩⟩, ⟨_, World.var?_cell (by kernel_rfl) hv1 0, .inr ⟨_, _, rfl⟩⟩⟩

/-- A byte that came in. -/
theorem byte_of {a : Int} (h : (Lit.int .u8 a).wf = true) : ∃ d : UInt8, a = (d.toNat : Int) := by
  simp [Lit.wf, IntKind.min, IntKind.max, IntKind.signed, IntKind.bits] at h
  refine ⟨UInt8.ofNat a.toNat, ?_⟩
  simp
  omega
end Go.Proofs.Qxb6617060aFmt
namespace Go.Proofs.Qxb6617060aFmt.fnParseSizeByText
open Go.ChangeShapes Go.WideShapes Go.ChangeAt Go.RowKit
open Go.ChangeMaps (open_string shut_string)
set_option linter.unusedVariables false

set_option maxRecDepth 100000 in
theorem lifted (os : Os) (started : os.Started) (H : Type) (enc : TypeId × Value → H) :
    ReturnsInTold none {} Tryf.checked os 3 .any Input.okWide ((OpenSpec.ofChange Rows.fnParseSizeByTextSpec).preRow enc Tryf.prog Tryf.f3 Rows.fnParseSizeByTextRow.domain false Rows.fnParseSizeByTextRow.laid)
      (fun F => ((OpenSpec.ofChange Rows.fnParseSizeByTextSpec).at F).post enc Tryf.prog Tryf.f3 false true false false) (aloneAtReturn Tryf.prog) nothingAlways := by
  refine returnsInTold_of_row (C := Tryf.checked) (s := OpenSpec.ofChange Rows.fnParseSizeByTextSpec) (by kernel_rfl) own started (by kernel_rfl) Tryf.func3
    (OpenSpec.witness_stopped_atRef (enc := enc) (C := Tryf.checked) false (laidOver (World.holding Tryf.prog os ⟨laidBlocks, #[], []⟩) (World.settled Tryf.prog os).heap.size) #[.string ⟨#[]⟩, .int .u8 0] rfl (by kernel_rfl) (by kernel_rfl) (by kernel_rfl) (byText_row os enc)) ?_
  intro F W base args ds gs before _ hF hval0 hW hcnd0 _ _ hL _
  have hval : ∀ (j : Nat) t v, Tryf.f3.params[j]? = some t → args[j]? = some v → Value.okWide Tryf.prog W .any base t v := hval0
  have hW' := hW
  obtain ⟨p, q, hA0, hV0, rfl, _, _⟩ := hW
  have hA : DataW.TrodAll enc Tryf.prog W 0 (fun _ => true) true Tryf.f3.params.toList args.toList ds p := hA0
  rw [Tryf.params3] at hA hval
  obtain ⟨v0, v1, d0, d1, p0, p1, rfl, rfl, rfl, h0, h1⟩ := trodAll_two hA
  obtain ⟨rfl, rfl⟩ := trodVars_none hV0
  obtain ⟨s, rfl, rfl, rfl, ws⟩ := open_string Tryf.underlying9 (hval 0 9 v0 rfl rfl) h0
  obtain ⟨a, rfl, rfl, rfl, wa⟩ := open_int Tryf.underlying5 (hval 1 5 v1 rfl rfl) h1
  clear hA0 hV0 hval0
  obtain ⟨d, rfl⟩ := byte_of wa
  obtain ⟨he0, he1⟩ := isErr_of_laid (W := W) hL
  refine (text_any s d W ws he0 he1).mono fun e W' ⟨he, bel⟩ => ?_
  subst he
  exact ⟨_, rfl, _, _, _, [], [], [], hW', trodAll_mk1 (shut_bool Tryf.underlying4 _), trodAll_mk2 (shut_string Tryf.underlying9 ws) (shut_int Tryf.underlying5 wa), rfl, bel.frame _, fun h => by cases h⟩

/-- THE STATEMENT -/
theorem proved : Rows.FnParseSizeByTextToldSaid :=
  Claim7.holds_of_told_tied_any_at .later 3 Tryf.f3 "fmt.errorf" [] [] _ _ _ _ _ (by kernel_rfl) rfl rfl rfl laidOut (by kernel_rfl) rfl ⟨rfl, rfl, rfl, rfl, rfl, rfl, rfl⟩ rfl rfl (by kernel_rfl) (by kernel_rfl) Tryf.func3 (by kernel_rfl)
    (of_decide_eq_true (by kernel_rfl)) (by unfold Func.isWrapper; first | (rw [if_pos (by decide +kernel)]; kernel_rfl) | (rw [if_neg (by decide +kernel)]; exact ⟨rfl, rfl⟩)) stops.symm rfl stopKnobs.symm (by kernel_rfl)
    (by kernel_rfl) (by kernel_rfl) (by kernel_rfl) (by kernel_rfl) (by kernel_rfl) (by kernel_rfl) (by kernel_rfl) (by kernel_rfl) (by kernel_rfl) rfl (by kernel_rfl) rfl rfl
    rfl rfl
    rfl (by kernel_rfl) (by kernel_rfl) (by kernel_rfl) (by decide) (by kernel_rfl) fnParseSizeByText_row_tie
    (OpenClaim.moreEntering_of (by kernel_rfl) (by kernel_rfl) (by kernel_rfl) (by kernel_rfl) (by kernel_rfl) (by kernel_rfl) (by kernel_rfl) (by kernel_rfl) (by kernel_rfl) (by kernel_rfl))
    ⟨_, WideRow.started_initial, quiet _⟩
    (fun os started _ H enc _ => lifted os started H enc)
end Go.Proofs.Qxb6617060aFmt.fnParseSizeByText
