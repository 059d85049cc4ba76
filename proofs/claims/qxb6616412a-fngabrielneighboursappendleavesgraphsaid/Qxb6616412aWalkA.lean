import Derived.Test.Qxb6616412aProg
import Derived.WalkKit
import Derived.ProofKit
import Derived.Below
import Derived.WalkSpells
import Derived.Deep.QuietTactic
import Derived.BigQuiet
namespace Go.Proofs.Qxb6616412a
open Go.ChangeShapes Go.WideShapes Go.ChangeAt Go.RowKit
set_option linter.unusedVariables false

/-- What the walks are told of a slice of ints: its elements, where there is one. -/
def RowV (w : World) (a : Option Addr) (len : Nat) (F : Nat → Int) : Prop :=
  len = 0 ∨ ∃ b off, a = some ⟨b, off, none⟩ ∧ ∀ i, i < len → w.cell? ⟨b, off + i, none⟩ = some (.int .i64 (F i))

/-- What zzGabrielShape finds. -/
def Good (F : Nat → Int) (len0 len1 : Nat) : Prop :=
  1 ≤ len0 ∧ F 0 = 0 ∧ F (len0 - 1) = len1 ∧ ∀ j, 1 ≤ j → j < len0 → F (j - 1) ≤ F j

set_option maxHeartbeats 400000 in
theorem bytes_any (a0 a1 : Option Addr) (len0 cap0 len1 cap1 : Nat) (v : Int) (w : World) (h0 : len0 ≤ maxLen) (h1 : len1 ≤ maxLen) :
    Calls Try.prog 4 #[.slice a0 len0 cap0, .slice a1 len1 cap1, .int .i64 v] w fun e w' => ∃ r : Bool, e = .returned (.bool r) ∧ w' = w := by
  unfold maxLen at h0 h1
  go_enter Try.func4, Try.ntmps4
  go_wp2
  all_goals (go_ret; exact ⟨_, rfl, rfl⟩)

set_option maxHeartbeats 400000 in
theorem newGabriel_any (fa ca : Option Addr) (fl fc cl cc : Nat) (w : World) :
    Calls Try.prog 6 #[.slice fa fl fc, .slice ca cl cc] w fun e w' => e = .returned (.pointer (some ⟨w.heap.size, 0, none⟩)) ∧
      w' = w.alloc (.cells #[.pointer none, .slice fa fl fc, .slice ca cl cc, .slice none 0 0, .slice none 0 0] 32) := by
  go_enter Try.func6, Try.ntmps6
  go_wp2
  go_ret
  exact ⟨rfl, rfl⟩

/-- How zzGabrielShape ends. -/
def ShapeEnds (F : Nat → Int) (len0 len1 : Nat) (w : World) (e : Ending) (w' : World) : Prop :=
  ∃ r : Bool, e = .returned (.bool r) ∧ (r = true → Good F len0 len1) ∧ ∃ n, w' = w.drewN n
theorem ShapeEnds.no {F : Nat → Int} {len0 len1 : Nat} {w : World} (n : Nat) : ShapeEnds F len0 len1 w (.returned (.bool false)) (w.drewN n) := ⟨false, rfl, by simp, n, rfl⟩
theorem ShapeEnds.yes {F : Nat → Int} {len0 len1 : Nat} {w : World} (n : Nat) (h : Good F len0 len1) : ShapeEnds F len0 len1 w (.returned (.bool true)) (w.drewN n) := ⟨true, rfl, fun _ => h, n, rfl⟩

set_option maxHeartbeats 1000000 in
theorem shape_any (a0 a1 : Option Addr) (len0 cap0 len1 cap1 : Nat) (F C : Nat → Int) (w : World) (h0 : len0 ≤ maxLen) (h1 : len1 ≤ maxLen) (r0 : RowV w a0 len0 F) (r1 : RowV w a1 len1 C) :
    Calls Try.prog 5 #[.slice a0 len0 cap0, .slice a1 len1 cap1] w (ShapeEnds F len0 len1 w) := by
  unfold maxLen at h0 h1
  rcases r0 with rfl | ⟨b, off, rfl, hc0⟩
  · go_enter Try.func5, Try.ntmps5
    go_wp2
    go_ret
    exact ShapeEnds.no 0
  · by_cases hl : len0 = 0
    · subst hl
      go_enter Try.func5, Try.ntmps5
      go_wp2
      go_ret
      exact ShapeEnds.no 0
    · have c0 := hc0 0 (by omega)
      have cl := hc0 (len0 - 1) (by omega)
      rw [Nat.add_zero] at c0
      go_enter Try.func5, Try.ntmps5
      go_wp2
      · go_ret
        exact ShapeEnds.no 0
      · have f0 : Hid (F 0 = 0) := by assumption
        have fl : Hid (F (len0 - 1) = len1) := by
          have h : 1 ≤ (len0 : Int) ∧ (F (len0 - 1) != (len1 : Int)) = false := by assumption
          exact show F (len0 - 1) = len1 by simpa using h.2
        clear c0 cl
        go_loopw [5] (fun i wr => ∃ k : Nat, 1 ≤ k ∧ k ≤ len0 ∧ i = .int .i64 k ∧ (∀ j, 1 ≤ j → j < k → F (j - 1) ≤ F j) ∧ ∃ n, wr = w.drewN n) (fun i _ => len0 - (intOf i).toNat)
        case atStart => exact ⟨1, Nat.le_refl _, by omega, rfl, fun j h1 h2 => by omega, 0, rfl⟩
        case round =>
          obtain ⟨k, hk1, hk, rfl, hmono, n, rfl⟩ := hrel
          have HM : Hid (∀ j, 1 ≤ j → j < k → F (j - 1) ≤ F j) := hmono
          clear hmono
          by_cases hlt : k < len0
          · have ck := hc0 k hlt
            have cj := hc0 (k - 1) (by omega)
            go_wp2
            go_quiet (fail)
            go_wp2
            · go_ret
              first | exact ShapeEnds.no _ | (simp only [World.drewN_drewN]; exact ShapeEnds.no _)
            · go_roundw
              case rel =>
                have hle : F (k - 1) ≤ F k := by assumption
                refine ⟨k + 1, by omega, by omega, by go_num, fun j h1 h2 => ?_, _, rfl⟩
                by_cases hj : j = k
                · subst hj; exact hle
                · exact HM.out j h1 (by omega)
              case measure => simp [intOf]; omega
          · have good : Hid (Good F len0 len1) := (⟨by omega, f0.out, fl.out, fun j h1 h2 => HM.out j h1 (by omega)⟩ : Good F len0 len1)
            go_wp2
            go_loop [7] (fun i => ∃ m : Nat, m ≤ len1 ∧ i = .int .i64 m) (fun i => len1 - (intOf i).toNat)
            case atStart => exact ⟨0, Nat.zero_le _, rfl⟩
            case round =>
              obtain ⟨m, hm, rfl⟩ := hrel
              by_cases hml : m < len1
              · rcases r1 with h | ⟨b1, off1, rfl, hc1⟩
                · omega
                · have cm := hc1 m hml
                  go_wp2
                  all_goals first
                    | (go_ret; first | exact ShapeEnds.no _ | (simp only [World.drewN_drewN]; exact ShapeEnds.no _))
                    | (go_round; (case rel => exact ⟨m + 1, by omega, by go_num⟩); (case measure => simp [intOf]; omega))
              · go_wp2
                go_ret
                exact ShapeEnds.yes _ good.out
      · go_ret
        exact ShapeEnds.no 0
end Go.Proofs.Qxb6616412a
