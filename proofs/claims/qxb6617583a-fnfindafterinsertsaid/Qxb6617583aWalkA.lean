import Derived.Test.Qxb6617583aProg
import Derived.Test.Qxb6617583aShelf
import Derived.Test.Qxb6617583aPlain
import Derived.WalkKit
import Derived.ProofKit
import Derived.Below
import Derived.WalkSpells
import Derived.Deep.QuietTactic
import Derived.BigQuiet
namespace Go.Proofs.Qxb6617583a
open Go.ChangeShapes Go.WideShapes Go.ChangeAt Go.RowKit
set_option linter.unusedVariables false

/-- The closure of find: it compares a parameter's name with the name asked for. -/
theorem cmp_any (nm vl name : ByteArray) (w : World) : Calls Try.prog 13 #[.agg #[.string nm, .string vl], .string name] w fun e w' =>
    e = .returned (.int .i64 (Lib.compareBytes nm.data.toList name.data.toList)) ∧ Below w.heap.size w w' := by
  go_enter Try.func13, Try.ntmps13
  go_wp2_with (go_at_call 14; refine (Any.strings_Compare Try.lays106 nm name _).mono ?_; rintro e w' ⟨rfl, rfl⟩)
  go_ret
  exact ⟨rfl, (Below.refl _ _).alloc (Nat.le_refl _) _⟩

/-- What the walks are told of a slice of parameters: their names and values. -/
def RowP (w : World) (a : Option Addr) (n : Nat) (N V : Nat → ByteArray) : Prop :=
  n = 0 ∨ ∃ b off, a = some ⟨b, off, none⟩ ∧ ∀ j, j < n → w.cell? ⟨b, off + j * 2, none⟩ = some (.string (N j)) ∧ w.cell? ⟨b, off + j * 2 + 1, none⟩ = some (.string (V j))

theorem cell_lt {W : World} {b off : Nat} {v : Value} (h : W.cell? ⟨b, off, none⟩ = some v) : b < W.heap.size := by
  rcases Nat.lt_or_ge b W.heap.size with h' | h'
  · exact h'
  · simp [World.cell?, Array.getElem?_eq_none h'] at h
theorem below_on {w w1 w2 : World} (h : Below w.heap.size w w1) (h2 : Below w1.heap.size w1 w2) : Below w.heap.size w w2 := h.trans (h2.mono h.size)
theorem cell_later {w w1 : World} {b off : Nat} {v : Value} (h : Below w.heap.size w w1) (hc : w.cell? ⟨b, off, none⟩ = some v) : w1.cell? ⟨b, off, none⟩ = some v := (h.cell (p := ⟨b, off, none⟩) (cell_lt hc)).trans hc

/-- How the search ends. -/
def SearchEnds (W : World) (N : Nat → ByteArray) (n : Nat) (z : List UInt8) (e : Ending) (w' : World) : Prop :=
  Below W.heap.size W w' ∧ ∃ i : Nat, i ≤ n ∧ (∀ t, t < i → Lib.compareBytes (N t).data.toList z < 0) ∧ (∀ t, i ≤ t → t < n → 0 ≤ Lib.compareBytes (N t).data.toList z) ∧
    e = .returned (.tuple #[.int .i64 i, .bool (decide (i < n ∧ Lib.compareBytes (N i).data.toList z = 0))])

set_option maxHeartbeats 1000000 in
theorem search_any (a : Option Addr) (n cap : Nat) (N V : Nat → ByteArray) (name : ByteArray) (w : World) (hn : n ≤ 1048577) (hs : Sorted (fun j => (N j).data.toList) n) (hr : RowP w a n N V) :
    Calls Try.prog 12 #[.slice a n cap, .string name, .func (.func 13) #[] #[]] w (SearchEnds w N n name.data.toList) := by
  have HR0 : Hid (RowP w a n N V) := hr
  have HS : Hid (Sorted (fun j => (N j).data.toList) n) := hs
  clear hr hs
  go_enter Try.func12, Try.ntmps12
  go_wp2
  go_loopw [9, 10] (fun s9 s10 wr => ∃ lo hi : Nat, s9 = .int .i64 lo ∧ s10 = .int .i64 hi ∧ lo ≤ hi ∧ hi ≤ n ∧ Hid (Below w.heap.size w wr) ∧
      Hid ((∀ t, t < lo → Lib.compareBytes (N t).data.toList name.data.toList < 0) ∧ (∀ t, hi ≤ t → t < n → 0 ≤ Lib.compareBytes (N t).data.toList name.data.toList)))
    (fun s9 s10 _ => (intOf s10 - intOf s9).toNat)
  case atStart => exact ⟨0, n, rfl, rfl, Nat.zero_le _, Nat.le_refl _, Below.refl _ _, ⟨fun t ht => absurd ht (Nat.not_lt_zero _), fun t h1 h2 => by omega⟩⟩
  case round =>
    obtain ⟨lo, hi, rfl, rfl, hlh, hin, HB, HI⟩ := hrel
    by_cases hlt : lo < hi
    · rcases HR0.out with h | ⟨b, off, rfl, hr⟩
      · omega
      have HR : Hid (∀ j, j < n → w.cell? ⟨b, off + j * 2, none⟩ = some (.string (N j)) ∧ w.cell? ⟨b, off + j * 2 + 1, none⟩ = some (.string (V j))) := hr
      clear hr
      have c0 := cell_later HB.out (HR.out ((lo + hi) / 2) (by omega)).1
      have c1 := cell_later HB.out (HR.out ((lo + hi) / 2) (by omega)).2
      by_cases hyx : Lib.compareBytes (N ((lo + hi) / 2)).data.toList name.data.toList < 0
      · go_wp2_with (go_at_call 13; refine (cmp_any _ _ _ _).mono ?_; rintro e w' ⟨rfl, hb'⟩; have HB' : Hid (Below w.heap.size w w') := below_on HB.out hb'; clear hb')
        go_roundw
        case rel => exact ⟨(lo + hi) / 2 + 1, hi, by go_num, rfl, by omega, hin, HB', ⟨fun t ht => HS.out.mono _ (show t ≤ (lo + hi) / 2 by omega) (by omega) hyx, HI.out.2⟩⟩
        case measure => simp [intOf]; omega
      · go_wp2_with (go_at_call 13; refine (cmp_any _ _ _ _).mono ?_; rintro e w' ⟨rfl, hb'⟩; have HB' : Hid (Below w.heap.size w w') := below_on HB.out hb'; clear hb')
        go_roundw
        case rel => exact ⟨lo, (lo + hi) / 2, rfl, by go_num, by omega, by omega, HB', ⟨HI.out.1, fun t h1 h2 => Int.not_lt.1 fun h => by have := HS.out.mono _ h1 h2 h; omega⟩⟩
        case measure => simp [intOf]; omega
    · obtain rfl : hi = lo := by omega
      by_cases hn1 : hi < n
      · rcases HR0.out with h | ⟨b, off, rfl, hr⟩
        · omega
        have HR : Hid (∀ j, j < n → w.cell? ⟨b, off + j * 2, none⟩ = some (.string (N j)) ∧ w.cell? ⟨b, off + j * 2 + 1, none⟩ = some (.string (V j))) := hr
        clear hr
        have c0 := cell_later HB.out (HR.out hi hn1).1
        have c1 := cell_later HB.out (HR.out hi hn1).2
        by_cases hyx : Lib.compareBytes (N hi).data.toList name.data.toList = 0
        · go_wp2_with (go_at_call 13; refine (cmp_any _ _ _ _).mono ?_; rintro e w' ⟨rfl, hb'⟩; have HB' : Hid (Below w.heap.size w w') := below_on HB.out hb'; clear hb')
          go_ret2
          exact ⟨HB'.out, hi, hin, HI.out.1, HI.out.2, by simp [hn1, hyx]⟩
        · have hyx' : (Lib.compareBytes (N hi).data.toList name.data.toList == 0) = false := by simpa using hyx
          go_wp2_with (go_at_call 13; refine (cmp_any _ _ _ _).mono ?_; rintro e w' ⟨rfl, hb'⟩; have HB' : Hid (Below w.heap.size w w') := below_on HB.out hb'; clear hb')
          go_ret2
          exact ⟨HB'.out, hi, hin, HI.out.1, HI.out.2, by simp [hn1, hyx]⟩
      · go_wp2
        go_ret2
        exact ⟨HB.out, hi, hin, HI.out.1, HI.out.2, by simp [hn1]⟩
end Go.Proofs.Qxb6617583a
