import Derived.Test.Qxb6617583aWalkC
namespace Go.Proofs.Qxb6617583a
open Go.ChangeShapes Go.WideShapes Go.ChangeAt Go.RowKit
set_option linter.unusedVariables false

theorem below_drewN (w : World) (B n : Nat) : Below B w (w.drewN n) := ⟨rfl, rfl, rfl, Nat.le_refl _, fun _ _ => rfl⟩

/-- What find answers. -/
def FindAns (N V : Nat → ByteArray) (n : Nat) (name nm vl : ByteArray) (ok : Bool) : Prop :=
  (∃ i, i < n ∧ N i = name ∧ (∀ t, t < i → N t ≠ name) ∧ nm = N i ∧ vl = V i ∧ ok = true) ∨ ((∀ t, t < n → N t ≠ name) ∧ nm = ⟨#[]⟩ ∧ vl = ⟨#[]⟩ ∧ ok = false)
theorem FindEnds.ans {W : World} {N V : Nat → ByteArray} {n : Nat} {name : ByteArray} {e : Ending} {w' : World} (h : FindEnds W N V n name e w') :
    ∃ nm vl ok, e = .returned (.tuple #[.agg #[.string nm, .string vl], .bool ok]) ∧ FindAns N V n name nm vl ok ∧ Below W.heap.size W w' := by
  obtain ⟨hb, ⟨i, h1, h2, h3, rfl⟩ | ⟨h1, rfl⟩⟩ := h
  · exact ⟨_, _, _, rfl, .inl ⟨i, h1, h2, h3, rfl, rfl, rfl⟩, hb⟩
  · exact ⟨_, _, _, rfl, .inr ⟨h1, rfl, rfl, rfl⟩, hb⟩

set_option maxHeartbeats 2000000 in
theorem first_big (a0 a1 : Option Addr) (l0 c0 l1 c1 : Nat) (N V : Nat → ByteArray) (name : ByteArray) (k : Int) (w : World) (h0 : l0 ≤ maxLen) (h1 : l1 ≤ maxLen) (h2 : name.size ≤ maxLen) (r0 : RowS w a0 l0 N) (r1 : RowS w a1 l1 V)
    (hbig : 65536 < l0 ∨ 65536 < l1 ∨ 1048576 < name.size) :
    Calls Try.prog 3 #[.slice a0 l0 c0, .slice a1 l1 c1, .string name, .int .i64 k] w fun e w' => e = .returned (.bool true) ∧ Below w.heap.size w w' := by
  have H : Hid (Calls Try.prog 5 #[.slice a0 l0 c0, .slice a1 l1 c1, .string name, .int .i64 k] w (BoolEnds w)) := bytes5_any a0 a1 l0 c0 l1 c1 N V name k w h0 h1 h2 r0 r1
  unfold maxLen at h0 h1 h2
  clear r0 r1
  by_cases b0 : 65536 < l0
  · go_enter Try.func3, Try.ntmps3
    go_wp2_with (go_at_call 5; refine H.out.mono ?_; rintro e w' ⟨r, rfl, hw⟩; rw [hw]; clear hw)
    all_goals (go_ret; exact ⟨rfl, Below.refl _ _⟩)
  by_cases b1 : 65536 < l1
  · go_enter Try.func3, Try.ntmps3
    go_wp2_with (go_at_call 5; refine H.out.mono ?_; rintro e w' ⟨r, rfl, hw⟩; rw [hw]; clear hw)
    all_goals (go_ret; exact ⟨rfl, Below.refl _ _⟩)
  · have b2 : 1048576 < name.size := by omega
    go_enter Try.func3, Try.ntmps3
    go_wp2_with (go_at_call 5; refine H.out.mono ?_; rintro e w' ⟨r, rfl, hw⟩; rw [hw]; clear hw)
    all_goals (go_ret; exact ⟨rfl, Below.refl _ _⟩)

set_option maxHeartbeats 2000000 in
theorem first_out (a0 a1 : Option Addr) (l0 c0 l1 c1 : Nat) (N V : Nat → ByteArray) (name : ByteArray) (k : Int) (w : World) (h0 : l0 ≤ 65536) (h1 : l1 ≤ 65536) (h2 : name.size ≤ 1048576) (r0 : RowS w a0 l0 N) (r1 : RowS w a1 l1 V)
    (hout : l0 ≠ l1 ∨ k < 0 ∨ (l0 : Int) < k) :
    Calls Try.prog 3 #[.slice a0 l0 c0, .slice a1 l1 c1, .string name, .int .i64 k] w fun e w' => e = .returned (.bool true) ∧ Below w.heap.size w w' := by
  have H : Hid (Calls Try.prog 5 #[.slice a0 l0 c0, .slice a1 l1 c1, .string name, .int .i64 k] w (BoolEnds w)) := bytes5_any a0 a1 l0 c0 l1 c1 N V name k w (by unfold maxLen; omega) (by unfold maxLen; omega) (by unfold maxLen; omega) r0 r1
  have H6 : Hid (Calls Try.prog 6 #[.slice a0 l0 c0, .slice a1 l1 c1, .int .i64 name.size, .int .i64 0, .int .i64 0] w (BoolEnds w)) := big_any a0 a1 l0 c0 l1 c1 N V name.size 0 0 w h0 h1 (by omega) (by omega) (by omega) (by omega) (by omega) (by omega) r0 r1
  clear r0 r1
  by_cases b0 : l0 = l1
  · subst b0
    by_cases b1 : k < 0
    · go_enter Try.func3, Try.ntmps3
      go_wp2_with (first | (go_at_call 5; refine H.out.mono ?_; rintro e w' ⟨r, rfl, hw⟩; rw [hw]; clear hw) | (go_at_call 6; refine H6.out.mono ?_; rintro e w' ⟨r6, rfl, hw⟩; rw [hw]; clear hw))
      all_goals (go_ret; exact ⟨rfl, Below.refl _ _⟩)
    · have b2 : (l0 : Int) < k := by omega
      go_enter Try.func3, Try.ntmps3
      go_wp2_with (first | (go_at_call 5; refine H.out.mono ?_; rintro e w' ⟨r, rfl, hw⟩; rw [hw]; clear hw) | (go_at_call 6; refine H6.out.mono ?_; rintro e w' ⟨r6, rfl, hw⟩; rw [hw]; clear hw))
      all_goals (go_ret; exact ⟨rfl, Below.refl _ _⟩)
  · have b0' : ((l0 : Int) != (l1 : Int)) = true := by simp; omega
    go_enter Try.func3, Try.ntmps3
    go_wp2_with (first | (go_at_call 5; refine H.out.mono ?_; rintro e w' ⟨r, rfl, hw⟩; rw [hw]; clear hw) | (go_at_call 6; refine H6.out.mono ?_; rintro e w' ⟨r6, rfl, hw⟩; rw [hw]; clear hw))
    all_goals (go_ret; exact ⟨rfl, Below.refl _ _⟩)
end Go.Proofs.Qxb6617583a
