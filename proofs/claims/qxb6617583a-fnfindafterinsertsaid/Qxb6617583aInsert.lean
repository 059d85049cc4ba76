import Derived.Test.Qxb6617583aPlain2
namespace Go.Proofs.Qxb6617583a
open Go.ChangeShapes Go.WideShapes Go.ChangeAt Go.RowKit
set_option linter.unusedVariables false

set_option maxRecDepth 100000 in
set_option maxHeartbeats 4000000 in
theorem insert_big (a0 a1 : Option Addr) (l0 c0 l1 c1 : Nat) (N V : Nat → ByteArray) (name : ByteArray) (p : Int) (m v : ByteArray) (w : World) (h0 : l0 ≤ maxLen) (h1 : l1 ≤ maxLen) (h2 : name.size ≤ maxLen) (h3 : m.size ≤ maxLen) (h4 : v.size ≤ maxLen) (r0 : RowS w a0 l0 N) (r1 : RowS w a1 l1 V)
    (hbig : 65536 < l0 ∨ 65536 < l1 ∨ 1048576 < name.size ∨ 1048576 < m.size ∨ 1048576 < v.size) :
    Calls Try.prog 4 #[.slice a0 l0 c0, .slice a1 l1 c1, .string name, .int .i64 p, .string m, .string v] w fun e w' => e = .returned (.bool true) ∧ Below w.heap.size w w' := by
  have H : Hid (Calls Try.prog 10 #[.slice a0 l0 c0, .slice a1 l1 c1, .string name, .int .i64 p, .string m, .string v] w (BoolEnds w)) := bytes10_any a0 a1 l0 c0 l1 c1 N V name p m v w h0 h1 h2 h3 h4 r0 r1
  unfold maxLen at h0 h1 h2 h3 h4
  clear r0 r1
  by_cases b0 : 65536 < l0
  · clear hbig
    go_enter Try.func4, Try.ntmps4
    go_wp2_with (go_at_call 10; refine H.out.mono ?_; rintro e w' ⟨r, rfl, hw⟩; rw [hw]; clear hw)
    all_goals (go_ret; exact ⟨rfl, Below.refl _ _⟩)
  by_cases b1 : 65536 < l1
  · clear hbig
    go_enter Try.func4, Try.ntmps4
    go_wp2_with (go_at_call 10; refine H.out.mono ?_; rintro e w' ⟨r, rfl, hw⟩; rw [hw]; clear hw)
    all_goals (go_ret; exact ⟨rfl, Below.refl _ _⟩)
  by_cases b2 : 1048576 < name.size
  · clear hbig
    go_enter Try.func4, Try.ntmps4
    go_wp2_with (go_at_call 10; refine H.out.mono ?_; rintro e w' ⟨r, rfl, hw⟩; rw [hw]; clear hw)
    all_goals (go_ret; exact ⟨rfl, Below.refl _ _⟩)
  by_cases b3 : 1048576 < m.size
  · clear hbig
    go_enter Try.func4, Try.ntmps4
    go_wp2_with (go_at_call 10; refine H.out.mono ?_; rintro e w' ⟨r, rfl, hw⟩; rw [hw]; clear hw)
    all_goals (go_ret; exact ⟨rfl, Below.refl _ _⟩)
  · have b4 : 1048576 < v.size := by omega
    clear hbig
    go_enter Try.func4, Try.ntmps4
    go_wp2_with (go_at_call 10; refine H.out.mono ?_; rintro e w' ⟨r, rfl, hw⟩; rw [hw]; clear hw)
    all_goals (go_ret; exact ⟨rfl, Below.refl _ _⟩)

set_option maxRecDepth 100000 in
set_option maxHeartbeats 4000000 in
theorem insert_out (a0 a1 : Option Addr) (l0 c0 l1 c1 : Nat) (N V : Nat → ByteArray) (name : ByteArray) (p : Int) (m v : ByteArray) (w : World) (h0 : l0 ≤ 65536) (h1 : l1 ≤ 65536) (h2 : name.size ≤ 1048576) (h3 : m.size ≤ 1048576) (h4 : v.size ≤ 1048576) (r0 : RowS w a0 l0 N) (r1 : RowS w a1 l1 V)
    (hout : l0 ≠ l1 ∨ p < 0 ∨ (l0 : Int) < p) :
    Calls Try.prog 4 #[.slice a0 l0 c0, .slice a1 l1 c1, .string name, .int .i64 p, .string m, .string v] w fun e w' => e = .returned (.bool true) ∧ Below w.heap.size w w' := by
  have H : Hid (Calls Try.prog 10 #[.slice a0 l0 c0, .slice a1 l1 c1, .string name, .int .i64 p, .string m, .string v] w (BoolEnds w)) := bytes10_any a0 a1 l0 c0 l1 c1 N V name p m v w (by unfold maxLen; omega) (by unfold maxLen; omega) (by unfold maxLen; omega) (by unfold maxLen; omega) (by unfold maxLen; omega) r0 r1
  have H6 : Hid (Calls Try.prog 6 #[.slice a0 l0 c0, .slice a1 l1 c1, .int .i64 name.size, .int .i64 m.size, .int .i64 v.size] w (BoolEnds w)) := big_any a0 a1 l0 c0 l1 c1 N V name.size m.size v.size w h0 h1 (by omega) (by omega) (by omega) (by omega) (by omega) (by omega) r0 r1
  clear r0 r1
  by_cases b0 : l0 = l1
  · subst b0
    by_cases b1 : p < 0
    · clear hout
      go_enter Try.func4, Try.ntmps4
      go_wp2_with (first | (go_at_call 10; refine H.out.mono ?_; rintro e w' ⟨r, rfl, hw⟩; rw [hw]; clear hw) | (go_at_call 6; refine H6.out.mono ?_; rintro e w' ⟨r6, rfl, hw⟩; rw [hw]; clear hw))
      all_goals (go_ret; exact ⟨rfl, Below.refl _ _⟩)
    · have b2 : (l0 : Int) < p := by omega
      clear hout
      go_enter Try.func4, Try.ntmps4
      go_wp2_with (first | (go_at_call 10; refine H.out.mono ?_; rintro e w' ⟨r, rfl, hw⟩; rw [hw]; clear hw) | (go_at_call 6; refine H6.out.mono ?_; rintro e w' ⟨r6, rfl, hw⟩; rw [hw]; clear hw))
      all_goals (go_ret; exact ⟨rfl, Below.refl _ _⟩)
  · have b0' : ((l0 : Int) != (l1 : Int)) = true := by simp; omega
    clear hout
    go_enter Try.func4, Try.ntmps4
    go_wp2_with (first | (go_at_call 10; refine H.out.mono ?_; rintro e w' ⟨r, rfl, hw⟩; rw [hw]; clear hw) | (go_at_call 6; refine H6.out.mono ?_; rintro e w' ⟨r6, rfl, hw⟩; rw [hw]; clear hw))
    all_goals (go_ret; exact ⟨rfl, Below.refl _ _⟩)
end Go.Proofs.Qxb6617583a
