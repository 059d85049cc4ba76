import Derived.Test.Qxb6616362aWalkA
namespace Go.Proofs.Qxb6616362a
open Go.ChangeShapes Go.WideShapes Go.ChangeAt Go.RowKit
set_option linter.unusedVariables false

theorem apart_2_6 (w : World) (o0 o1 o3 o4 o5 o7 o8 o9 o10 o11 o12 o13 o14 o15 : Obj) (c2 c6 : Array Value) (h6 : c6.size ≠ 0) :
    (binOp .eql 35 (.pointer (some ⟨w.heap.size + 1 + 1, 0, none⟩)) (.pointer (some ⟨w.heap.size + 1 + 1 + 1 + 1 + 1 + 1, 0, none⟩))).run Try.prog ((((((((((((((((w.alloc o0).alloc o1).alloc (.cells c2 3)).alloc o3).alloc o4).alloc o5).alloc (.cells c6 3)).alloc o7).alloc o8).alloc o9).alloc o10).alloc o11).alloc o12).alloc o13).alloc o14).alloc o15) = .ok (.bool false) ((((((((((((((((w.alloc o0).alloc o1).alloc (.cells c2 3)).alloc o3).alloc o4).alloc o5).alloc (.cells c6 3)).alloc o7).alloc o8).alloc o9).alloc o10).alloc o11).alloc o12).alloc o13).alloc o14).alloc o15) :=
  eql35_far (by omega) (NewAt.here (by simp)).up.up.up.up.up.up.up.up.up.up.up.up.up (OldAt.here (by simp) h6).up.up.up.up.up.up.up.up.up
theorem apart_2_10 (w : World) (o0 o1 o3 o4 o5 o6 o7 o8 o9 o11 o12 o13 o14 o15 : Obj) (c2 c10 : Array Value) (h10 : c10.size ≠ 0) :
    (binOp .eql 35 (.pointer (some ⟨w.heap.size + 1 + 1, 0, none⟩)) (.pointer (some ⟨w.heap.size + 1 + 1 + 1 + 1 + 1 + 1 + 1 + 1 + 1 + 1, 0, none⟩))).run Try.prog ((((((((((((((((w.alloc o0).alloc o1).alloc (.cells c2 3)).alloc o3).alloc o4).alloc o5).alloc o6).alloc o7).alloc o8).alloc o9).alloc (.cells c10 3)).alloc o11).alloc o12).alloc o13).alloc o14).alloc o15) = .ok (.bool false) ((((((((((((((((w.alloc o0).alloc o1).alloc (.cells c2 3)).alloc o3).alloc o4).alloc o5).alloc o6).alloc o7).alloc o8).alloc o9).alloc (.cells c10 3)).alloc o11).alloc o12).alloc o13).alloc o14).alloc o15) :=
  eql35_far (by omega) (NewAt.here (by simp)).up.up.up.up.up.up.up.up.up.up.up.up.up (OldAt.here (by simp) h10).up.up.up.up.up
theorem apart_6_10 (w : World) (o0 o1 o2 o3 o4 o5 o7 o8 o9 o11 o12 o13 o14 o15 : Obj) (c6 c10 : Array Value) (h10 : c10.size ≠ 0) :
    (binOp .eql 35 (.pointer (some ⟨w.heap.size + 1 + 1 + 1 + 1 + 1 + 1, 0, none⟩)) (.pointer (some ⟨w.heap.size + 1 + 1 + 1 + 1 + 1 + 1 + 1 + 1 + 1 + 1, 0, none⟩))).run Try.prog ((((((((((((((((w.alloc o0).alloc o1).alloc o2).alloc o3).alloc o4).alloc o5).alloc (.cells c6 3)).alloc o7).alloc o8).alloc o9).alloc (.cells c10 3)).alloc o11).alloc o12).alloc o13).alloc o14).alloc o15) = .ok (.bool false) ((((((((((((((((w.alloc o0).alloc o1).alloc o2).alloc o3).alloc o4).alloc o5).alloc (.cells c6 3)).alloc o7).alloc o8).alloc o9).alloc (.cells c10 3)).alloc o11).alloc o12).alloc o13).alloc o14).alloc o15) :=
  eql35_far (by omega) (NewAt.here (by simp)).up.up.up.up.up.up.up.up.up (OldAt.here (by simp) h10).up.up.up.up.up
theorem below_16 (w : World) (o0 o1 o2 o3 o4 o5 o6 o7 o8 o9 o10 o11 o12 o13 o14 o15 : Obj) : Below w.heap.size w ((((((((((((((((w.alloc o0).alloc o1).alloc o2).alloc o3).alloc o4).alloc o5).alloc o6).alloc o7).alloc o8).alloc o9).alloc o10).alloc o11).alloc o12).alloc o13).alloc o14).alloc o15) :=
  ((((((((((((((((Below.refl _ _).alloc (Nat.le_refl _) _).alloc (by simp) _).alloc (by simp; omega) _).alloc (by simp; omega) _).alloc (by simp; omega) _).alloc (by simp; omega) _).alloc (by simp; omega) _).alloc (by simp; omega) _).alloc (by simp; omega) _).alloc (by simp; omega) _).alloc (by simp; omega) _).alloc (by simp; omega) _).alloc (by simp; omega) _).alloc (by simp; omega) _).alloc (by simp; omega) _).alloc (by simp; omega) _
theorem cell_16 (w : World) (o0 o1 o2 o3 o4 o5 o6 o7 o8 o9 o10 o11 o12 o13 o14 o15 : Obj) (y oy : Nat) (h : y < w.heap.size) : ((((((((((((((((w.alloc o0).alloc o1).alloc o2).alloc o3).alloc o4).alloc o5).alloc o6).alloc o7).alloc o8).alloc o9).alloc o10).alloc o11).alloc o12).alloc o13).alloc o14).alloc o15).cell? ⟨y, oy, none⟩ = w.cell? ⟨y, oy, none⟩ :=
  (below_16 w o0 o1 o2 o3 o4 o5 o6 o7 o8 o9 o10 o11 o12 o13 o14 o15).cell h

set_option maxHeartbeats 800000 in
theorem bytes16_any (k : Int) (s : ByteArray) (am : Int) (cv cver : Option Addr) (a b : Int) (w : World) (hs : s.size ≤ maxLen) (hcv : IsStr w cv) :
    Calls Try.prog 16 #[.int .i64 k, .string s, .int .i64 am, .pointer cv, .pointer cver, .int .i64 a, .int .i64 b] w fun e w' => ∃ r : Bool, e = .returned (.bool r) ∧ w' = w := by
  unfold maxLen at hs
  rcases hcv with rfl | ⟨x, o, t, rfl, hc, ht⟩
  · go_enter Try.func16, Try.ntmps16
    go_wp2
    all_goals (go_ret; exact ⟨_, rfl, rfl⟩)
  · unfold maxLen at ht
    go_enter Try.func16, Try.ntmps16
    go_wp2
    all_goals (go_ret; exact ⟨_, rfl, rfl⟩)

set_option maxHeartbeats 1600000 in
theorem apart_nn (k : Int) (s : ByteArray) (am : Int) (a b : Int) (w : World) (hs : s.size ≤ maxLen) (HC : IsStr w (none)) :
    Calls Try.prog 5 #[.int .i64 k, .string s, .int .i64 am, .pointer (none), .pointer (none), .int .i64 a, .int .i64 b] w fun e w' => e = .returned (.bool true) ∧ Below w.heap.size w w' := by
  have HS : Hid (s.size ≤ maxLen) := hs
  unfold maxLen at hs
  go_enter Try.func5, Try.ntmps5
  go_wp2_with (first
      | (go_at_call 16; refine (bytes16_any _ _ _ _ _ _ _ _ HS.out HC).mono ?_; rintro e w' ⟨r, rfl, rfl⟩)
      | (go_at_call 14; refine (ifVersion_any _ _ _ _ _ _ _).mono ?_; rintro e w' ⟨rfl, rfl⟩)
      | (go_at_call 15; refine (opKeeps_any _ _ _ _ _ _).mono ?_; rintro e w' ⟨rfl, rfl⟩))
  all_goals first | (go_ret; exact ⟨rfl, Below.refl _ _⟩) | skip
  rw [apart_2_6 _ _ _ _ _ _ _ _ _ _ _ _ _ _ _ _ _ (by simp)]
  go_wp2
  rw [apart_2_10 _ _ _ _ _ _ _ _ _ _ _ _ _ _ _ _ _ (by simp)]
  go_wp2
  rw [apart_6_10 _ _ _ _ _ _ _ _ _ _ _ _ _ _ _ _ _ (by simp)]
  go_wp2
  go_ret
  exact ⟨rfl, below_16 _ _ _ _ _ _ _ _ _ _ _ _ _ _ _ _ _⟩

set_option maxHeartbeats 1600000 in
theorem apart_ny (k : Int) (s : ByteArray) (am : Int) (a b : Int) (w : World) (hs : s.size ≤ maxLen) (y oy : Nat) (n : Int) (hy : w.cell? ⟨y, oy, none⟩ = some (.int .i64 n)) (HC : IsStr w (none)) :
    Calls Try.prog 5 #[.int .i64 k, .string s, .int .i64 am, .pointer (none), .pointer (some ⟨y, oy, none⟩), .int .i64 a, .int .i64 b] w fun e w' => e = .returned (.bool true) ∧ Below w.heap.size w w' := by
  have HS : Hid (s.size ≤ maxLen) := hs
  unfold maxLen at hs
  have hylt : y < w.heap.size := cell_lt hy
  have hy16 := fun o0 o1 o2 o3 o4 o5 o6 o7 o8 o9 o10 o11 o12 o13 o14 o15 => (cell_16 w o0 o1 o2 o3 o4 o5 o6 o7 o8 o9 o10 o11 o12 o13 o14 o15 y oy hylt).trans hy
  go_enter Try.func5, Try.ntmps5
  go_wp2_with (first
      | (go_at_call 16; refine (bytes16_any _ _ _ _ _ _ _ _ HS.out HC).mono ?_; rintro e w' ⟨r, rfl, rfl⟩)
      | (go_at_call 14; refine (ifVersion_any _ _ _ _ _ _ _).mono ?_; rintro e w' ⟨rfl, rfl⟩)
      | (go_at_call 15; refine (opKeeps_any _ _ _ _ _ _).mono ?_; rintro e w' ⟨rfl, rfl⟩))
  all_goals first | (go_ret; exact ⟨rfl, Below.refl _ _⟩) | skip
  rw [apart_2_6 _ _ _ _ _ _ _ _ _ _ _ _ _ _ _ _ _ (by simp)]
  go_wp2
  rw [apart_2_10 _ _ _ _ _ _ _ _ _ _ _ _ _ _ _ _ _ (by simp)]
  go_wp2
  rw [apart_6_10 _ _ _ _ _ _ _ _ _ _ _ _ _ _ _ _ _ (by simp)]
  go_wp2
  go_ret
  exact ⟨rfl, below_16 _ _ _ _ _ _ _ _ _ _ _ _ _ _ _ _ _⟩

set_option maxHeartbeats 1600000 in
theorem apart_yn (k : Int) (s : ByteArray) (am : Int) (a b : Int) (w : World) (hs : s.size ≤ maxLen) (x o : Nat) (t : ByteArray) (hc : w.cell? ⟨x, o, none⟩ = some (.string t)) (ht : t.size ≤ maxLen) (HC : IsStr w (some ⟨x, o, none⟩)) :
    Calls Try.prog 5 #[.int .i64 k, .string s, .int .i64 am, .pointer (some ⟨x, o, none⟩), .pointer (none), .int .i64 a, .int .i64 b] w fun e w' => e = .returned (.bool true) ∧ Below w.heap.size w w' := by
  have HS : Hid (s.size ≤ maxLen) := hs
  unfold maxLen at hs
  unfold maxLen at ht
  go_enter Try.func5, Try.ntmps5
  go_wp2_with (first
      | (go_at_call 16; refine (bytes16_any _ _ _ _ _ _ _ _ HS.out HC).mono ?_; rintro e w' ⟨r, rfl, rfl⟩)
      | (go_at_call 14; refine (ifVersion_any _ _ _ _ _ _ _).mono ?_; rintro e w' ⟨rfl, rfl⟩)
      | (go_at_call 15; refine (opKeeps_any _ _ _ _ _ _).mono ?_; rintro e w' ⟨rfl, rfl⟩))
  all_goals first | (go_ret; exact ⟨rfl, Below.refl _ _⟩) | skip
  rw [apart_2_6 _ _ _ _ _ _ _ _ _ _ _ _ _ _ _ _ _ (by simp)]
  go_wp2
  rw [apart_2_10 _ _ _ _ _ _ _ _ _ _ _ _ _ _ _ _ _ (by simp)]
  go_wp2
  rw [apart_6_10 _ _ _ _ _ _ _ _ _ _ _ _ _ _ _ _ _ (by simp)]
  go_wp2
  go_ret
  exact ⟨rfl, below_16 _ _ _ _ _ _ _ _ _ _ _ _ _ _ _ _ _⟩

set_option maxHeartbeats 1600000 in
theorem apart_yy (k : Int) (s : ByteArray) (am : Int) (a b : Int) (w : World) (hs : s.size ≤ maxLen) (x o : Nat) (t : ByteArray) (hc : w.cell? ⟨x, o, none⟩ = some (.string t)) (ht : t.size ≤ maxLen) (y oy : Nat) (n : Int) (hy : w.cell? ⟨y, oy, none⟩ = some (.int .i64 n)) (HC : IsStr w (some ⟨x, o, none⟩)) :
    Calls Try.prog 5 #[.int .i64 k, .string s, .int .i64 am, .pointer (some ⟨x, o, none⟩), .pointer (some ⟨y, oy, none⟩), .int .i64 a, .int .i64 b] w fun e w' => e = .returned (.bool true) ∧ Below w.heap.size w w' := by
  have HS : Hid (s.size ≤ maxLen) := hs
  unfold maxLen at hs
  unfold maxLen at ht
  have hylt : y < w.heap.size := cell_lt hy
  have hy16 := fun o0 o1 o2 o3 o4 o5 o6 o7 o8 o9 o10 o11 o12 o13 o14 o15 => (cell_16 w o0 o1 o2 o3 o4 o5 o6 o7 o8 o9 o10 o11 o12 o13 o14 o15 y oy hylt).trans hy
  go_enter Try.func5, Try.ntmps5
  go_wp2_with (first
      | (go_at_call 16; refine (bytes16_any _ _ _ _ _ _ _ _ HS.out HC).mono ?_; rintro e w' ⟨r, rfl, rfl⟩)
      | (go_at_call 14; refine (ifVersion_any _ _ _ _ _ _ _).mono ?_; rintro e w' ⟨rfl, rfl⟩)
      | (go_at_call 15; refine (opKeeps_any _ _ _ _ _ _).mono ?_; rintro e w' ⟨rfl, rfl⟩))
  all_goals first | (go_ret; exact ⟨rfl, Below.refl _ _⟩) | skip
  rw [apart_2_6 _ _ _ _ _ _ _ _ _ _ _ _ _ _ _ _ _ (by simp)]
  go_wp2
  rw [apart_2_10 _ _ _ _ _ _ _ _ _ _ _ _ _ _ _ _ _ (by simp)]
  go_wp2
  rw [apart_6_10 _ _ _ _ _ _ _ _ _ _ _ _ _ _ _ _ _ (by simp)]
  go_wp2
  go_ret
  exact ⟨rfl, below_16 _ _ _ _ _ _ _ _ _ _ _ _ _ _ _ _ _⟩

theorem apart_any (k : Int) (s : ByteArray) (am : Int) (cv cver : Option Addr) (a b : Int) (w : World) (hs : s.size ≤ maxLen) (hcv : IsStr w cv) (hver : IsInt w cver) :
    Calls Try.prog 5 #[.int .i64 k, .string s, .int .i64 am, .pointer cv, .pointer cver, .int .i64 a, .int .i64 b] w fun e w' => e = .returned (.bool true) ∧ Below w.heap.size w w' := by
  have HC : IsStr w cv := hcv
  rcases hcv with rfl | ⟨x, o, t, rfl, hc, ht⟩
  · rcases hver with rfl | ⟨y, oy, n, rfl, hy⟩
    · exact apart_nn k s am a b w hs HC
    · exact apart_ny k s am a b w hs y oy n hy HC
  · rcases hver with rfl | ⟨y, oy, n, rfl, hy⟩
    · exact apart_yn k s am a b w hs x o t hc ht HC
    · exact apart_yy k s am a b w hs x o t hc ht y oy n hy HC
end Go.Proofs.Qxb6616362a
