import Derived.Test.Qxb6616362aProg
import Derived.WalkKit
import Derived.ProofKit
import Derived.Below
import Derived.WalkSpells
import Derived.LaidEqlPtr
namespace Go.Proofs.Qxb6616362a
open Go.ChangeShapes Go.WideShapes Go.ChangeAt Go.RowKit
set_option linter.unusedVariables false

theorem Try.size3 : (Try.prog.info? 3).map (fun i => i.size) = some 1 := by kernel_rfl
theorem Try.size9 : (Try.prog.info? 9).map (fun i => i.size) = some 1 := by kernel_rfl

/-- '==' of a pointer to a string with itself. -/
theorem eql34_same (p : Option Addr) (W : World) : (binOp .eql 34 (.pointer p) (.pointer p)).run Try.prog W = .ok (.bool true) W := by
  cases p with
  | none => simpa using run_eql_pointer_nil (P := Try.prog) W 34 none Try.underlying34
  | some a =>
    obtain ⟨i, hi, _⟩ := Option.map_eq_some_iff.1 Try.size9
    exact run_eql_ptr_same (P := Try.prog) W a Try.underlying34 hi

/-- '==' of a pointer into a new block (no cell of it frozen) with a pointer into another block that holds cells. -/
theorem eql35_other {W : World} {a b : Addr} {ca cb : Array Value} {ta tb : TypeId} {fz : Nat × Nat} (hne : a.block ≠ b.block)
    (ha : W.heap[a.block]? = some (.cells ca ta (0, 0))) (hb : W.heap[b.block]? = some (.cells cb tb fz)) (hs : cb.size ≠ 0) :
    (binOp .eql 35 (.pointer (some a)) (.pointer (some b))).run Try.prog W = .ok (.bool false) W := by
  obtain ⟨j, hj, hjs⟩ := Option.map_eq_some_iff.1 Try.size3
  have hs' : (sameAddr a b).run Try.prog W = .ok false W := by
    obtain ⟨lo, hi⟩ := fz
    obtain ⟨n, hn⟩ := Nat.exists_eq_succ_of_ne_zero hs
    simp [sameAddr, hne, World.frozen?, ha, hb, noView, viewAt, World.shape?, mayBeOne, stringish, hn]
  have h : ∀ d : Nat, (Op.equalIn (d + 1) 35 (.pointer (some a)) (.pointer (some b))).run Try.prog W = .ok false W := fun d => by
    simp [Op.equalIn, run_underlying Try.underlying35, sizeOf, typeInfo, hj, hjs, hs']
  simp only [binOp]
  simp [Op.equal, Op.maxDepth, h 9999]

/-- Block r holds cells, none of them frozen. -/
def NewAt (W : World) (r : Nat) : Prop := ∃ ca ta, W.heap[r]? = some (.cells ca ta (0, 0))
/-- Block r holds cells, one at least. -/
def OldAt (W : World) (r : Nat) : Prop := ∃ cb tb fz, W.heap[r]? = some (.cells cb tb fz) ∧ cb.size ≠ 0
theorem heap_at (W : World) (o : Obj) : (W.alloc o).heap[W.heap.size]? = some o := by
  show (W.heap.push o)[W.heap.size]? = some o
  simp
theorem NewAt.here {W : World} {c : Array Value} {t : TypeId} {r : Nat} (h : r = W.heap.size) : NewAt (W.alloc (.cells c t)) r := ⟨c, t, by rw [h]; exact heap_at W _⟩
theorem NewAt.up {W : World} {o : Obj} {r : Nat} (h : NewAt W r) : NewAt (W.alloc o) r := by
  obtain ⟨c, t, h⟩ := h
  have hr : r < W.heap.size := by
    rcases Nat.lt_or_ge r W.heap.size with h' | h'
    · exact h'
    · rw [Array.getElem?_eq_none h'] at h; cases h
  exact ⟨c, t, by rw [Below.heap_alloc _ _ _ hr]; exact h⟩
theorem OldAt.here {W : World} {c : Array Value} {t : TypeId} {r : Nat} (h : r = W.heap.size) (hc : c.size ≠ 0) : OldAt (W.alloc (.cells c t)) r := ⟨c, t, (0, 0), by rw [h]; exact heap_at W _, hc⟩
theorem OldAt.up {W : World} {o : Obj} {r : Nat} (h : OldAt W r) : OldAt (W.alloc o) r := by
  obtain ⟨c, t, fz, h, hc⟩ := h
  have hr : r < W.heap.size := by
    rcases Nat.lt_or_ge r W.heap.size with h' | h'
    · exact h'
    · rw [Array.getElem?_eq_none h'] at h; cases h
  exact ⟨c, t, fz, by rw [Below.heap_alloc _ _ _ hr]; exact h, hc⟩
theorem OldAt.of_cell {W : World} {b off : Nat} {v : Value} (h : W.cell? ⟨b, off, none⟩ = some v) : OldAt W b := by
  have hb : ∃ cb tb fz, W.heap[b]? = some (.cells cb tb fz) ∧ cb[off]? = some v := by
    simp only [World.cell?] at h
    split at h
    · rename_i cb tb fz hb
      exact ⟨cb, tb, fz, hb, h⟩
    · cases h
  obtain ⟨cb, tb, fz, hb, hc⟩ := hb
  exact ⟨cb, tb, fz, hb, fun h0 => by rw [Array.getElem?_eq_none (by omega)] at hc; cases hc⟩
theorem cell_lt {W : World} {b off : Nat} {v : Value} (h : W.cell? ⟨b, off, none⟩ = some v) : b < W.heap.size := by
  obtain ⟨cb, tb, fz, hb, _⟩ := OldAt.of_cell h
  rcases Nat.lt_or_ge b W.heap.size with h' | h'
  · exact h'
  · rw [Array.getElem?_eq_none h'] at hb; cases hb
theorem eql35_far {W : World} {ra oa rb ob : Nat} (hne : ra ≠ rb) (ha : NewAt W ra) (hb : OldAt W rb) :
    (binOp .eql 35 (.pointer (some ⟨ra, oa, none⟩)) (.pointer (some ⟨rb, ob, none⟩))).run Try.prog W = .ok (.bool false) W := by
  obtain ⟨_, _, ha⟩ := ha
  obtain ⟨_, _, _, hb, hs⟩ := hb
  exact eql35_other hne ha hb hs

set_option maxHeartbeats 400000 in
theorem ifVersion_any (k : Int) (s : ByteArray) (am : Int) (cv cver : Option Addr) (n : Int) (w : World) :
    Calls Try.prog 14 #[.agg #[.int .i64 k, .string s, .int .i64 am, .pointer cv, .pointer cver], .int .i64 n] w fun e w' =>
      e = .returned (.agg #[.int .i64 k, .string s, .int .i64 am, .pointer cv, .pointer (some ⟨w.heap.size + 1, 0, none⟩)]) ∧
      w' = ((w.alloc (.cells #[.int .i64 k, .string s, .int .i64 am, .pointer cv, .pointer (some ⟨w.heap.size + 1, 0, none⟩)] 41)).alloc (.cells #[.int .i64 n] 3)).alloc (.cells #[.int .i64 k, .string s, .int .i64 am, .pointer cv, .pointer (some ⟨w.heap.size + 1, 0, none⟩)] 41) := by
  go_enter Try.func14, Try.ntmps14
  go_wp2
  exact bodyPost_ret (v := .agg #[.int .i64 k, .string s, .int .i64 am, .pointer cv, .pointer (some ⟨w.heap.size + 1, 0, none⟩)]) (by simp [results, Try.results14, go_sem]) rfl ⟨rfl, rfl⟩

set_option maxHeartbeats 400000 in
theorem opKeeps_any (k : Int) (s : ByteArray) (am : Int) (cv cver : Option Addr) (w : World) :
    Calls Try.prog 15 #[.agg #[.int .i64 k, .string s, .int .i64 am, .pointer cv, .pointer cver], .int .i64 k, .string s, .int .i64 am, .pointer cv] w fun e w' =>
      e = .returned (.bool true) ∧ w' = w.alloc (.cells #[.int .i64 k, .string s, .int .i64 am, .pointer cv, .pointer cver] 41) := by
  have hq := eql34_same cv
  go_enter Try.func15, Try.ntmps15
  go_wp2
  go_ret
  exact ⟨rfl, rfl⟩

/-- What the walks are told of a pointer to a string that came in. -/
def IsStr (w : World) (p : Option Addr) : Prop := p = none ∨ ∃ b off t, p = some ⟨b, off, none⟩ ∧ w.cell? ⟨b, off, none⟩ = some (.string t) ∧ t.size ≤ maxLen
/-- What the walks are told of a pointer to an int that came in. -/
def IsInt (w : World) (p : Option Addr) : Prop := p = none ∨ ∃ b off n, p = some ⟨b, off, none⟩ ∧ w.cell? ⟨b, off, none⟩ = some (.int .i64 n)

set_option maxHeartbeats 800000 in
theorem bytes13_any (k : Int) (s : ByteArray) (am : Int) (cv cver : Option Addr) (a b : Int) (w : World) (hs : s.size ≤ maxLen) (hcv : IsStr w cv) :
    Calls Try.prog 13 #[.int .i64 k, .string s, .int .i64 am, .pointer cv, .pointer cver, .int .i64 a, .int .i64 b] w fun e w' => ∃ r : Bool, e = .returned (.bool r) ∧ w' = w := by
  unfold maxLen at hs
  rcases hcv with rfl | ⟨x, o, t, rfl, hc, ht⟩
  · go_enter Try.func13, Try.ntmps13
    go_wp2
    all_goals (go_ret; exact ⟨_, rfl, rfl⟩)
  · unfold maxLen at ht
    go_enter Try.func13, Try.ntmps13
    go_wp2
    all_goals (go_ret; exact ⟨_, rfl, rfl⟩)

theorem far_5_9 (w : World) (o0 o1 o2 o3 o4 o6 o7 o8 o10 o11 o12 o13 : Obj) (c5 c9 : Array Value) (h9 : c9.size ≠ 0) :
    (binOp .eql 35 (.pointer (some ⟨w.heap.size + 1 + 1 + 1 + 1 + 1, 0, none⟩)) (.pointer (some ⟨w.heap.size + 1 + 1 + 1 + 1 + 1 + 1 + 1 + 1 + 1, 0, none⟩))).run Try.prog ((((((((((((((w.alloc o0).alloc o1).alloc o2).alloc o3).alloc o4).alloc (.cells c5 3)).alloc o6).alloc o7).alloc o8).alloc (.cells c9 3)).alloc o10).alloc o11).alloc o12).alloc o13) = .ok (.bool false) ((((((((((((((w.alloc o0).alloc o1).alloc o2).alloc o3).alloc o4).alloc (.cells c5 3)).alloc o6).alloc o7).alloc o8).alloc (.cells c9 3)).alloc o10).alloc o11).alloc o12).alloc o13) :=
  eql35_far (by omega) (NewAt.here (by simp)).up.up.up.up.up.up.up.up (OldAt.here (by simp) h9).up.up.up.up
theorem far_5_old (w : World) (o0 o1 o2 o3 o4 o6 o7 o8 o9 o10 o11 o12 o13 : Obj) (c5 : Array Value) (y oy : Nat) (hlt : y < w.heap.size) (hy : OldAt w y) :
    (binOp .eql 35 (.pointer (some ⟨w.heap.size + 1 + 1 + 1 + 1 + 1, 0, none⟩)) (.pointer (some ⟨y, oy, none⟩))).run Try.prog ((((((((((((((w.alloc o0).alloc o1).alloc o2).alloc o3).alloc o4).alloc (.cells c5 3)).alloc o6).alloc o7).alloc o8).alloc o9).alloc o10).alloc o11).alloc o12).alloc o13) = .ok (.bool false) ((((((((((((((w.alloc o0).alloc o1).alloc o2).alloc o3).alloc o4).alloc (.cells c5 3)).alloc o6).alloc o7).alloc o8).alloc o9).alloc o10).alloc o11).alloc o12).alloc o13) :=
  eql35_far (by omega) (NewAt.here (by simp)).up.up.up.up.up.up.up.up hy.up.up.up.up.up.up.up.up.up.up.up.up.up.up
theorem far_9_old (w : World) (o0 o1 o2 o3 o4 o5 o6 o7 o8 o10 o11 o12 o13 : Obj) (c9 : Array Value) (y oy : Nat) (hlt : y < w.heap.size) (hy : OldAt w y) :
    (binOp .eql 35 (.pointer (some ⟨w.heap.size + 1 + 1 + 1 + 1 + 1 + 1 + 1 + 1 + 1, 0, none⟩)) (.pointer (some ⟨y, oy, none⟩))).run Try.prog ((((((((((((((w.alloc o0).alloc o1).alloc o2).alloc o3).alloc o4).alloc o5).alloc o6).alloc o7).alloc o8).alloc (.cells c9 3)).alloc o10).alloc o11).alloc o12).alloc o13) = .ok (.bool false) ((((((((((((((w.alloc o0).alloc o1).alloc o2).alloc o3).alloc o4).alloc o5).alloc o6).alloc o7).alloc o8).alloc (.cells c9 3)).alloc o10).alloc o11).alloc o12).alloc o13) :=
  eql35_far (by omega) (NewAt.here (by simp)).up.up.up.up hy.up.up.up.up.up.up.up.up.up.up.up.up.up.up
theorem below_14 (w : World) (o0 o1 o2 o3 o4 o5 o6 o7 o8 o9 o10 o11 o12 o13 : Obj) : Below w.heap.size w ((((((((((((((w.alloc o0).alloc o1).alloc o2).alloc o3).alloc o4).alloc o5).alloc o6).alloc o7).alloc o8).alloc o9).alloc o10).alloc o11).alloc o12).alloc o13) :=
  ((((((((((((((Below.refl _ _).alloc (Nat.le_refl _) _).alloc (by simp) _).alloc (by simp; omega) _).alloc (by simp; omega) _).alloc (by simp; omega) _).alloc (by simp; omega) _).alloc (by simp; omega) _).alloc (by simp; omega) _).alloc (by simp; omega) _).alloc (by simp; omega) _).alloc (by simp; omega) _).alloc (by simp; omega) _).alloc (by simp; omega) _).alloc (by simp; omega) _

theorem cell_14 (w : World) (o0 o1 o2 o3 o4 o5 o6 o7 o8 o9 o10 o11 o12 o13 : Obj) (y oy : Nat) (h : y < w.heap.size) : ((((((((((((((w.alloc o0).alloc o1).alloc o2).alloc o3).alloc o4).alloc o5).alloc o6).alloc o7).alloc o8).alloc o9).alloc o10).alloc o11).alloc o12).alloc o13).cell? ⟨y, oy, none⟩ = w.cell? ⟨y, oy, none⟩ :=
  (below_14 w o0 o1 o2 o3 o4 o5 o6 o7 o8 o9 o10 o11 o12 o13).cell h

set_option maxHeartbeats 1600000 in
theorem twice_nn (k : Int) (s : ByteArray) (am : Int) (a b : Int) (w : World) (hs : s.size ≤ maxLen) (HC : IsStr w (none)) :
    Calls Try.prog 4 #[.int .i64 k, .string s, .int .i64 am, .pointer (none), .pointer (none), .int .i64 a, .int .i64 b] w fun e w' => e = .returned (.bool true) ∧ Below w.heap.size w w' := by
  have HS : Hid (s.size ≤ maxLen) := hs
  unfold maxLen at hs
  go_enter Try.func4, Try.ntmps4
  go_wp2_with (first
      | (go_at_call 13; refine (bytes13_any _ _ _ _ _ _ _ _ HS.out HC).mono ?_; rintro e w' ⟨r, rfl, rfl⟩)
      | (go_at_call 14; refine (ifVersion_any _ _ _ _ _ _ _).mono ?_; rintro e w' ⟨rfl, rfl⟩)
      | (go_at_call 15; refine (opKeeps_any _ _ _ _ _ _).mono ?_; rintro e w' ⟨rfl, rfl⟩))
  all_goals first | (go_ret; exact ⟨rfl, Below.refl _ _⟩) | skip
  rw [far_5_9 _ _ _ _ _ _ _ _ _ _ _ _ _ _ _ (by simp)]
  go_wp2
  go_ret
  exact ⟨rfl, below_14 _ _ _ _ _ _ _ _ _ _ _ _ _ _ _⟩

set_option maxHeartbeats 1600000 in
theorem twice_ny (k : Int) (s : ByteArray) (am : Int) (a b : Int) (w : World) (hs : s.size ≤ maxLen) (y oy : Nat) (n : Int) (hy : w.cell? ⟨y, oy, none⟩ = some (.int .i64 n)) (HC : IsStr w (none)) :
    Calls Try.prog 4 #[.int .i64 k, .string s, .int .i64 am, .pointer (none), .pointer (some ⟨y, oy, none⟩), .int .i64 a, .int .i64 b] w fun e w' => e = .returned (.bool true) ∧ Below w.heap.size w w' := by
  have HS : Hid (s.size ≤ maxLen) := hs
  unfold maxLen at hs
  have HY : Hid (OldAt w y) := OldAt.of_cell hy
  have hylt : y < w.heap.size := cell_lt hy
  have hy14 := fun o0 o1 o2 o3 o4 o5 o6 o7 o8 o9 o10 o11 o12 o13 => (cell_14 w o0 o1 o2 o3 o4 o5 o6 o7 o8 o9 o10 o11 o12 o13 y oy hylt).trans hy
  go_enter Try.func4, Try.ntmps4
  go_wp2_with (first
      | (go_at_call 13; refine (bytes13_any _ _ _ _ _ _ _ _ HS.out HC).mono ?_; rintro e w' ⟨r, rfl, rfl⟩)
      | (go_at_call 14; refine (ifVersion_any _ _ _ _ _ _ _).mono ?_; rintro e w' ⟨rfl, rfl⟩)
      | (go_at_call 15; refine (opKeeps_any _ _ _ _ _ _).mono ?_; rintro e w' ⟨rfl, rfl⟩))
  all_goals first | (go_ret; exact ⟨rfl, Below.refl _ _⟩) | skip
  rw [far_5_old _ _ _ _ _ _ _ _ _ _ _ _ _ _ _ _ _ hylt HY.out]
  go_wp2
  rw [far_9_old _ _ _ _ _ _ _ _ _ _ _ _ _ _ _ _ _ hylt HY.out]
  go_wp2
  rw [far_5_9 _ _ _ _ _ _ _ _ _ _ _ _ _ _ _ (by simp)]
  go_wp2
  go_ret
  exact ⟨rfl, below_14 _ _ _ _ _ _ _ _ _ _ _ _ _ _ _⟩

set_option maxHeartbeats 1600000 in
theorem twice_yn (k : Int) (s : ByteArray) (am : Int) (a b : Int) (w : World) (hs : s.size ≤ maxLen) (x o : Nat) (t : ByteArray) (hc : w.cell? ⟨x, o, none⟩ = some (.string t)) (ht : t.size ≤ maxLen) (HC : IsStr w (some ⟨x, o, none⟩)) :
    Calls Try.prog 4 #[.int .i64 k, .string s, .int .i64 am, .pointer (some ⟨x, o, none⟩), .pointer (none), .int .i64 a, .int .i64 b] w fun e w' => e = .returned (.bool true) ∧ Below w.heap.size w w' := by
  have HS : Hid (s.size ≤ maxLen) := hs
  unfold maxLen at hs
  unfold maxLen at ht
  go_enter Try.func4, Try.ntmps4
  go_wp2_with (first
      | (go_at_call 13; refine (bytes13_any _ _ _ _ _ _ _ _ HS.out HC).mono ?_; rintro e w' ⟨r, rfl, rfl⟩)
      | (go_at_call 14; refine (ifVersion_any _ _ _ _ _ _ _).mono ?_; rintro e w' ⟨rfl, rfl⟩)
      | (go_at_call 15; refine (opKeeps_any _ _ _ _ _ _).mono ?_; rintro e w' ⟨rfl, rfl⟩))
  all_goals first | (go_ret; exact ⟨rfl, Below.refl _ _⟩) | skip
  rw [far_5_9 _ _ _ _ _ _ _ _ _ _ _ _ _ _ _ (by simp)]
  go_wp2
  go_ret
  exact ⟨rfl, below_14 _ _ _ _ _ _ _ _ _ _ _ _ _ _ _⟩

set_option maxHeartbeats 1600000 in
theorem twice_yy (k : Int) (s : ByteArray) (am : Int) (a b : Int) (w : World) (hs : s.size ≤ maxLen) (x o : Nat) (t : ByteArray) (hc : w.cell? ⟨x, o, none⟩ = some (.string t)) (ht : t.size ≤ maxLen) (y oy : Nat) (n : Int) (hy : w.cell? ⟨y, oy, none⟩ = some (.int .i64 n)) (HC : IsStr w (some ⟨x, o, none⟩)) :
    Calls Try.prog 4 #[.int .i64 k, .string s, .int .i64 am, .pointer (some ⟨x, o, none⟩), .pointer (some ⟨y, oy, none⟩), .int .i64 a, .int .i64 b] w fun e w' => e = .returned (.bool true) ∧ Below w.heap.size w w' := by
  have HS : Hid (s.size ≤ maxLen) := hs
  unfold maxLen at hs
  unfold maxLen at ht
  have HY : Hid (OldAt w y) := OldAt.of_cell hy
  have hylt : y < w.heap.size := cell_lt hy
  have hy14 := fun o0 o1 o2 o3 o4 o5 o6 o7 o8 o9 o10 o11 o12 o13 => (cell_14 w o0 o1 o2 o3 o4 o5 o6 o7 o8 o9 o10 o11 o12 o13 y oy hylt).trans hy
  go_enter Try.func4, Try.ntmps4
  go_wp2_with (first
      | (go_at_call 13; refine (bytes13_any _ _ _ _ _ _ _ _ HS.out HC).mono ?_; rintro e w' ⟨r, rfl, rfl⟩)
      | (go_at_call 14; refine (ifVersion_any _ _ _ _ _ _ _).mono ?_; rintro e w' ⟨rfl, rfl⟩)
      | (go_at_call 15; refine (opKeeps_any _ _ _ _ _ _).mono ?_; rintro e w' ⟨rfl, rfl⟩))
  all_goals first | (go_ret; exact ⟨rfl, Below.refl _ _⟩) | skip
  rw [far_5_old _ _ _ _ _ _ _ _ _ _ _ _ _ _ _ _ _ hylt HY.out]
  go_wp2
  rw [far_9_old _ _ _ _ _ _ _ _ _ _ _ _ _ _ _ _ _ hylt HY.out]
  go_wp2
  rw [far_5_9 _ _ _ _ _ _ _ _ _ _ _ _ _ _ _ (by simp)]
  go_wp2
  go_ret
  exact ⟨rfl, below_14 _ _ _ _ _ _ _ _ _ _ _ _ _ _ _⟩


theorem twice_any (k : Int) (s : ByteArray) (am : Int) (cv cver : Option Addr) (a b : Int) (w : World) (hs : s.size ≤ maxLen) (hcv : IsStr w cv) (hver : IsInt w cver) :
    Calls Try.prog 4 #[.int .i64 k, .string s, .int .i64 am, .pointer cv, .pointer cver, .int .i64 a, .int .i64 b] w fun e w' => e = .returned (.bool true) ∧ Below w.heap.size w w' := by
  have HC : IsStr w cv := hcv
  rcases hcv with rfl | ⟨x, o, t, rfl, hc, ht⟩
  · rcases hver with rfl | ⟨y, oy, n, rfl, hy⟩
    · exact twice_nn k s am a b w hs HC
    · exact twice_ny k s am a b w hs y oy n hy HC
  · rcases hver with rfl | ⟨y, oy, n, rfl, hy⟩
    · exact twice_yn k s am a b w hs x o t hc ht HC
    · exact twice_yy k s am a b w hs x o t hc ht y oy n hy HC
end Go.Proofs.Qxb6616362a
