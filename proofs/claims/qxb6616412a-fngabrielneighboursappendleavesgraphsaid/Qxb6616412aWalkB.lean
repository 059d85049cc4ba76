import Derived.Test.Qxb6616412aWalkA
import Derived.OwnWalk
import Derived.ArgAppend
namespace Go.Proofs.Qxb6616412a
open Go.ChangeShapes Go.WideShapes Go.ChangeAt Go.RowKit
set_option linter.unusedVariables false

theorem Try.info3 : (Try.prog.info? 3).map (fun i => (i.zero, i.size, i.bytes)) = some (some (.int .i64 0), 1, 8) := by kernel_rfl

/-- The new row when its first k cells are filled. -/
def filled (F : Nat → Int) (len k : Nat) : List Value := (List.range len).map fun j => .int .i64 (if j < k then F j else 0)
theorem filled_zero (F : Nat → Int) (len : Nat) : filled F len 0 = List.replicate len (.int .i64 0) := by
  apply List.ext_getElem?
  intro j
  by_cases hj : j < len <;> simp [filled, hj]
theorem filled_get (F : Nat → Int) (len k j : Nat) (h : j < len) : (filled F len k)[j]? = some (.int .i64 (if j < k then F j else 0)) := by
  simp [filled, h]
theorem filled_set (F : Nat → Int) (len k : Nat) (h : k < len) : (filled F len k).set k (.int .i64 (F k)) = filled F len (k + 1) := by
  apply List.ext_getElem?
  intro j
  rw [List.getElem?_set]
  by_cases hjk : k = j
  · subst hjk
    simp [filled, h]
  · rw [if_neg hjk]
    by_cases hj : j < len
    · rw [filled_get F len k j hj, filled_get F len (k + 1) j hj]
      have : (j < k) ↔ (j < k + 1) := by omega
      simp [this]
    · simp [filled, hj]

theorem cell_lt {W : World} {b off : Nat} {v : Value} (h : W.cell? ⟨b, off, none⟩ = some v) : b < W.heap.size := by
  rcases Nat.lt_or_ge b W.heap.size with h' | h'
  · exact h'
  · simp [World.cell?, Array.getElem?_eq_none h'] at h

theorem clone_nil (w : World) : Calls Try.prog 7 #[.slice none 0 0] w fun e w' => e = .returned (.slice none 0 0) ∧ w' = w := by
  have hq := fun wx => Lib.run_eql_slice_nil (P := Try.prog) wx 22 3 none 0 0 0 0 Try.underlying22
  go_enter Try.func7, Try.ntmps7
  go_wp2
  go_ret
  exact ⟨rfl, rfl⟩

set_option maxHeartbeats 1000000 in
theorem clone_some (x : Addr) (len cap : Nat) (F : Nat → Int) (w : World) (hlen : len ≤ 65536) (hr : RowV w (some x) len F) :
    Calls Try.prog 7 #[.slice (some x) len cap] w fun e w' => e = .returned (.slice (some ⟨w.heap.size, 0, none⟩) len len) ∧
      w'.ownsRow w.heap.size 3 1 (.slice (some ⟨w.heap.size, 0, none⟩) len len) len (filled F len len) ∧ Below w.heap.size w w' := by
  have hq := fun wx => Lib.run_eql_slice_nil (P := Try.prog) wx 22 3 (some x) len cap 0 0 Try.underlying22
  obtain ⟨i0, hi, hz0, hz1, hz2⟩ := info_parts Try.info3
  go_enter Try.func7, Try.ntmps7
  go_wp2_with (first
    | (at_make; refine wpList_make_full _ rfl (.tmp 8) (.tmp 8) 22 rfl w.heap.size 3 i0 (.int .i64 0) 1 Try.underlying22 hi hz0 hz1 .i64 .i64 (len : Int) (len : Int) len rfl rfl rfl rfl (by rw [hz2]; omega) (by unfold maxLen; omega) (Nat.le_refl _) ?_; intro w1 hown hgrow))
  have hown0 : w1.ownsRow w.heap.size 3 1 (.slice (some ⟨w.heap.size, 0, none⟩) len len) len (filled F len 0) := by
    rw [filled_zero, ← toList_madeCells_one]
    simpa [Value.cells] using hown
  have hb0 : Below w.heap.size w w1 := (Below.refl _ _).grown hgrow (Nat.le_refl _) (fun k h => by cases h)
  clear hown hgrow
  have H0 : Hid (w1.ownsRow w.heap.size 3 1 (.slice (some ⟨w.heap.size, 0, none⟩) len len) len (filled F len 0)) := hown0
  have H1 : Hid (Below w.heap.size w w1) := hb0
  clear hown0 hb0
  go_loopw [4] (fun i wr => ∃ k : Nat, k ≤ len ∧ i = .int .i64 k ∧ Hid (wr.ownsRow w.heap.size 3 1 (.slice (some ⟨w.heap.size, 0, none⟩) len len) len (filled F len k)) ∧ Hid (Below w.heap.size w wr)) (fun i _ => len - (intOf i).toNat)
  case atStart => exact ⟨0, Nat.zero_le _, rfl, H0, H1⟩
  case round =>
    obtain ⟨k, hk, rfl, HO, HB⟩ := hrel
    by_cases hlt : k < len
    · rcases hr with h | ⟨b, off, e, hc⟩
      · omega
      · cases e
        have hblt : b < w.heap.size := cell_lt (hc k hlt)
        have ck : wr.cell? ⟨b, off + k, none⟩ = some (.int .i64 (F k)) := (HB.out.cell (p := ⟨b, off + k, none⟩) hblt).trans (hc k hlt)
        have cd : wr.cell? ⟨w.heap.size, k, none⟩ = some (.int .i64 0) := by
          rw [HO.out.cellAt k (by omega), filled_get F len k k hlt]; simp
        have cf : wr.frozen? ⟨w.heap.size, k, none⟩ = false := HO.out.frozenAt k
        go_wp2
        go_roundw
        case rel => exact ⟨k + 1, by omega, by go_num, by rw [← filled_set F len k hlt]; exact (HO.out.stored k _).1, Below.setCell HB.out (Nat.le_refl _) _⟩
        case measure => simp [intOf]; omega
    · have hkl : k = len := by omega
      subst hkl
      go_wp2
      go_ret
      exact ⟨rfl, HO.out, HB.out⟩

/-- The graph's memory: the struct at block g; its two rows. -/
structure Graph (w : World) (g : Nat) (fb : Nat) (len0 : Nat) (N : Nat → Nat) (ca : Option Addr) (len1 : Nat) (C : Nat → Int) : Prop where
  c1 : w.cell? ⟨g, 1, none⟩ = some (.slice (some ⟨fb, 0, none⟩) len0 len0)
  c2 : w.cell? ⟨g, 2, none⟩ = some (.slice ca len1 len1)
  rF : ∀ i, i < len0 → w.cell? ⟨fb, i, none⟩ = some (.int .i64 (N i))
  rC : ca = none ∧ len1 = 0 ∨ ∃ cb, ca = some ⟨cb, 0, none⟩ ∧ ∀ i, i < len1 → w.cell? ⟨cb, i, none⟩ = some (.int .i64 (C i))

theorem Graph.drewN {w : World} {g fb len0 : Nat} {N : Nat → Nat} {ca : Option Addr} {len1 : Nat} {C : Nat → Int} (G : Graph w g fb len0 N ca len1 C) (n : Nat) : Graph (w.drewN n) g fb len0 N ca len1 C :=
  ⟨G.c1, G.c2, G.rF, G.rC⟩

/-- How Neighbours ends. -/
def NbEnds (w : World) (C : Nat → Int) (lo m : Nat) (e : Ending) (w' : World) : Prop :=
  ∃ ao, e = .returned (.slice ao m m) ∧ (ao = none → m = 0) ∧ (m = 0 ∨ ∃ cb, ao = some ⟨cb, lo, none⟩ ∧ ∀ j, j < m → w.cell? ⟨cb, lo + j, none⟩ = some (.int .i64 (C (lo + j)))) ∧ ∃ n, w' = w.drewN n

set_option maxHeartbeats 1000000 in
theorem nb_any (g fb len0 len1 : Nat) (N : Nat → Nat) (C : Nat → Int) (ca : Option Addr) (w : World) (G : Graph w g fb len0 N ca len1 C) (hl0 : len0 ≤ 65536) (hl1 : len1 ≤ 65536) (i : Nat) (hi : i + 1 < len0) (lo m : Nat) (e0 : N i = lo) (e1 : N (i + 1) = lo + m) (h2 : lo + m ≤ len1) :
    Calls Try.prog 8 #[.pointer (some ⟨g, 0, none⟩), .int .i64 i] w (NbEnds w C lo m) := by
  have c1 := G.c1
  have c2 := G.c2
  have f0 := G.rF i (by omega)
  have f1 := G.rF (i + 1) (by omega)
  rw [e0] at f0
  rw [e1] at f1
  clear e0 e1
  rcases G.rC with ⟨rfl, rfl⟩ | ⟨cb, rfl, hC⟩
  · obtain rfl : lo = 0 := by omega
    obtain rfl : m = 0 := by omega
    go_enter Try.func8, Try.ntmps8
    go_wp2
    go_quiet (fail)
    go_wp2
    go_ret
    exact ⟨none, rfl, fun _ => rfl, .inl rfl, _, rfl⟩
  · have HC : Hid (∀ i, i < len1 → w.cell? ⟨cb, i, none⟩ = some (.int .i64 (C i))) := hC
    clear hC
    by_cases hm : m = 0
    · subst hm
      go_enter Try.func8, Try.ntmps8
      go_wp2
      go_quiet (fail)
      go_wp2
      go_ret
      exact ⟨_, rfl, fun h => rfl, .inl rfl, _, rfl⟩
    · go_enter Try.func8, Try.ntmps8
      go_wp2
      go_quiet (fail)
      go_wp2
      go_ret
      refine ⟨some ⟨cb, lo, none⟩, ?_, (fun h => by cases h), .inr ⟨cb, rfl, fun j hj => HC.out _ (by omega)⟩, _, rfl⟩
      simp
      done

/-- What the shape says of the row of numbers, in naturals. -/
structure GoodN (N : Nat → Nat) (len0 len1 : Nat) : Prop where
  one : 1 ≤ len0
  zero : N 0 = 0
  last : N (len0 - 1) = len1
  mono : ∀ i, i + 1 < len0 → N i ≤ N (i + 1)
  le : ∀ i, i < len0 → N i ≤ len1

def TileEnds (w : World) (e : Ending) (w' : World) : Prop := e = .returned (.bool true) ∧ ∃ n, w' = w.drewN n

set_option maxHeartbeats 2000000 in
theorem tile_any (g fb len0 len1 cap0 cap1 : Nat) (N : Nat → Nat) (C : Nat → Int) (ca a0 a1 : Option Addr) (w : World) (G : Graph w g fb len0 N ca len1 C) (hl0 : len0 ≤ 65536) (hl1 : len1 ≤ 65536)
    (hN : GoodN N len0 len1) (r0 : RowV w a0 len0 (fun i => N i)) (r1 : RowV w a1 len1 C) :
    Calls Try.prog 9 #[.pointer (some ⟨g, 0, none⟩), .slice a0 len0 cap0, .slice a1 len1 cap1] w (TileEnds w) := by
  have h1 := hN.one
  have hz : Hid (N 0 = 0) := hN.zero
  rcases r0 with h | ⟨b, off, rfl, hc0⟩
  · omega
  have HC0 : Hid (∀ i, i < len0 → w.cell? ⟨b, off + i, none⟩ = some (.int .i64 (N i))) := hc0
  clear hc0
  go_enter Try.func9, Try.ntmps9
  go_wp2
  go_loopw [7, 8] (fun pos i wr => ∃ k p : Nat, k + 1 ≤ len0 ∧ i = .int .i64 k ∧ pos = .int .i64 p ∧ Hid (p = N k) ∧ ∃ n, wr = w.drewN n) (fun _ i _ => len0 - (intOf i).toNat)
  case atStart => exact ⟨0, 0, h1, rfl, rfl, hz.out.symm, 0, rfl⟩
  case round =>
    obtain ⟨k, lo, hk, rfl, rfl, hp, n, rfl⟩ := hrel
    by_cases hlt : k + 1 < len0
    · obtain ⟨m, hm⟩ : ∃ m, N (k + 1) = lo + m := ⟨N (k + 1) - lo, by have := hN.mono k hlt; have := hp.out; omega⟩
      have hle : lo + m ≤ len1 := by have := hN.le (k + 1) hlt; omega
      have ck := HC0.out k (by omega)
      have ck1 := HC0.out (k + 1) hlt
      have HP : Hid (N k = lo) := hp.out.symm
      have HM : Hid (N (k + 1) = lo + m) := hm
      rw [HP.out] at ck
      rw [HM.out] at ck1
      clear hm hp
      go_wp2_with (go_at_call 8; refine (nb_any g fb len0 len1 N C ca _ (G.drewN n) hl0 hl1 k hlt lo m HP.out HM.out hle).mono ?_)
      rintro e w' ⟨ao, rfl, hnone, hcell, n2, rfl⟩
      clear hnone
      have HCell : Hid (m = 0 ∨ ∃ cb, ao = some ⟨cb, lo, none⟩ ∧ ∀ j, j < m → w.cell? ⟨cb, lo + j, none⟩ = some (.int .i64 (C (lo + j)))) := hcell
      clear hcell
      go_wp2
      go_quiet (fail)
      go_wp2
      go_loopw [7, 10] (fun pos j wr => ∃ t : Nat, t ≤ m ∧ j = .int .i64 t ∧ pos = .int .i64 ((lo + t : Nat) : Int) ∧ ∃ n, wr = w.drewN n) (fun _ j _ => m - (intOf j).toNat)
      case atStart => exact ⟨0, Nat.zero_le _, rfl, rfl, _, World.drewN_drewN _ _ _⟩
      case round =>
        obtain ⟨t, ht, rfl, rfl, n3, rfl⟩ := hrel
        by_cases htm : t < m
        · rcases HCell.out with h | ⟨cb, rfl, hcb⟩
          · omega
          rcases r1 with h | ⟨b1, off1, rfl, hc1⟩
          · omega
          have x1 := hcb t htm
          have x2 := hc1 (lo + t) (by omega)
          have hd : decide ((len1 : Int) ≤ (lo : Int) + (t : Int)) = false := decide_eq_false (by omega)
          clear hcb hc1
          go_wp2
          go_quiet (fail)
          go_wp2
          go_roundw
          case rel => exact ⟨t + 1, by omega, by go_num, by go_num, _, rfl⟩
          case measure => simp [intOf]; omega
        · obtain rfl : t = m := by omega
          go_wp2
          go_roundw
          case rel => exact ⟨k + 1, lo + t, by omega, by go_num, by go_num, HM.out.symm, _, rfl⟩
          case measure => simp [intOf]; omega
    · have hk1 : k = len0 - 1 := by omega
      have hpl : lo = len1 := by rw [hp.out, hk1]; exact hN.last
      subst hpl
      clear hp hk1
      go_wp2
      go_ret
      exact ⟨rfl, _, rfl⟩

theorem goodN_of {F : Nat → Int} {len0 len1 : Nat} (h : Good F len0 len1) : GoodN (fun i => (F i).toNat) len0 len1 ∧ ∀ i, i < len0 → F i = ((F i).toNat : Nat) := by
  obtain ⟨h1, h2, h3, h4⟩ := h
  have up : ∀ i, i < len0 → 0 ≤ F i := by
    intro i
    induction i with
    | zero => intro _; omega
    | succ i ih => intro hi; have := ih (by omega); have := h4 (i + 1) (by omega) hi; simp at this; omega
  have down : ∀ d i, i + d = len0 - 1 → F i ≤ len1 := by
    intro d
    induction d with
    | zero => intro i hi; have : i = len0 - 1 := by omega
              subst this; omega
    | succ d ih => intro i hi; have := ih (i + 1) (by omega); have := h4 (i + 1) (by omega) (by omega); simp at this; omega
  refine ⟨⟨h1, by simp [h2], by simp [h3], fun i hi => ?_, fun i hi => ?_⟩, fun i hi => ?_⟩
  · have := h4 (i + 1) (by omega) hi
    simp at this ⊢
    omega
  · have := down (len0 - 1 - i) i (by omega)
    show (F i).toNat ≤ len1
    omega
  · have := up i hi
    omega

end Go.Proofs.Qxb6616412a
