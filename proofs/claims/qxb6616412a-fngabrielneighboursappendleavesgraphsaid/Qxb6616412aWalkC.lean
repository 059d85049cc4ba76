import Derived.Test.Qxb6616412aWalkB
namespace Go.Proofs.Qxb6616412a
open Go.ChangeShapes Go.WideShapes Go.ChangeAt Go.RowKit
set_option linter.unusedVariables false

/-- How zzCloneInts ends. -/
def CloneEnds (w : World) (C : Nat → Int) (len : Nat) (e : Ending) (w' : World) : Prop :=
  ∃ ca, e = .returned (.slice ca len len) ∧ (ca = none ∧ len = 0 ∨ ∃ cb, ca = some ⟨cb, 0, none⟩ ∧ ∀ i, i < len → w'.cell? ⟨cb, i, none⟩ = some (.int .i64 (C i))) ∧ Below w.heap.size w w'

theorem clone_any (a : Option Addr) (len cap : Nat) (F : Nat → Int) (w : World) (hlen : len ≤ 65536) (hn : a = none → len = 0 ∧ cap = 0) (hr : RowV w a len F) :
    Calls Try.prog 7 #[.slice a len cap] w (CloneEnds w F len) := by
  cases a with
  | none =>
    obtain ⟨rfl, rfl⟩ := hn rfl
    refine (clone_nil w).mono ?_
    rintro e w' ⟨rfl, rfl⟩
    exact ⟨none, rfl, .inl ⟨rfl, rfl⟩, Below.refl _ _⟩
  | some x =>
    refine (clone_some x len cap F w hlen hr).mono ?_
    rintro e w' ⟨rfl, hown, hb⟩
    refine ⟨_, rfl, .inr ⟨_, rfl, fun i hi => ?_⟩, hb⟩
    rw [hown.cellAt i (by omega), filled_get F len len i hi, if_pos hi]

theorem Graph.below {W w : World} {g fb len0 : Nat} {N : Nat → Nat} {ca : Option Addr} {len1 : Nat} {C : Nat → Int} (G : Graph W g fb len0 N ca len1 C) (hb : Below W.heap.size W w) : Graph w g fb len0 N ca len1 C := by
  refine ⟨(hb.cell (p := ⟨g, 1, none⟩) (cell_lt G.c1)).trans G.c1, (hb.cell (p := ⟨g, 2, none⟩) (cell_lt G.c2)).trans G.c2, fun i hi => (hb.cell (p := ⟨fb, i, none⟩) (cell_lt (G.rF i hi))).trans (G.rF i hi), ?_⟩
  rcases G.rC with h | ⟨cb, e, h⟩
  · exact .inl h
  · exact .inr ⟨cb, e, fun i hi => (hb.cell (p := ⟨cb, i, none⟩) (cell_lt (h i hi))).trans (h i hi)⟩

theorem RowV.below {W w : World} {a : Option Addr} {len : Nat} {F : Nat → Int} (h : RowV W a len F) (hb : Below W.heap.size W w) : RowV w a len F := by
  rcases h with h | ⟨b, off, e, h⟩
  · exact .inl h
  · exact .inr ⟨b, off, e, fun i hi => (hb.cell (p := ⟨b, off + i, none⟩) (cell_lt (h i hi))).trans (h i hi)⟩

theorem below_drewN (w : World) (B n : Nat) : Below B w (w.drewN n) := ⟨rfl, rfl, rfl, Nat.le_refl _, fun _ _ => rfl⟩

set_option maxHeartbeats 1000000 in
theorem walk_big (a0 a1 : Option Addr) (len0 cap0 len1 cap1 : Nat) (v : Int) (w : World) (h0 : len0 ≤ maxLen) (h1 : len1 ≤ maxLen) (hbig : 65536 < len0 ∨ 65536 < len1) :
    Calls Try.prog 3 #[.slice a0 len0 cap0, .slice a1 len1 cap1, .int .i64 v] w fun e w' => e = .returned (.bool true) ∧ Below w.heap.size w w' := by
  have H0 : Hid (len0 ≤ maxLen) := h0
  have H1 : Hid (len1 ≤ maxLen) := h1
  unfold maxLen at h0 h1
  by_cases hb0 : 65536 < len0
  all_goals
    go_enter Try.func3, Try.ntmps3
    go_wp2_with (go_at_call 4; refine (bytes_any _ _ _ _ _ _ _ _ H0.out H1.out).mono ?_; rintro e w' ⟨r, rfl, rfl⟩)
    all_goals (go_ret; exact ⟨rfl, Below.refl _ _⟩)

/-- The cells of what Neighbours hands back. -/
def olds (C : Nat → Int) (lo m : Nat) : List Value := (List.range m).map fun j => .int .i64 (C (lo + j))

theorem olds_length (C : Nat → Int) (lo m : Nat) : (olds C lo m).length = m * 1 := by simp [olds]
theorem olds_cells {C : Nat → Int} {lo m : Nat} {wr W : World} {ao : Option Addr} (hW : Below wr.heap.size wr W)
    (h : m = 0 ∨ ∃ cb, ao = some ⟨cb, lo, none⟩ ∧ ∀ j, j < m → wr.cell? ⟨cb, lo + j, none⟩ = some (.int .i64 (C (lo + j)))) :
    ∀ b, ao = some b → ∀ j u, (olds C lo m)[j]? = some u → W.cell? (b.add j) = some u := by
  intro b hb j u hu
  have hj : j < m := by
    rcases Nat.lt_or_ge j m with h' | h'
    · exact h'
    · rw [List.getElem?_eq_none (by simp [olds]; omega)] at hu; cases hu
  rcases h with h | ⟨cb, e, h⟩
  · omega
  · rw [e] at hb
    cases hb
    have hu' : u = .int .i64 (C (lo + j)) := by simp [olds, hj] at hu; exact hu.symm
    rw [hu']
    have := h j hj
    rw [add_plain]
    exact (hW.cell (p := ⟨cb, lo + j, none⟩) (cell_lt this)).trans this
theorem one_cell {W : World} {v : Int} {b : Nat} (h : W.cell? ⟨b, 0, none⟩ = some (.int .i64 v)) : ∀ j u, [Value.int .i64 v][j]? = some u → W.cell? ((⟨b, 0, none⟩ : Addr).add j) = some u := by
  intro j u hj
  match j, hj with
  | 0, hj => simp at hj; subst hj; exact h
theorem cell_here (W : World) (v : Int) : (W.alloc (.cells #[.int .i64 v] 3)).cell? ⟨W.heap.size, 0, none⟩ = some (.int .i64 v) := by simp
theorem own_shape {W : World} {B : Nat} {v' : Value} {m : Nat} {C : Nat → Int} {lo : Nat} {v : Int} (h : W.ownsRow B 3 1 v' (m + 1) (olds C lo m ++ [.int .i64 v])) :
    ∃ gg cap, v' = .slice (some ⟨gg, 0, none⟩) (m + 1) cap ∧ W.cell? ⟨gg, m, none⟩ = some (.int .i64 v) := by
  rcases h.2 with ⟨_, h0⟩ | ⟨gg, cap, cur, rfl, _⟩
  · omega
  · refine ⟨gg, cap, rfl, ?_⟩
    rw [h.cellAt m (by omega), List.getElem?_append_right (by rw [olds_length]; omega), olds_length]
    simp

set_option maxHeartbeats 2000000 in
theorem walk_small (a0 a1 : Option Addr) (len0 cap0 len1 cap1 : Nat) (F C : Nat → Int) (v : Int) (w : World) (hn0 : a0 = none → len0 = 0 ∧ cap0 = 0) (hn1 : a1 = none → len1 = 0 ∧ cap1 = 0) (h0 : len0 ≤ 65536) (h1 : len1 ≤ 65536) (r0 : RowV w a0 len0 F) (r1 : RowV w a1 len1 C) :
    Calls Try.prog 3 #[.slice a0 len0 cap0, .slice a1 len1 cap1, .int .i64 v] w fun e w' => e = .returned (.bool true) ∧ Below w.heap.size w w' := by
  have H0 : Hid (len0 ≤ maxLen) := show len0 ≤ maxLen by unfold maxLen; omega
  have H1 : Hid (len1 ≤ maxLen) := show len1 ≤ maxLen by unfold maxLen; omega
  have HN0 : Hid (a0 = none → len0 = 0 ∧ cap0 = 0) := hn0
  have HN1 : Hid (a1 = none → len1 = 0 ∧ cap1 = 0) := hn1
  clear hn0 hn1
  go_enter Try.func3, Try.ntmps3
  go_wp2_with fail
  refine (bytes_any _ _ _ _ _ _ _ w H0.out H1.out).mono ?_
  rintro e w' ⟨r, rfl, hw⟩
  rw [hw]
  clear hw
  go_wp2_with fail
  · go_ret
    exact ⟨rfl, Below.refl _ _⟩
  refine (shape_any a0 a1 len0 cap0 len1 cap1 F C w H0.out H1.out r0 r1).mono ?_
  rintro e w' ⟨r2, rfl, hgood, n, hw⟩
  rw [hw]
  clear hw
  cases r2 with
  | false =>
    clear hgood
    go_wp2
    go_ret
    exact ⟨rfl, below_drewN _ _ _⟩
  | true =>
    obtain ⟨hN, hFN⟩ := goodN_of (hgood rfl)
    clear hgood
    have HN : Hid (GoodN (fun i => (F i).toNat) len0 len1) := hN
    clear hN
    generalize hNe : (fun i => (F i).toNat) = N at HN
    have hFN' : Hid (∀ i, i < len0 → F i = (N i : Int)) := fun i hi => by rw [← hNe]; exact hFN i hi
    clear hFN hNe
    go_wp2_with fail
    refine (clone_any a0 len0 cap0 F (w.drewN n) h0 HN0.out r0).mono ?_
    rintro e w1 ⟨fa, rfl, hfa, hb1⟩
    have HB1 : Hid (Below w.heap.size w w1) := show Below w.heap.size w w1 from (below_drewN w _ n).trans hb1
    have HFA : Hid (∃ fb, fa = some ⟨fb, 0, none⟩ ∧ ∀ i, i < len0 → w1.cell? ⟨fb, i, none⟩ = some (.int .i64 (N i))) := by
      rcases hfa with ⟨_, h⟩ | ⟨fb, e, h⟩
      · have := HN.out.one; omega
      · exact ⟨fb, e, fun i hi => by rw [h i hi, hFN'.out i hi]⟩
    clear hfa hb1
    obtain ⟨fb, rfl, hF1⟩ := HFA.out
    have HF1 : Hid (∀ i, i < len0 → w1.cell? ⟨fb, i, none⟩ = some (.int .i64 (N i))) := hF1
    clear hF1 HFA
    have hr1 : RowV w1 a1 len1 C := r1.below HB1.out
    go_wp2_with fail
    refine (clone_any a1 len1 cap1 C w1 h1 HN1.out hr1).mono ?_
    rintro e w2 ⟨ca, rfl, hca, hb2⟩
    have HB2 : Hid (Below w1.heap.size w1 w2) := hb2
    have HCA : Hid (ca = none ∧ len1 = 0 ∨ ∃ cb, ca = some ⟨cb, 0, none⟩ ∧ ∀ i, i < len1 → w2.cell? ⟨cb, i, none⟩ = some (.int .i64 (C i))) := hca
    clear hca hb2
    go_wp2_with fail
    refine (newGabriel_any (some ⟨fb, 0, none⟩) ca len0 len0 len1 len1 w2).mono ?_
    rintro e w3 ⟨rfl, hw3⟩
    have G : Graph w3 w2.heap.size fb len0 N ca len1 C := by
      have hb3 : Below w2.heap.size w2 w3 := by rw [hw3]; exact (Below.refl _ _).alloc (Nat.le_refl _) _
      refine ⟨by rw [hw3]; simp, by rw [hw3]; simp, fun i hi => ?_, ?_⟩
      · have x1 := HF1.out i hi
        have x2 := (HB2.out.cell (p := ⟨fb, i, none⟩) (cell_lt x1)).trans x1
        exact (hb3.cell (p := ⟨fb, i, none⟩) (cell_lt x2)).trans x2
      · rcases HCA.out with h | ⟨cb, e, h⟩
        · exact .inl h
        · exact .inr ⟨cb, e, fun i hi => (hb3.cell (p := ⟨cb, i, none⟩) (cell_lt (h i hi))).trans (h i hi)⟩
    have HB3 : Hid (Below w.heap.size w w3) := by
      have hb3 : Below w2.heap.size w2 w3 := by rw [hw3]; exact (Below.refl _ _).alloc (Nat.le_refl _) _
      have s1 := HB1.out.size
      have s2 := HB2.out.size
      exact show Below w.heap.size w w3 from (HB1.out.trans (HB2.out.mono s1)).trans (hb3.mono (by omega))
    clear hw3 HF1 HB2 HCA hr1
    generalize w2.heap.size = g at G
    go_wp2
    go_loopw [8] (fun i wr => ∃ k : Nat, k + 1 ≤ len0 ∧ i = .int .i64 k ∧ Hid (Below w3.heap.size w3 wr)) (fun i _ => len0 - (intOf i).toNat)
    case atStart => exact ⟨0, HN.out.one, rfl, Below.refl _ _⟩
    case round =>
      obtain ⟨k, hk, rfl, HB⟩ := hrel
      by_cases hlt : k + 1 < len0
      · obtain ⟨lo, hlo⟩ : ∃ lo, N k = lo := ⟨_, rfl⟩
        obtain ⟨m, hm⟩ : ∃ m, N (k + 1) = lo + m := ⟨N (k + 1) - lo, by have := HN.out.mono k hlt; omega⟩
        have hle : lo + m ≤ len1 := by have := HN.out.le (k + 1) hlt; omega
        have HLO : Hid (N k = lo) := hlo
        have HM : Hid (N (k + 1) = lo + m) := hm
        clear hlo hm
        go_wp2_with fail
        refine (nb_any g fb len0 len1 N C ca wr (G.below HB.out) h0 h1 k hlt lo m HLO.out HM.out hle).mono ?_
        rintro e w' ⟨ao, rfl, hnone, hcell, n2, hw'⟩
        rw [hw']
        clear hw'
        have HAO : Hid (ao = none → m = 0) := hnone
        have HCell : Hid (m = 0 ∨ ∃ cb, ao = some ⟨cb, lo, none⟩ ∧ ∀ j, j < m → wr.cell? ⟨cb, lo + j, none⟩ = some (.int .i64 (C (lo + j)))) := hcell
        clear hnone hcell
        obtain ⟨i0, hi, hz0, hz1, hz2⟩ := info_parts Try.info3
        go_wp2_with (at_builtin; refine wpList_append_grows _ rfl (.tmp 46) (.tmp 48) 22 rfl 3 i0 (.int .i64 0) 1 8 Try.underlying22 hi hz0 hz1 hz2 rfl (by decide) ao m m (olds C lo m) rfl ?a1 (olds_length C lo m) ?a3 ⟨wr.heap.size, 0, none⟩ 1 1 [.int .i64 v] rfl rfl ?a4 ?a5 ?a6 ?a7 ?a8 ?_)
        case a1 => exact fun h => ⟨HAO.out h, HAO.out h⟩
        case a3 => exact olds_cells ((below_drewN wr _ n2).alloc (Nat.le_refl _) _) HCell.out
        case a4 => exact one_cell (cell_here (wr.drewN n2) v)
        case a5 => intro u hu; simp at hu; subst hu; rfl
        case a6 => omega
        case a7 => unfold maxLen; omega
        case a8 => omega
        intro v' w4 hown hgrow
        have HG : Hid (Below w3.heap.size w3 w4) := show Below w3.heap.size w3 w4 from by
          have s := HB.out.size
          have b1 : Below w3.heap.size w3 ((wr.drewN n2).alloc (.cells #[.int .i64 v] 3)) := (HB.out.trans (below_drewN _ _ _)).alloc s _
          exact b1.grown hgrow (Nat.le_trans s (by simp)) (fun k h => by cases h)
        obtain ⟨gg, cap, hv', hcl⟩ := own_shape hown
        rw [hv']
        clear hown hgrow hv'
        go_wp2
        go_roundw
        case rel => exact ⟨k + 1, by omega, by go_num, HG⟩
        case measure => simp [intOf]; omega
      · have hr0 : RowV wr a0 len0 (fun i => (N i : Int)) := by
          rcases (r0.below HB3.out).below HB.out with h | ⟨b, off, e, h⟩
          · exact .inl h
          · exact .inr ⟨b, off, e, fun i hi => by rw [h i hi, hFN'.out i hi]⟩
        have hr1 : RowV wr a1 len1 C := (r1.below HB3.out).below HB.out
        go_wp2_with fail
        refine (tile_any g fb len0 len1 cap0 cap1 N C ca a0 a1 wr (G.below HB.out) h0 h1 HN.out hr0 hr1).mono ?_
        rintro e w' ⟨rfl, n4, hw'⟩
        rw [hw']
        clear hw'
        go_wp2
        go_ret
        exact ⟨rfl, (HB3.out.trans (HB.out.mono HB3.out.size)).trans (below_drewN _ _ _)⟩

/-- THE WALK OF THE LAW. -/
theorem walk_all (a0 a1 : Option Addr) (len0 cap0 len1 cap1 : Nat) (F C : Nat → Int) (v : Int) (w : World) (hn0 : a0 = none → len0 = 0 ∧ cap0 = 0) (hn1 : a1 = none → len1 = 0 ∧ cap1 = 0) (h0 : len0 ≤ maxLen) (h1 : len1 ≤ maxLen) (r0 : RowV w a0 len0 F) (r1 : RowV w a1 len1 C) :
    Calls Try.prog 3 #[.slice a0 len0 cap0, .slice a1 len1 cap1, .int .i64 v] w fun e w' => e = .returned (.bool true) ∧ Below w.heap.size w w' := by
  by_cases hb : 65536 < len0 ∨ 65536 < len1
  · exact walk_big a0 a1 len0 cap0 len1 cap1 v w h0 h1 hb
  · exact walk_small a0 a1 len0 cap0 len1 cap1 F C v w hn0 hn1 (by omega) (by omega) r0 r1
end Go.Proofs.Qxb6616412a
