import Derived.Test.Qxb6617583aWalkB
import Derived.OwnWalk
import Derived.RegionTactic
import Derived.ChangeAlike
namespace Go.Proofs.Qxb6617583a
open Go.ChangeShapes Go.WideShapes Go.ChangeAt Go.RowKit
set_option linter.unusedVariables false

/-- What the walks are told of a slice of strings. -/
def RowS (w : World) (a : Option Addr) (len : Nat) (N : Nat → ByteArray) : Prop :=
  len = 0 ∨ ∃ b off, a = some ⟨b, off, none⟩ ∧ ∀ i, i < len → w.cell? ⟨b, off + i, none⟩ = some (.string (N i)) ∧ (N i).size ≤ maxLen

theorem RowS.below {w w1 : World} {a : Option Addr} {n : Nat} {N : Nat → ByteArray} (h : RowS w a n N) (hb : Below w.heap.size w w1) : RowS w1 a n N := by
  rcases h with h | ⟨b, off, e, h⟩
  · exact .inl h
  · exact .inr ⟨b, off, e, fun j hj => ⟨cell_later hb (h j hj).1, (h j hj).2⟩⟩

def BoolEnds (w : World) (e : Ending) (w' : World) : Prop := ∃ r : Bool, e = .returned (.bool r) ∧ w' = w

set_option maxHeartbeats 2000000 in
theorem bytes5_any (a0 a1 : Option Addr) (l0 c0 l1 c1 : Nat) (N V : Nat → ByteArray) (name : ByteArray) (k : Int) (w : World) (h0 : l0 ≤ maxLen) (h1 : l1 ≤ maxLen) (h2 : name.size ≤ maxLen) (r0 : RowS w a0 l0 N) (r1 : RowS w a1 l1 V) :
    Calls Try.prog 5 #[.slice a0 l0 c0, .slice a1 l1 c1, .string name, .int .i64 k] w (BoolEnds w) := by
  unfold maxLen at h0 h1 h2
  have R0 : Hid (RowS w a0 l0 N) := r0
  have R1 : Hid (RowS w a1 l1 V) := r1
  clear r0 r1
  by_cases hb0 : 1048576 < l0
  · go_enter Try.func5, Try.ntmps5
    go_wp2
    go_ret
    exact ⟨_, rfl, rfl⟩
  go_enter Try.func5, Try.ntmps5
  go_wp2
  go_loop [9, 10] (fun z i => ∃ (zz : Int) (k : Nat), 0 ≤ zz ∧ zz ≤ 1048576 ∧ k ≤ l0 ∧ z = .int .i64 zz ∧ i = .int .i64 k) (fun _ i => l0 - (intOf i).toNat)
  case atStart => exact ⟨_, 0, by omega, by omega, Nat.zero_le _, rfl, rfl⟩
  case round =>
    obtain ⟨zz, j, hz0, hz1, hk, rfl, rfl⟩ := hrel
    by_cases hlt : j < l0
    · rcases R0.out with h | ⟨b, off, rfl, hr⟩
      · omega
      have ck := (hr j hlt).1
      have sk := (hr j hlt).2
      unfold maxLen at sk
      clear hr
      go_wp2
      all_goals first
        | (go_ret; exact ⟨_, rfl, rfl⟩)
        | (go_round; (case rel => first | exact ⟨_, j + 1, by omega, by omega, by omega, rfl, by go_num⟩ | exact ⟨_, _, _, ⟨_, j + 1, by omega, by omega, by omega, rfl, by go_num⟩, rfl, rfl, rfl⟩); (case measure => simp [intOf]; omega))
    · by_cases hb1 : 1048576 < l1
      · go_wp2
        go_ret
        exact ⟨_, rfl, rfl⟩
      go_wp2
      all_goals first | (go_ret; exact ⟨_, rfl, rfl⟩; done) | skip
      go_loop [9, 11] (fun z i => ∃ (zz : Int) (k : Nat), 0 ≤ zz ∧ zz ≤ 1048576 ∧ k ≤ l1 ∧ z = .int .i64 zz ∧ i = .int .i64 k) (fun _ i => l1 - (intOf i).toNat)
      case atStart => exact ⟨_, 0, by omega, by omega, Nat.zero_le _, rfl, rfl⟩
      case round =>
        obtain ⟨zz, m, hz0, hz1, hk, rfl, rfl⟩ := hrel
        by_cases hlt : m < l1
        · rcases R1.out with h | ⟨b, off, rfl, hr⟩
          · omega
          have ck := (hr m hlt).1
          have sk := (hr m hlt).2
          unfold maxLen at sk
          clear hr
          go_wp2
          all_goals first
            | (go_ret; exact ⟨_, rfl, rfl⟩)
            | (go_round; (case rel => first | exact ⟨_, m + 1, by omega, by omega, by omega, rfl, by go_num⟩ | exact ⟨_, _, _, ⟨_, m + 1, by omega, by omega, by omega, rfl, by go_num⟩, rfl, rfl, rfl⟩); (case measure => simp [intOf]; omega))
        · go_wp2
          all_goals (go_ret; exact ⟨_, rfl, rfl⟩)

set_option maxHeartbeats 2000000 in
theorem bytes10_any (a0 a1 : Option Addr) (l0 c0 l1 c1 : Nat) (N V : Nat → ByteArray) (name : ByteArray) (k : Int) (n v : ByteArray) (w : World) (h0 : l0 ≤ maxLen) (h1 : l1 ≤ maxLen) (h2 : name.size ≤ maxLen) (h3 : n.size ≤ maxLen) (h4 : v.size ≤ maxLen) (r0 : RowS w a0 l0 N) (r1 : RowS w a1 l1 V) :
    Calls Try.prog 10 #[.slice a0 l0 c0, .slice a1 l1 c1, .string name, .int .i64 k, .string n, .string v] w (BoolEnds w) := by
  unfold maxLen at h0 h1 h2 h3 h4
  have R0 : Hid (RowS w a0 l0 N) := r0
  have R1 : Hid (RowS w a1 l1 V) := r1
  clear r0 r1
  by_cases hb0 : 1048576 < l0
  · go_enter Try.func10, Try.ntmps10
    go_wp2
    go_ret
    exact ⟨_, rfl, rfl⟩
  go_enter Try.func10, Try.ntmps10
  go_wp2
  go_loop [13, 14] (fun z i => ∃ (zz : Int) (k : Nat), 0 ≤ zz ∧ zz ≤ 1048576 ∧ k ≤ l0 ∧ z = .int .i64 zz ∧ i = .int .i64 k) (fun _ i => l0 - (intOf i).toNat)
  case atStart => exact ⟨_, 0, by omega, by omega, Nat.zero_le _, rfl, rfl⟩
  case round =>
    obtain ⟨zz, j, hz0, hz1, hk, rfl, rfl⟩ := hrel
    by_cases hlt : j < l0
    · rcases R0.out with h | ⟨b, off, rfl, hr⟩
      · omega
      have ck := (hr j hlt).1
      have sk := (hr j hlt).2
      unfold maxLen at sk
      clear hr
      go_wp2
      all_goals first
        | (go_ret; exact ⟨_, rfl, rfl⟩)
        | (go_round; (case rel => first | exact ⟨_, j + 1, by omega, by omega, by omega, rfl, by go_num⟩ | exact ⟨_, _, _, ⟨_, j + 1, by omega, by omega, by omega, rfl, by go_num⟩, rfl, rfl, rfl⟩); (case measure => simp [intOf]; omega))
    · by_cases hb1 : 1048576 < l1
      · go_wp2
        go_ret
        exact ⟨_, rfl, rfl⟩
      go_wp2
      all_goals first | (go_ret; exact ⟨_, rfl, rfl⟩; done) | skip
      go_loop [13, 15] (fun z i => ∃ (zz : Int) (k : Nat), 0 ≤ zz ∧ zz ≤ 1048576 ∧ k ≤ l1 ∧ z = .int .i64 zz ∧ i = .int .i64 k) (fun _ i => l1 - (intOf i).toNat)
      case atStart => exact ⟨_, 0, by omega, by omega, Nat.zero_le _, rfl, rfl⟩
      case round =>
        obtain ⟨zz, m, hz0, hz1, hk, rfl, rfl⟩ := hrel
        by_cases hlt : m < l1
        · rcases R1.out with h | ⟨b, off, rfl, hr⟩
          · omega
          have ck := (hr m hlt).1
          have sk := (hr m hlt).2
          unfold maxLen at sk
          clear hr
          go_wp2
          all_goals first
            | (go_ret; exact ⟨_, rfl, rfl⟩)
            | (go_round; (case rel => first | exact ⟨_, m + 1, by omega, by omega, by omega, rfl, by go_num⟩ | exact ⟨_, _, _, ⟨_, m + 1, by omega, by omega, by omega, rfl, by go_num⟩, rfl, rfl, rfl⟩); (case measure => simp [intOf]; omega))
        · go_wp2
          all_goals (go_ret; exact ⟨_, rfl, rfl⟩)

set_option maxHeartbeats 2000000 in
theorem big_any (a0 a1 : Option Addr) (l0 c0 l1 c1 : Nat) (N V : Nat → ByteArray) (x y z : Int) (w : World) (h0 : l0 ≤ 65536) (h1 : l1 ≤ 65536) (hx0 : 0 ≤ x) (hx1 : x ≤ 1048576) (hy0 : 0 ≤ y) (hy1 : y ≤ 1048576) (hz0 : 0 ≤ z) (hz1 : z ≤ 1048576) (r0 : RowS w a0 l0 N) (r1 : RowS w a1 l1 V) :
    Calls Try.prog 6 #[.slice a0 l0 c0, .slice a1 l1 c1, .int .i64 x, .int .i64 y, .int .i64 z] w (BoolEnds w) := by
  have R0 : Hid (RowS w a0 l0 N) := r0
  have R1 : Hid (RowS w a1 l1 V) := r1
  clear r0 r1
  go_enter Try.func6, Try.ntmps6
  go_wp2
  all_goals first | (go_ret; exact ⟨_, rfl, rfl⟩; done) | skip
  go_loop [11, 12] (fun z i => ∃ (zz : Int) (k : Nat), k ≤ l0 ∧ z = .int .i64 zz ∧ i = .int .i64 k) (fun _ i => l0 - (intOf i).toNat)
  case atStart => exact ⟨_, 0, Nat.zero_le _, rfl, rfl⟩
  case round =>
    obtain ⟨zz, j, hk, rfl, rfl⟩ := hrel
    by_cases hlt : j < l0
    · rcases R0.out with h | ⟨b, off, rfl, hr⟩
      · omega
      have ck := (hr j hlt).1
      clear hr
      go_wp2
      all_goals first
        | (go_ret; exact ⟨_, rfl, rfl⟩)
        | (go_round; (case rel => first | exact ⟨_, j + 1, by omega, rfl, by go_num⟩ | exact ⟨_, _, _, ⟨_, j + 1, by omega, rfl, by go_num⟩, rfl, rfl, rfl⟩); (case measure => simp [intOf]; omega))
    · go_wp2
      go_loop [11, 13] (fun z i => ∃ (zz : Int) (k : Nat), k ≤ l1 ∧ z = .int .i64 zz ∧ i = .int .i64 k) (fun _ i => l1 - (intOf i).toNat)
      case atStart => exact ⟨_, 0, Nat.zero_le _, rfl, rfl⟩
      case round =>
        obtain ⟨zz, m, hk, rfl, rfl⟩ := hrel
        by_cases hlt : m < l1
        · rcases R1.out with h | ⟨b, off, rfl, hr⟩
          · omega
          have ck := (hr m hlt).1
          clear hr
          go_wp2
          all_goals first
            | (go_ret; exact ⟨_, rfl, rfl⟩)
            | (go_round; (case rel => first | exact ⟨_, m + 1, by omega, rfl, by go_num⟩ | exact ⟨_, _, _, ⟨_, m + 1, by omega, rfl, by go_num⟩, rfl, rfl, rfl⟩); (case measure => simp [intOf]; omega))
        · go_wp2
          go_ret
          exact ⟨_, rfl, rfl⟩

/-- How zzSorted ends. -/
def SortedEnds (N : Nat → ByteArray) (n : Nat) (w : World) (e : Ending) (w' : World) : Prop :=
  ∃ r : Bool, e = .returned (.bool r) ∧ (r = true → Sorted (fun j => (N j).data.toList) n) ∧ ∃ m, w' = w.drewN m

set_option maxHeartbeats 1000000 in
theorem sorted_any (a : Option Addr) (n c : Nat) (N : Nat → ByteArray) (w : World) (hn : n ≤ 65536) (r : RowS w a n N) :
    Calls Try.prog 7 #[.slice a n c] w (SortedEnds N n w) := by
  have R0 : Hid (RowS w a n N) := r
  clear r
  go_enter Try.func7, Try.ntmps7
  go_wp2
  go_loopw [3] (fun i wr => ∃ k : Nat, 1 ≤ k ∧ (k ≤ n ∨ k = 1) ∧ i = .int .i64 k ∧ Hid (∀ j, 1 ≤ j → j < k → Op.bytesLess (N j).data.toList (N (j - 1)).data.toList = false) ∧ ∃ m, wr = w.drewN m) (fun i _ => n - (intOf i).toNat)
  case atStart => exact ⟨1, Nat.le_refl _, .inr rfl, rfl, (fun j h1 h2 => by omega : ∀ j, 1 ≤ j → j < 1 → Op.bytesLess (N j).data.toList (N (j - 1)).data.toList = false), 0, rfl⟩
  case round =>
    obtain ⟨k, hk1, hk, rfl, HM, m, rfl⟩ := hrel
    by_cases hlt : k < n
    · rcases R0.out with h | ⟨b, off, rfl, hr⟩
      · omega
      have ck := (hr k hlt).1
      have cj := (hr (k - 1) (by omega)).1
      clear hr
      go_wp2
      go_quiet (fail)
      go_wp2
      · go_ret
        exact ⟨_, rfl, by simp, by simp only [World.drewN_drewN]; exact ⟨_, rfl⟩⟩
      · have hle : Op.bytesLess (N k).toList (N (k - 1)).toList = false := by assumption
        rw [ByteArray.toList_eq, ByteArray.toList_eq] at hle
        go_roundw
        case rel =>
          refine ⟨k + 1, by omega, .inl (by omega), by go_num, (fun j h1 h2 => ?_ : ∀ j, 1 ≤ j → j < k + 1 → Op.bytesLess (N j).data.toList (N (j - 1)).data.toList = false), _, rfl⟩
          by_cases hj : j = k
          · subst hj; exact hle
          · exact HM.out j h1 (by omega)
        case measure => simp [intOf]; omega
    · go_wp2
      go_ret
      exact ⟨_, rfl, fun _ => sorted_of (fun j h1 h2 => HM.out j h1 (by omega)), _, rfl⟩

theorem Try.info29 : (Try.prog.info? 29).map (fun i => (i.zero, i.size, i.bytes)) = some (some (.agg #[.string ⟨#[]⟩, .string ⟨#[]⟩]), 2, 32) := by kernel_rfl

/-- The cells of the new row when its first k parameters are laid. -/
def pcell (N V : Nat → ByteArray) (k c : Nat) : Value := if c / 2 < k then (if c % 2 = 0 then .string (N (c / 2)) else .string (V (c / 2))) else .string ⟨#[]⟩
def pfilled (N V : Nat → ByteArray) (n k : Nat) : List Value := (List.range (n * 2)).map (pcell N V k)
theorem pfilled_get (N V : Nat → ByteArray) (n k c : Nat) (h : c < n * 2) : (pfilled N V n k)[c]? = some (pcell N V k c) := by simp [pfilled, h]
theorem pfilled_set (N V : Nat → ByteArray) (n k : Nat) (h : k < n) : ((pfilled N V n k).set (k * 2) (.string (N k))).set (k * 2 + 1) (.string (V k)) = pfilled N V n (k + 1) := by
  apply List.ext_getElem?
  intro c
  by_cases hc : c < n * 2
  · rw [pfilled_get N V n (k + 1) c hc, List.getElem?_set]
    by_cases e1 : k * 2 + 1 = c
    · subst e1
      rw [if_pos rfl, if_pos (by simp [pfilled]; omega)]
      have a1 : (k * 2 + 1) / 2 = k := by omega
      have a2 : (k * 2 + 1) % 2 = 1 := by omega
      simp [pcell, a1, a2]
    · rw [if_neg e1, List.getElem?_set]
      by_cases e2 : k * 2 = c
      · subst e2
        rw [if_pos rfl, if_pos (by simp [pfilled]; omega)]
        have a1 : k * 2 / 2 = k := by omega
        have a2 : k * 2 % 2 = 0 := by omega
        simp [pcell, a1, a2]
      · rw [if_neg e2, pfilled_get N V n k c hc]
        have a : (c / 2 < k + 1) ↔ (c / 2 < k) := by omega
        simp [pcell, a]
  · rw [List.getElem?_eq_none (by simp [pfilled]; omega), List.getElem?_eq_none (by simp [pfilled]; omega)]

theorem made_two (N V : Nat → ByteArray) (n : Nat) : (madeCells (Value.agg #[.string ⟨#[]⟩, .string ⟨#[]⟩]).cells (n * 2)).toList = pfilled N V n 0 := by
  apply List.ext_getElem?
  intro j
  by_cases hj : j < n * 2
  · rw [pfilled_get N V n 0 j hj]
    have : j % 2 = 0 ∨ j % 2 = 1 := by omega
    rcases this with h | h
    · simp [madeCells, Value.cells, hj, h, pcell]
    · simp [madeCells, Value.cells, hj, h, pcell]
  · rw [List.getElem?_eq_none (by simp [madeCells]; omega), List.getElem?_eq_none (by simp [pfilled]; omega)]

set_option maxHeartbeats 2000000 in
theorem params_any (a0 a1 : Option Addr) (n c0 c1 : Nat) (N V : Nat → ByteArray) (w : World) (hn : n ≤ 65536) (r0 : RowS w a0 n N) (r1 : RowS w a1 n V) :
    Calls Try.prog 8 #[.slice a0 n c0, .slice a1 n c1] w fun e w' => e = .returned (.slice (some ⟨w.heap.size, 0, none⟩) n n) ∧ RowP w' (some ⟨w.heap.size, 0, none⟩) n N V ∧ Below w.heap.size w w' := by
  have R0 : Hid (RowS w a0 n N) := r0
  have R1 : Hid (RowS w a1 n V) := r1
  clear r0 r1
  obtain ⟨i0, hi, hz0, hz1, hz2⟩ := info_parts Try.info29
  go_enter Try.func8, Try.ntmps8
  go_wp2_with (at_make; refine wpList_make_full _ rfl (.tmp 8) (.tmp 8) 26 rfl w.heap.size 29 i0 (.agg #[.string ⟨#[]⟩, .string ⟨#[]⟩]) 2 Try.underlying26 hi hz0 hz1 .i64 .i64 (n : Int) (n : Int) n rfl rfl rfl rfl (by rw [hz2]; omega) (by unfold maxLen; omega) (Nat.le_refl _) ?_; intro w1 hown hgrow)
  have H0 : Hid (w1.ownsRow w.heap.size 29 2 (.slice (some ⟨w.heap.size, 0, none⟩) n n) n (pfilled N V n 0)) := by
    rw [made_two N V n] at hown
    exact hown
  have H1 : Hid (Below w.heap.size w w1) := (Below.refl _ _).grown hgrow (Nat.le_refl _) (fun k h => by cases h)
  clear hown hgrow
  go_loopw [6] (fun i wr => ∃ k : Nat, k ≤ n ∧ i = .int .i64 k ∧ Hid (wr.ownsRow w.heap.size 29 2 (.slice (some ⟨w.heap.size, 0, none⟩) n n) n (pfilled N V n k)) ∧ Hid (Below w.heap.size w wr)) (fun i _ => n - (intOf i).toNat)
  case atStart => exact ⟨0, Nat.zero_le _, rfl, H0, H1⟩
  case round =>
    obtain ⟨k, hk, rfl, HO, HB⟩ := hrel
    by_cases hlt : k < n
    · rcases R0.out with h | ⟨b0, off0, rfl, hr0⟩
      · omega
      rcases R1.out with h | ⟨b1, off1, rfl, hr1⟩
      · omega
      have ck := cell_later HB.out (hr0 k hlt).1
      have cv := cell_later HB.out (hr1 k hlt).1
      have hb0 : b0 < w.heap.size := cell_lt (hr0 k hlt).1
      have hb1 : b1 < w.heap.size := cell_lt (hr1 k hlt).1
      have d0 : wr.cell? ⟨w.heap.size, k * 2, none⟩ = some (pcell N V k (k * 2)) := by rw [HO.out.cellAt (k * 2) (by omega), pfilled_get N V n k _ (by omega)]
      have d1 : wr.cell? ⟨w.heap.size, k * 2 + 1, none⟩ = some (pcell N V k (k * 2 + 1)) := by rw [HO.out.cellAt (k * 2 + 1) (by omega), pfilled_get N V n k _ (by omega)]
      have e0 : wr.frozen? ⟨w.heap.size, k * 2, none⟩ = false := HO.out.frozenAt _
      have e1 : wr.frozen? ⟨w.heap.size, k * 2 + 1, none⟩ = false := HO.out.frozenAt _
      clear hr0 hr1
      generalize pcell N V k (k * 2) = q0 at d0
      generalize pcell N V k (k * 2 + 1) = q1 at d1
      go_wp2
      go_region
      go_wp2
      have HO2 : ((wr.setCell ⟨w.heap.size, k * 2, none⟩ (.string (N k))).setCell ⟨w.heap.size, k * 2 + 1, none⟩ (.string (V k))).ownsRow w.heap.size 29 2 (.slice (some ⟨w.heap.size, 0, none⟩) n n) n (pfilled N V n (k + 1)) := by
        rw [← pfilled_set N V n k hlt]
        exact ((HO.out.stored (k * 2) _).1.stored (k * 2 + 1) _).1
      have HB2 : Below w.heap.size w ((wr.setCell ⟨w.heap.size, k * 2, none⟩ (.string (N k))).setCell ⟨w.heap.size, k * 2 + 1, none⟩ (.string (V k))) := (HB.out.setCell (Nat.le_refl _) _).setCell (Nat.le_refl _) _
      go_roundw
      case rel => exact ⟨k + 1, by omega, by go_num, HO2.drew, HB2.drew⟩
      case measure => simp [intOf]; omega
    · obtain rfl : k = n := by omega
      go_wp2
      go_ret
      refine ⟨rfl, .inr ⟨_, _, rfl, fun j hj => ?_⟩, HB.out⟩
      rw [HO.out.cellAt (0 + j * 2) (by omega), HO.out.cellAt (0 + j * 2 + 1) (by omega), pfilled_get N V k k _ (by omega), pfilled_get N V k k _ (by omega)]
      have a1 : (0 + j * 2) / 2 = j := by omega
      have a2 : (0 + j * 2) % 2 = 0 := by omega
      have a3 : (0 + j * 2 + 1) / 2 = j := by omega
      have a4 : (0 + j * 2 + 1) % 2 = 1 := by omega
      simp only [pcell, a1, a2, a3, a4, if_pos hj]
      exact ⟨rfl, rfl⟩
end Go.Proofs.Qxb6617583a
