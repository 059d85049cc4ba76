import Derived.Test.Qxb6617060aFmtParse
import Derived.OwnWalk
import Derived.Lib.AppendStr
import Derived.Laws.IdiomStrings
namespace Go.Proofs.Qxb6617060aFmt
open Go.RowKit Go.Extern.Stop Go.Stop Go.Extern
set_option linter.unusedVariables false

theorem Tryf.info5 : (Tryf.prog.info? 5).map (fun i => (i.zero, i.size, i.bytes)) = some (some (.int .u8 0), 1, 1) := by kernel_rfl

/-- What the two results of parseSize are. -/
def Ans (o : Option Nat) (n : Int) (ev : Value) : Prop :=
  (∃ m : Nat, o = some m ∧ n = m ∧ ev = .nilIface) ∨ (o = none ∧ n = 0 ∧ ∃ x, ev = .iface 48 (.pointer (some ⟨x, 0, none⟩)))

theorem ParseEnds.ans {w : World} {o : Option Nat} {e : Ending} {w' : World} (h : ParseEnds w o e w') :
    ∃ n ev, e = .returned (.tuple #[.int .i64 n, ev]) ∧ Ans o n ev ∧ Below w.heap.size w w' := by
  obtain ⟨hb, ⟨m, hm, rfl⟩ | ⟨hm, x, rfl⟩⟩ := h
  · exact ⟨_, _, rfl, .inl ⟨m, hm, rfl, rfl⟩, hb⟩
  · exact ⟨_, _, rfl, .inr ⟨hm, rfl, x, rfl⟩, hb⟩

theorem bytes10_any (tag : ByteArray) (d : Int) (w : World) (h : tag.size ≤ maxLen) :
    Calls Tryf.prog 10 #[.string tag, .int .u8 d] w fun e w' => ∃ r : Bool, e = .returned (.bool r) ∧ w' = w := by
  unfold maxLen at h
  go_enter Tryf.func10, Tryf.ntmps10
  go_wp2
  all_goals (go_ret; exact ⟨_, rfl, rfl⟩)

/-- A row of bytes of the call's own, made a string. -/
theorem conv_own {W : World} {B n : Nat} {v : Value} {l : List UInt8} (h : W.ownsRow B 5 1 v n (l.map fun b => Value.int .u8 b.toNat)) (hn : l.length = n) (hpos : 1 ≤ n) :
    ∃ g cap s, v = .slice (some ⟨g, 0, none⟩) n cap ∧ Hid (s.data.toList = l) ∧ (convert 27 9 (.slice (some ⟨g, 0, none⟩) n cap)).run Tryf.prog W = .ok (.string s) W := by
  rcases h.2 with ⟨_, h0⟩ | ⟨g, cap, cur, rfl, _⟩
  · omega
  · refine ⟨g, cap, ⟨l.toArray⟩, rfl, (show l.toArray.toList = l by simp), ?_⟩
    have := run_convert_bytes_back (P := Tryf.prog) W 27 9 5 ⟨g, 0, none⟩ cap l Tryf.underlying27 Tryf.underlying5 Tryf.underlying9 (fun j hj => by
      have e := h.cellAt j (by omega)
      have ea : (⟨g, 0, none⟩ : Addr).add j = ⟨g, j, none⟩ := by rw [WideShapes.add_plain, Nat.zero_add]
      rw [ea, e]
      simp [hj])
    rw [hn] at this
    exact this

theorem conv_digit {W : World} {B : Nat} {v : Value} {tag : ByteArray} {d : UInt8} (h : W.ownsRow B 5 1 v (tag.size + 1) (Lib.strCells tag ++ [.int .u8 (d.toNat : Int)])) :
    ∃ g cap s, v = .slice (some ⟨g, 0, none⟩) (tag.size + 1) cap ∧ Hid (s.data.toList = tag.data.toList ++ [d]) ∧ (convert 27 9 (.slice (some ⟨g, 0, none⟩) (tag.size + 1) cap)).run Tryf.prog W = .ok (.string s) W := by
  have e : Lib.strCells tag ++ [.int .u8 (d.toNat : Int)] = (tag.data.toList ++ [d]).map fun b => Value.int .u8 b.toNat := by simp [Lib.strCells]
  rw [e] at h
  exact conv_own h (by have := Lib.size_eq tag; simp at this ⊢) (by omega)

theorem below_none {w w' : World} (h : w.grownBy w' none) : Below w.heap.size w w' := (Below.refl _ _).grown h (Nat.le_refl _) (fun k h => by cases h)
theorem below_own {w0 w w' : World} {v : Value} {n : Nat} {xs : List Value} (hb : Below w0.heap.size w0 w) (ho : w.ownsRow w0.heap.size 5 1 v n xs) (hg : w.grownBy w' v.ownBlock) : Below w0.heap.size w0 w' :=
  hb.grown hg hb.size (fun k hk => (ho.lt k hk).1)
theorem one_oneCell (x : Int) : ∀ u ∈ [Value.int .u8 x], u.oneCell' = true := by
  intro u hu; simp at hu; subst hu; rfl
theorem size_le_alloc (w : World) (o : Obj) : w.heap.size ≤ (w.alloc o).heap.size := by simp

theorem ret_true {b : Bool} (h : b = true) : Ending.returned (.bool b) = .returned (.bool true) := by rw [h]
theorem snoc_size {s tag : ByteArray} {d : UInt8} (h : s.data.toList = tag.data.toList ++ [d]) : 1 ≤ s.size ∧ s.size = tag.size + 1 := by
  have h1 := Lib.size_eq s
  have h2 := Lib.size_eq tag
  rw [h] at h1
  simp at h1 h2
  omega
theorem snoc_drop {s tag : ByteArray} {d : UInt8} (h : s.data.toList = tag.data.toList ++ [d]) (h1 : 1 ≤ tag.size) : s.data.toList.drop 1 = tag.data.toList.drop 1 ++ [d] := by
  rw [h, List.drop_append_of_le_length (by have := Lib.size_eq tag; omega)]

set_option maxHeartbeats 2000000 in
theorem digit_main (tag : ByteArray) (d : UInt8) (w : World) (h1 : 1 ≤ tag.size) (h2 : tag.size ≤ 1048576) (he0 : IsErr w 0) (he1 : IsErr w 1) :
    Calls Tryf.prog 4 #[.string tag, .int .u8 (d.toNat : Int)] w fun e w' => e = .returned (.bool true) ∧ Below w.heap.size w w' := by
  obtain ⟨i0, hi, hz0, hz1, hz2⟩ := info_parts Tryf.info5
  go_enter Tryf.func4, Tryf.ntmps4
  go_wp2_with fail
  refine (bytes10_any tag _ w (by unfold maxLen; omega)).mono ?_
  rintro e w' ⟨r, rfl, hw⟩
  rw [hw]
  clear hw
  go_wp2_with fail
  · go_ret
    exact ⟨rfl, Below.refl _ _⟩
  refine (zz_any tag w h1 (by omega) he0 he1).mono ?_
  intro e w1 hends
  obtain ⟨n1, ev1, rfl, hans, hb⟩ := hends.ans
  have HA1 : Hid (Ans (szOf (tag.data.toList.drop 1)) n1 ev1) := hans
  have HB : Hid (Below w.heap.size w w1) := hb
  clear hans hb hends
  go_wp2_with (first
    | (at_make; refine wpList_make_own _ rfl (.const (.int .i64 0)) (.tmp 29) 27 rfl w1.heap.size 5 i0 (.int .u8 0) 1 Tryf.underlying27 hi hz0 hz1 .i64 .i64 ((tag.size : Int) + 1) (tag.size + 1) rfl rfl (by omega) (by rw [hz2]; omega) (by unfold maxLen; omega) (Nat.le_refl _) ?_; intro w2 hown2 hgrow2; have HB2 : Hid (Below w1.heap.size w1 w2) := below_none hgrow2)
    | (at_builtin; refine Lib.wpList_append_own_string _ rfl (.tmp 31) (.tmp 32) 27 9 rfl w1.heap.size 5 i0 Tryf.underlying27 Tryf.underlying9 hi hz0 hz1 hz2 (.slice (some ⟨w1.heap.size, 0, none⟩) 0 (tag.size + 1)) 0 [] rfl hown2 tag rfl (by unfold maxLen; omega) (by omega) (by have := hgrow2.size; omega) ?_; intro v3 w3 hown3 hgrow3 hnil3; simp only [Nat.zero_add, List.nil_append] at hown3; have HB3 : Hid (Below w1.heap.size w1 w3) := below_own HB2.out hown2 hgrow3; clear hnil3 hgrow3 hown2 hgrow2)
    | (at_builtin; refine wpList_append_own _ rfl (.tmp 34) (.tmp 36) 27 rfl w1.heap.size 5 i0 (.int .u8 0) 1 1 Tryf.underlying27 hi hz0 hz1 hz2 rfl (by decide) v3 tag.size (Lib.strCells tag) rfl (hown3.alloc _) ⟨w3.heap.size, 0, none⟩ 1 1 [.int .u8 (d.toNat : Int)] rfl rfl (cell_one_new _ _ _) (one_oneCell _) (by unfold maxLen; omega) (by omega) (Nat.le_trans HB3.out.size (size_le_alloc _ _)) ?_; intro v4 w4 hown4 hgrow4 hnil4; have HB4 : Hid (Below w1.heap.size w1 w4) := below_own (HB3.out.alloc HB3.out.size _) (hown3.alloc _) hgrow4; clear hnil4 hgrow4 hown3; obtain ⟨g4, c4, s2, hv4, HS2, hconv⟩ := conv_digit hown4; rw [hv4]; clear hv4 hown4)
    | (go_at_call 6; refine (zz_any s2 w4 (snoc_size HS2.out).1 (by have := (snoc_size HS2.out).2; omega) ((he0.below HB.out).below HB4.out) ((he1.below HB.out).below HB4.out)).mono ?_))
  intro e w5 hends
  obtain ⟨n2, ev2, rfl, hans, hb5⟩ := hends.ans
  rw [snoc_drop HS2.out h1] at hans
  have HA2 : Hid (Ans (szOf (tag.data.toList.drop 1 ++ [d])) n2 ev2) := hans
  have HBE : Hid (Below w.heap.size w w5) := show Below w.heap.size w w5 from by
    have s1 := HB.out.size
    have s2 := HB4.out.size
    exact (HB.out.trans (HB4.out.mono s1)).trans (hb5.mono (by omega))
  clear hans hb5 hends hconv HS2 HB4 HB3 HB2 HB
  generalize tag.data.toList.drop 1 = l at HA1 HA2
  have hd255 : d.toNat ≤ 255 := by have := d.toNat_lt; omega
  by_cases hd : isDig d
  · obtain ⟨hd1, hd2⟩ := hd
    rcases HA1.out with ⟨n, hn, rfl, rfl⟩ | ⟨hn, rfl, x, rfl⟩
    · have hsz := (szOf_some.1 hn).2
      have hap := sz_append_some (d := d) ⟨hd1, hd2⟩ hn
      have HN : Hid (szOf l = some n) := hn
      clear HA1 hn
      obtain ⟨hs1, hs2⟩ := hsz
      by_cases hm : 10 * n + (d.toNat - 48) ≤ 16384
      · rw [if_pos hm] at hap
        rcases HA2.out with ⟨m, hm2, rfl, rfl⟩ | ⟨hm2, rfl, x, rfl⟩
        · rw [hap] at hm2
          have em : m = 10 * n + (d.toNat - 48) := by simpa using hm2.symm
          clear HA2 hm2 hap
          subst em
          go_wp2
          go_ret
          exact ⟨ret_true (by rw [beq_iff_eq]; omega), HBE.out⟩
        · rw [hap] at hm2; cases hm2
      · rw [if_neg hm] at hap
        rcases HA2.out with ⟨m, hm2, rfl, rfl⟩ | ⟨hm2, rfl, x, rfl⟩
        · rw [hap] at hm2; cases hm2
        · clear HA2 hm2 hap
          go_wp2
          go_ret
          exact ⟨rfl, HBE.out⟩
    · rcases HA2.out with ⟨m, hm2, rfl, rfl⟩ | ⟨hm2, rfl, x2, rfl⟩
      · obtain ⟨em, hm1⟩ := sz_append_none hn hm2
        clear HA1 HA2 hm2 hn
        subst em
        go_wp2
        go_ret
        exact ⟨ret_true (by rw [beq_iff_eq]; omega), HBE.out⟩
      · clear HA1 HA2 hm2 hn
        go_wp2
        go_ret
        exact ⟨rfl, HBE.out⟩
  · have hno : d.toNat < 48 ∨ 57 < d.toNat := by unfold isDig at hd; omega
    rcases HA2.out with ⟨m, hm2, rfl, rfl⟩ | ⟨hm2, rfl, x2, rfl⟩
    · rw [sz_append_not hd] at hm2; cases hm2
    · rcases HA1.out with ⟨n, hn, rfl, rfl⟩ | ⟨hn, rfl, x, rfl⟩
      · have hsz := (szOf_some.1 hn).2
        obtain ⟨hs1, hs2⟩ := hsz
        clear HA1 HA2 hm2 hn hd
        rcases hno with hno | hno
        all_goals
          go_wp2
          go_ret
          exact ⟨rfl, HBE.out⟩
      · clear HA1 HA2 hm2 hn hd
        rcases hno with hno | hno
        all_goals
          go_wp2
          go_ret
          exact ⟨rfl, HBE.out⟩

set_option maxHeartbeats 400000 in
theorem digit_any (tag : ByteArray) (d : UInt8) (w : World) (h : tag.size ≤ maxLen) (he0 : IsErr w 0) (he1 : IsErr w 1) :
    Calls Tryf.prog 4 #[.string tag, .int .u8 (d.toNat : Int)] w fun e w' => e = .returned (.bool true) ∧ Below w.heap.size w w' := by
  by_cases hm : 1 ≤ tag.size ∧ tag.size ≤ 1048576
  · exact digit_main tag d w hm.1 hm.2 he0 he1
  · have HM : Hid (tag.size ≤ maxLen) := h
    unfold maxLen at h
    have hor : tag.size = 0 ∨ 1048576 < tag.size := by omega
    clear hm
    rcases hor with hz | hz
    all_goals
      go_enter Tryf.func4, Tryf.ntmps4
      go_wp2_with (go_at_call 10; refine (bytes10_any tag _ w HM.out).mono ?_; rintro e w' ⟨r, rfl, hw⟩; rw [hw]; clear hw)
      all_goals (go_ret; exact ⟨rfl, Below.refl _ _⟩)
end Go.Proofs.Qxb6617060aFmt
