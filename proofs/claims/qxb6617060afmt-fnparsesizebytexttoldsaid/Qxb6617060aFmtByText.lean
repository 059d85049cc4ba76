import Derived.Test.Qxb6617060aFmtSd
namespace Go.Proofs.Qxb6617060aFmt
open Go.RowKit Go.Extern.Stop Go.Stop Go.Extern
set_option linter.unusedVariables false

theorem bytes5_any (tag : ByteArray) (d : Int) (w : World) (h : tag.size ≤ maxLen) :
    Calls Tryf.prog 5 #[.string tag, .int .u8 d] w fun e w' => ∃ r : Bool, e = .returned (.bool r) ∧ w' = w := by
  unfold maxLen at h
  go_enter Tryf.func5, Tryf.ntmps5
  go_wp2
  all_goals (go_ret; exact ⟨_, rfl, rfl⟩)

theorem conv_text {W : World} {B n : Nat} {v : Value} {s : ByteArray} {c : UInt8} (h : W.ownsRow B 5 1 v n ([.int .u8 (c.toNat : Int)] ++ [.int .u8 48] ++ Lib.strCells s)) (hn : n = s.size + 2) :
    ∃ g cap s2, v = .slice (some ⟨g, 0, none⟩) n cap ∧ Hid (s2.data.toList = c :: 48 :: s.data.toList) ∧ (convert 27 9 (.slice (some ⟨g, 0, none⟩) n cap)).run Tryf.prog W = .ok (.string s2) W := by
  have e : [Value.int .u8 (c.toNat : Int)] ++ [.int .u8 48] ++ Lib.strCells s = (c :: 48 :: s.data.toList).map fun b => Value.int .u8 b.toNat := by simp [Lib.strCells]
  rw [e] at h
  exact conv_own h (by have := Lib.size_eq s; simp at this ⊢; omega) (by omega)

theorem text_size {s2 s : ByteArray} {c : UInt8} (h : s2.data.toList = c :: 48 :: s.data.toList) : s2.size = s.size + 2 := by
  have h1 := Lib.size_eq s2
  have h2 := Lib.size_eq s
  rw [h] at h1
  simp at h1 h2
  omega

theorem below_to {w w1 w2 : World} (h : Below w.heap.size w w1) (h2 : Below w1.heap.size w1 w2) : Below w.heap.size w w2 := h.trans (h2.mono h.size)
theorem below_drawn {w w1 w2 : World} {n : Nat} (h : Below w.heap.size w w1) (h2 : Below (w1.drewN n).heap.size (w1.drewN n) w2) : Below w.heap.size w w2 :=
  have h3 : Below w.heap.size w (w1.drewN n) := h.trans ⟨rfl, rfl, rfl, Nat.le_refl _, fun _ _ => rfl⟩
  h3.trans (h2.mono h3.size)
theorem bytes_eq {a b : ByteArray} (h : a.data.toList = b.data.toList) : a = b := by
  obtain ⟨⟨l⟩⟩ := a
  obtain ⟨⟨m⟩⟩ := b
  simp at h
  rw [h]

set_option maxHeartbeats 2000000 in
theorem text_main (tag : ByteArray) (c : UInt8) (w : World) (h1 : 1 ≤ tag.size) (h2 : tag.size ≤ 1048576) (he0 : IsErr w 0) (he1 : IsErr w 1) :
    Calls Tryf.prog 3 #[.string tag, .int .u8 (c.toNat : Int)] w fun e w' => e = .returned (.bool true) ∧ Below w.heap.size w w' := by
  obtain ⟨i0, hi, hz0, hz1, hz2⟩ := info_parts Tryf.info5
  have HXL : Hid ((tag.extract 1 tag.size).data.toList = tag.data.toList.drop 1) := Lib.extract_to_end tag 1
  have HXZ : Hid ((tag.extract 1 tag.size).size = tag.size - 1) := show (tag.extract 1 tag.size).size = tag.size - 1 by rw [Lib.size_eq, Lib.extract_to_end, List.length_drop, ← Lib.size_eq]
  go_enter Tryf.func3, Tryf.ntmps3
  go_wp2_with fail
  refine (bytes5_any tag _ w (by unfold maxLen; omega)).mono ?_
  rintro e w' ⟨r, rfl, hw⟩
  rw [hw]
  clear hw
  go_wp2_with fail
  · go_ret
    exact ⟨rfl, Below.refl _ _⟩
  refine (zz_any tag w h1 (by omega) he0 he1).mono ?_
  intro e w1 hends
  obtain ⟨n1, ev1, rfl, hans, hb⟩ := hends.ans
  have HA1 : Hid (Ans (szOf (tag.data.toList.drop 1)) n1 ev1) := hans
  have HB : Hid (Below w.heap.size w w1) := hb
  clear hans hb hends
  go_wp2_with (first
    | (at_make; refine wpList_make_own _ rfl (.const (.int .i64 0)) (.tmp 29) 27 rfl w1.heap.size 5 i0 (.int .u8 0) 1 Tryf.underlying27 hi hz0 hz1 .i64 .i64 ((tag.size : Int) + 1) (tag.size + 1) rfl rfl (by omega) (by rw [hz2]; omega) (by unfold maxLen; omega) (Nat.le_refl _) ?_; intro w2 hown2 hgrow2; have HB2 : Hid (Below w1.heap.size w1 w2) := below_none hgrow2)
    | (at_builtin; refine wpList_append_own _ rfl (.tmp 31) (.tmp 33) 27 rfl w1.heap.size 5 i0 (.int .u8 0) 1 1 Tryf.underlying27 hi hz0 hz1 hz2 rfl (by decide) (.slice (some ⟨w1.heap.size, 0, none⟩) 0 (tag.size + 1)) 0 [] rfl (hown2.alloc _) ⟨w2.heap.size, 0, none⟩ 1 1 [.int .u8 (c.toNat : Int)] rfl rfl (cell_one_new _ _ _) (one_oneCell _) (by unfold maxLen; omega) (by omega) (Nat.le_trans HB2.out.size (size_le_alloc _ _)) ?_; intro v3 w3 hown3 hgrow3 hnil3; simp only [Nat.zero_add, List.nil_append] at hown3; have HB3 : Hid (Below w1.heap.size w1 w3) := below_own (HB2.out.alloc HB2.out.size _) (hown2.alloc _) hgrow3; clear hnil3 hgrow3 hown2 hgrow2)
    | (at_builtin; refine wpList_append_own _ rfl (.tmp 35) (.tmp 36) 27 rfl w1.heap.size 5 i0 (.int .u8 0) 1 1 Tryf.underlying27 hi hz0 hz1 hz2 rfl (by decide) v3 1 [.int .u8 (c.toNat : Int)] rfl (hown3.alloc _) ⟨w3.heap.size, 0, none⟩ 1 1 [.int .u8 48] rfl rfl (cell_one_new _ _ _) (one_oneCell _) (by unfold maxLen; omega) (by omega) (Nat.le_trans HB3.out.size (size_le_alloc _ _)) ?_; intro v4 w4 hown4 hgrow4 hnil4; have HB4 : Hid (Below w1.heap.size w1 w4) := below_own (HB3.out.alloc HB3.out.size _) (hown3.alloc _) hgrow4; clear hnil4 hgrow4 hown3)
    | (at_builtin; refine Lib.wpList_append_own_string _ rfl (.tmp 38) (.tmp 40) 27 9 rfl w1.heap.size 5 i0 Tryf.underlying27 Tryf.underlying9 hi hz0 hz1 hz2 v4 2 ([.int .u8 (c.toNat : Int)] ++ [.int .u8 48]) rfl hown4 (tag.extract 1 tag.size) rfl (by rw [HXZ.out]; unfold maxLen; omega) (by rw [HXZ.out]; omega) (by have := HB4.out.size; omega) ?_; intro v5 w5 hown5 hgrow5 hnil5; have HB5 : Hid (Below w1.heap.size w1 w5) := below_own HB4.out hown4 hgrow5; clear hnil5 hgrow5 hown4; obtain ⟨g5, c5, s2, hv5, HS2, hconv⟩ := conv_text hown5 (Nat.add_comm _ _); rw [hv5]; rw [HXZ.out] at hconv; clear hv5 hown5)
    | (go_at_call 6; refine (zz_any s2 w5 (by rw [text_size HS2.out]; omega) (by rw [text_size HS2.out, HXZ.out]; omega) ((he0.below HB.out).below HB5.out) ((he1.below HB.out).below HB5.out)).mono ?_))
  intro e w6 hends
  obtain ⟨n2, ev2, rfl, hans, hb6⟩ := hends.ans
  have HA2 : Hid (Ans (szOf (tag.data.toList.drop 1)) n2 ev2) := show Ans (szOf (tag.data.toList.drop 1)) n2 ev2 by
    have e1 : s2.data.toList.drop 1 = 48 :: tag.data.toList.drop 1 := by rw [HS2.out, HXL.out]; rfl
    rw [e1, sz_zero] at hans
    exact hans
  have HBE : Hid (Below w.heap.size w w6) := show Below w.heap.size w w6 from by
    have s1 := HB.out.size
    have s2 := HB5.out.size
    exact (HB.out.trans (HB5.out.mono s1)).trans (hb6.mono (by omega))
  clear hans hb6 hends hconv HS2 HB5 HB4 HB3 HB2 HB
  have HSD' : Hid (∀ W : World, Calls Tryf.prog 7 #[.string (tag.extract 1 tag.size)] W (SdEnds W (tag.data.toList.drop 1))) := fun W => by
    have HSD := digits_any (tag.extract 1 tag.size) W (by rw [HXZ.out]; omega)
    rw [HXL.out] at HSD
    exact HSD
  clear HXL
  generalize tag.data.toList.drop 1 = l at HA1 HA2 HSD'
  rcases HA1.out with ⟨n, hn, rfl, rfl⟩ | ⟨hn, rfl, x, rfl⟩
  · have hsz := (szOf_some.1 hn).2
    obtain ⟨hs1, hs2⟩ := hsz
    rcases HA2.out with ⟨m, hm2, rfl, rfl⟩ | ⟨hm2, rfl, x, rfl⟩
    · rw [hn] at hm2
      obtain rfl : n = m := by simpa using hm2
      have HN : Hid (szOf l = some n) := hn
      clear HA1 HA2 hm2 hn
      go_wp2
      go_quiet (fail)
      go_wp2_with (go_at_call 7; refine (HSD'.out _).mono ?_)
      clear HSD'
      rintro e w7 ⟨hb7, ⟨hok, s, hs, hs5, rfl⟩ | ⟨hno, s, rfl⟩⟩
      · have HB7 : Hid (Below w.heap.size w w7) := show Below w.heap.size w w7 from below_drawn HBE.out hb7
        have HDS : Hid (decF 24 n = s.data.toList) := show decF 24 n = s.data.toList by
          obtain ⟨n', hn', hd'⟩ := sd_yes hok
          rw [HN.out] at hn'
          obtain rfl : n = n' := by simpa using hn'
          rw [hd', hs]
        clear hb7 hok hs
        go_wp2_with (first
          | (go_at_call 9; refine (itoa_any n w7 hs1 hs2).mono ?_; rintro e w8 ⟨bs, rfl, hbs, hb8⟩; have HB8 : Hid (Below w.heap.size w w8) := below_to HB7.out hb8; obtain rfl : bs = s := bytes_eq (hbs.trans HDS.out); clear hbs hb8)
          | (go_at_call 8; refine (same_any _ _ (by unfold maxLen; omega)).mono ?_; rintro e w9 ⟨rfl, n9, hw9⟩; rw [hw9]; clear hw9))
        go_ret
        exact ⟨rfl, HB8.out.trans ⟨rfl, rfl, rfl, Nat.le_refl _, fun _ _ => rfl⟩⟩
      · have := sd_no hno
        rw [HN.out] at this
        cases this
    · rw [hn] at hm2; cases hm2
  · rcases HA2.out with ⟨m, hm2, rfl, rfl⟩ | ⟨hm2, rfl, x2, rfl⟩
    · rw [hn] at hm2; cases hm2
    · have HN : Hid (szOf l = none) := hn
      clear HA1 HA2 hm2 hn
      go_wp2
      go_quiet (fail)
      go_wp2_with (go_at_call 7; refine (HSD'.out _).mono ?_)
      clear HSD'
      rintro e w7 ⟨hb7, ⟨hok, s, hs, hs5, rfl⟩ | ⟨hno, s, rfl⟩⟩
      · obtain ⟨n', hn', _⟩ := sd_yes hok
        rw [HN.out] at hn'
        cases hn'
      · have HB7 : Hid (Below w.heap.size w w7) := show Below w.heap.size w w7 from below_drawn HBE.out hb7
        clear hb7 hno
        go_wp2
        go_ret
        exact ⟨rfl, HB7.out⟩

set_option maxHeartbeats 400000 in
theorem text_any (tag : ByteArray) (c : UInt8) (w : World) (h : tag.size ≤ maxLen) (he0 : IsErr w 0) (he1 : IsErr w 1) :
    Calls Tryf.prog 3 #[.string tag, .int .u8 (c.toNat : Int)] w fun e w' => e = .returned (.bool true) ∧ Below w.heap.size w w' := by
  by_cases hm : 1 ≤ tag.size ∧ tag.size ≤ 1048576
  · exact text_main tag c w hm.1 hm.2 he0 he1
  · have HM : Hid (tag.size ≤ maxLen) := h
    unfold maxLen at h
    have hor : tag.size = 0 ∨ 1048576 < tag.size := by omega
    clear hm
    rcases hor with hz | hz
    all_goals
      go_enter Tryf.func3, Tryf.ntmps3
      go_wp2_with (go_at_call 5; refine (bytes5_any tag _ w HM.out).mono ?_; rintro e w' ⟨r, rfl, hw⟩; rw [hw]; clear hw)
      all_goals (go_ret; exact ⟨rfl, Below.refl _ _⟩)
end Go.Proofs.Qxb6617060aFmt
