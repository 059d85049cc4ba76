import Derived.Test.Qxb6617060aFmtText
namespace Go.Proofs.Qxb6617060aFmt
open Go.RowKit Go.Extern.Stop Go.Stop Go.Extern
set_option linter.unusedVariables false

/-- How sizeDigits ends. -/
def SdEnds (w : World) (l : List UInt8) (e : Ending) (w' : World) : Prop :=
  Below w.heap.size w w' ∧ ((SdOk l ∧ ∃ s : ByteArray, s.data.toList = strip l ∧ s.size ≤ 5 ∧ e = .returned (.tuple #[.bool true, .string s])) ∨ (¬ SdOk l ∧ ∃ s, e = .returned (.tuple #[.bool false, .string s])))

theorem take_snoc (s : ByteArray) (k : Nat) (h : k < s.size) : s.data.toList.take (k + 1) = s.data.toList.take k ++ [s[k]] := by
  rw [List.take_succ_eq_append_getElem (by simpa using h)]; rfl
theorem mem_at (s : ByteArray) (k : Nat) (h : k < s.size) : s[k] ∈ s.data.toList := by
  have : s[k] = s.data.toList[k]'(by simpa using h) := rfl
  rw [this]
  exact List.getElem_mem _
theorem dig_step {s : ByteArray} {k : Nat} (h : k < s.size) (hd : AllDig (s.data.toList.take k)) (h1 : (48 : Int) ≤ (s[k].toNat : Int)) (h2 : (s[k].toNat : Int) ≤ 57) : AllDig (s.data.toList.take (k + 1)) := by
  rw [take_snoc s k h]
  intro c hc
  rcases List.mem_append.1 hc with hc | hc
  · exact hd c hc
  · have : c = s[k] := by simpa using hc
    subst this
    exact ⟨by omega, by omega⟩
theorem no_dig {s : ByteArray} {k : Nat} (h : k < s.size) (hn : (s[k].toNat : Int) < 48 ∨ 57 < (s[k].toNat : Int)) : ¬ SdOk s.data.toList := by
  rintro ⟨_, hd, _⟩
  have := hd _ (mem_at s k h)
  obtain ⟨h1, h2⟩ := this
  omega
theorem strip_step {s : ByteArray} {k : Nat} (h : k < s.size) (hs : strip s.data.toList = strip (s.data.toList.drop k)) (he : s[k] = 48) : strip s.data.toList = strip (s.data.toList.drop (k + 1)) := by
  rw [hs, drop_cons s k h, he]
  simp [strip]
theorem strip_stop {s : ByteArray} {k : Nat} (h : k < s.size) (hs : strip s.data.toList = strip (s.data.toList.drop k)) (he : s[k] ≠ 48) : strip s.data.toList = s.data.toList.drop k := by
  rw [hs, drop_cons s k h]
  simp [strip, he]
theorem strip_end {s : ByteArray} {k : Nat} (h : s.size ≤ k) (hs : strip s.data.toList = strip (s.data.toList.drop k)) : strip s.data.toList = s.data.toList.drop k := by
  rw [hs, drop_all s k h]
  rfl

set_option maxHeartbeats 2000000 in
theorem digits_any (rest : ByteArray) (w : World) (h : rest.size ≤ 1048577) : Calls Tryf.prog 7 #[.string rest] w (SdEnds w rest.data.toList) := by
  generalize hl : rest.data.toList = l
  have HL : Hid (rest.data.toList = l) := hl
  clear hl
  by_cases hz : rest.size = 0
  · have hno : Hid (¬ SdOk l) := show ¬ SdOk l from fun hk => hk.1 (by rw [← HL.out]; have := Lib.size_eq rest; exact List.length_eq_zero_iff.1 (by omega))
    go_enter Tryf.func7, Tryf.ntmps7
    go_wp2
    go_ret2
    exact ⟨Below.refl _ _, .inr ⟨hno.out, _, rfl⟩⟩
  go_enter Tryf.func7, Tryf.ntmps7
  go_wp2
  go_loop [4] (fun i => ∃ k : Nat, k ≤ rest.size ∧ i = .int .i64 k ∧ Hid (AllDig (rest.data.toList.take k))) (fun i => rest.size - (intOf i).toNat)
  case atStart => exact ⟨0, Nat.zero_le _, rfl, (fun c hc => by simp at hc : AllDig (rest.data.toList.take 0))⟩
  case round =>
    obtain ⟨k, hk, rfl, HD⟩ := hrel
    by_cases hlt : k < rest.size
    · go_wp2
      · have hno : ¬ SdOk l := by rw [← HL.out]; exact no_dig hlt (by assumption)
        go_ret2
        exact ⟨Below.refl _ _, .inr ⟨hno, _, rfl⟩⟩
      · have hst : 48 ≤ (rest[k].toNat : Int) ∧ (rest[k].toNat : Int) ≤ 57 := by assumption
        go_round
        case rel => exact ⟨_, _, _, ⟨k + 1, by omega, by go_num, dig_step hlt HD.out hst.1 hst.2⟩, rfl, rfl, rfl⟩
        case measure => simp [intOf]; omega
      · have hno : ¬ SdOk l := by rw [← HL.out]; exact no_dig hlt (.inl (by assumption))
        go_ret2
        exact ⟨Below.refl _ _, .inr ⟨hno, _, rfl⟩⟩
    · have HA : Hid (AllDig l) := show AllDig l by
        have := HD.out
        rw [List.take_of_length_le (by have := Lib.size_eq rest; omega)] at this
        rw [← HL.out]; exact this
      clear HD
      go_wp2
      go_loop [5] (fun i => ∃ j : Nat, j ≤ rest.size ∧ i = .int .i64 j ∧ Hid (strip rest.data.toList = strip (rest.data.toList.drop j))) (fun i => rest.size - (intOf i).toNat)
      case atStart => exact ⟨0, Nat.zero_le _, rfl, rfl⟩
      case round =>
        obtain ⟨j, hj, rfl, HJ⟩ := hrel
        by_cases hjl : j < rest.size
        · by_cases hj48 : rest[j].toNat = 48
          · have hj48' : ((rest[j].toNat : Int) == 48) = true := by simp [hj48]
            have HE : Hid (rest[j] = 48) := show rest[j] = 48 from UInt8.toNat_inj.1 hj48
            clear hj48
            go_wp2
            go_round
            case rel => exact ⟨j + 1, by omega, by go_num, strip_step hjl HJ.out HE.out⟩
            case measure => simp [intOf]; omega
          · have hj48' : ((rest[j].toNat : Int) == 48) = false := by simp; omega
            have HE : Hid (strip rest.data.toList = rest.data.toList.drop j) := strip_stop hjl HJ.out (fun e => hj48 (by rw [e]; rfl))
            clear hj48
            have HX : Hid ((rest.extract j rest.size).data.toList = strip l) := show (rest.extract j rest.size).data.toList = strip l by rw [Lib.extract_to_end, ← HL.out, HE.out]
            have HXZ : Hid ((rest.extract j rest.size).size = rest.size - j) := show (rest.extract j rest.size).size = rest.size - j by
              rw [Lib.size_eq, Lib.extract_to_end, List.length_drop, ← Lib.size_eq]
            have HLEN : Hid ((strip l).length = rest.size - j) := show (strip l).length = rest.size - j by rw [← HX.out, ← Lib.size_eq]; exact HXZ.out
            have HNE : Hid (l ≠ []) := show l ≠ [] from fun e => by
              have h1 := HL.out
              rw [e] at h1
              exact hz (by rw [Lib.size_eq, h1]; rfl)
            have HSN : Hid (strip l ≠ []) := show strip l ≠ [] from fun e => by
              have := HLEN.out
              rw [e] at this
              simp at this
              omega
            go_wp2_with fail
            refine (itoa_any 16384 w (by decide) (by decide)).mono ?_
            rintro e w1 ⟨bs, rfl, hbs, hb1⟩
            have HB1 : Hid (Below w.heap.size w w1) := hb1
            have HBS : Hid (bs.data.toList = [49, 54, 51, 56, 52]) := show bs.data.toList = [49, 54, 51, 56, 52] by rw [hbs]; decide
            have hb5 : bs.size = 5 := by rw [Lib.size_eq, HBS.out]; rfl
            clear hbs hb1
            rcases Nat.lt_trichotomy (rest.size - j) 5 with hm | hm | hm
            · have hok : Hid (SdOk l) := show SdOk l from ⟨HNE.out, HA.out, HSN.out, .inl (by rw [HLEN.out]; exact hm)⟩
              go_wp2
              go_ret2
              exact ⟨HB1.out, .inl ⟨hok.out, _, HX.out, by rw [HXZ.out]; omega, rfl⟩⟩
            · have hm1 : ¬ rest.size - j < 5 := by omega
              have hm2 : ¬ 5 < rest.size - j := by omega
              have HM : Hid (rest.size - j = 5) := hm
              clear hm
              go_wp2_with fail
              refine (less_any bs (rest.extract j rest.size) w1 (by unfold maxLen; omega) (by rw [HXZ.out]; unfold maxLen; omega)).mono ?_
              rintro e w2 ⟨he, n2, hw2⟩
              rw [he, hw2, HBS.out, HX.out]
              have HB2 : Hid (Below w.heap.size w (w1.drewN n2)) := show Below w.heap.size w (w1.drewN n2) from HB1.out.trans ⟨rfl, rfl, rfl, Nat.le_refl _, fun _ _ => rfl⟩
              clear he hw2
              by_cases hless : lessL [49, 54, 51, 56, 52] (strip l) = true
              · have hno : Hid (¬ SdOk l) := show ¬ SdOk l from fun hk => by
                  rcases hk.2.2.2 with h' | ⟨_, h'⟩
                  · rw [HLEN.out] at h'; omega
                  · rw [hless] at h'; cases h'
                go_wp2
                go_ret2
                exact ⟨HB2.out, .inr ⟨hno.out, _, rfl⟩⟩
              · have hless' : lessL [49, 54, 51, 56, 52] (strip l) = false := by simpa using hless
                clear hless
                have hok : Hid (SdOk l) := show SdOk l from ⟨HNE.out, HA.out, HSN.out, .inr ⟨by rw [HLEN.out]; exact HM.out, hless'⟩⟩
                go_wp2
                go_ret2
                exact ⟨HB2.out, .inl ⟨hok.out, _, HX.out, by rw [HXZ.out]; omega, rfl⟩⟩
            · have hno : Hid (¬ SdOk l) := show ¬ SdOk l from fun hk => by
                rcases hk.2.2.2 with h' | ⟨h', _⟩
                · rw [HLEN.out] at h'; omega
                · rw [HLEN.out] at h'; omega
              have hm1 : ¬ rest.size - j < 5 := by omega
              go_wp2
              go_ret2
              exact ⟨HB1.out, .inr ⟨hno.out, _, rfl⟩⟩
        · have hno : Hid (¬ SdOk l) := show ¬ SdOk l from fun hk => hk.2.2.1 (by rw [← HL.out, strip_end (by omega) HJ.out, drop_all rest j (by omega)])
          have hjs : (rest.size - j) = 0 := by omega
          go_wp2
          go_ret2
          exact ⟨Below.refl _ _, .inr ⟨hno.out, _, rfl⟩⟩
end Go.Proofs.Qxb6617060aFmt
