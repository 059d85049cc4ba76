import Derived.Test.Qxb6617583aFirst
namespace Go.Proofs.Qxb6617583a
open Go.ChangeShapes Go.WideShapes Go.ChangeAt Go.RowKit
set_option linter.unusedVariables false

theorem RowP.take {w : World} {a : Option Addr} {n : Nat} {N V : Nat → ByteArray} (h : RowP w a n N V) (k : Nat) (hk : k ≤ n) : RowP w a k N V := by
  rcases h with h | ⟨b, off, e, h⟩
  · exact .inl (by omega)
  · exact .inr ⟨b, off, e, fun j hj => h j (by omega)⟩
theorem RowP.drop {w : World} {b n : Nat} {N V : Nat → ByteArray} (h : RowP w (some ⟨b, 0, none⟩) n N V) (k : Nat) (hk : k ≤ n) : RowP w (some ⟨b, k * 2, none⟩) (n - k) (fun j => N (k + j)) (fun j => V (k + j)) := by
  rcases h with h | ⟨b', off, e, h⟩
  · exact .inl (by omega)
  · simp only [Option.some.injEq, Addr.mk.injEq] at e
    obtain ⟨rfl, rfl, _⟩ := e
    refine .inr ⟨b, k * 2, rfl, fun j hj => ?_⟩
    have := h (k + j) (by omega)
    rw [show 0 + (k + j) * 2 = k * 2 + j * 2 by omega] at this
    exact this

theorem cell?_alloc_old {W : World} {b o : Nat} {v : Value} {ob : Obj} (h : W.cell? ⟨b, o, none⟩ = some v) : (W.alloc ob).cell? ⟨b, o, none⟩ = some v :=
  cell_later ((Below.refl _ _).alloc (Nat.le_refl _) _) h
theorem ans_hit {N V : Nat → ByteArray} {n : Nat} {name nm vl : ByteArray} {ok : Bool} (h : FindAns N V n name nm vl ok) {j : Nat} (hj : j < n) (he : N j = name) (hl : ∀ t, t < j → N t ≠ name) : nm = N j ∧ vl = V j ∧ ok = true := by
  rcases h with ⟨i, h1, h2, h3, h4, h5, h6⟩ | ⟨h1, _⟩
  · have : i = j := by
      rcases Nat.lt_trichotomy i j with h | h | h
      · exact absurd h2 (hl i h)
      · exact h
      · exact absurd he (h3 j h)
    subst this
    exact ⟨h4, h5, h6⟩
  · exact absurd he (h1 j hj)
theorem ans_miss {N V : Nat → ByteArray} {n : Nat} {name nm vl : ByteArray} {ok : Bool} (h : FindAns N V n name nm vl ok) (hl : ∀ t, t < n → N t ≠ name) : nm = ⟨#[]⟩ ∧ vl = ⟨#[]⟩ ∧ ok = false := by
  rcases h with ⟨i, h1, h2, _⟩ | ⟨_, h2, h3, h4⟩
  · exact absurd h2 (hl i h1)
  · exact ⟨h2, h3, h4⟩

set_option maxHeartbeats 4000000 in
theorem first_main (a0 a1 : Option Addr) (n c0 c1 : Nat) (N V : Nat → ByteArray) (name : ByteArray) (k : Nat) (w : World) (h0 : n ≤ 65536) (h2 : name.size ≤ 1048576) (hk : k ≤ n) (r0 : RowS w a0 n N) (r1 : RowS w a1 n V) :
    Calls Try.prog 3 #[.slice a0 n c0, .slice a1 n c1, .string name, .int .i64 k] w fun e w' => e = .returned (.bool true) ∧ Below w.heap.size w w' := by
  have H : Hid (Calls Try.prog 5 #[.slice a0 n c0, .slice a1 n c1, .string name, .int .i64 k] w (BoolEnds w)) := bytes5_any a0 a1 n c0 n c1 N V name k w (by unfold maxLen; omega) (by unfold maxLen; omega) (by unfold maxLen; omega) r0 r1
  have H6 : Hid (Calls Try.prog 6 #[.slice a0 n c0, .slice a1 n c1, .int .i64 name.size, .int .i64 0, .int .i64 0] w (BoolEnds w)) := big_any a0 a1 n c0 n c1 N V name.size 0 0 w h0 h0 (by omega) (by omega) (by omega) (by omega) (by omega) (by omega) r0 r1
  have R0 : Hid (RowS w a0 n N) := r0
  have R1 : Hid (RowS w a1 n V) := r1
  clear r0 r1
  go_enter Try.func3, Try.ntmps3
  go_wp2_with (first | (go_at_call 5; refine H.out.mono ?_; rintro e w' ⟨r, rfl, hw⟩; rw [hw]; clear hw) | (go_at_call 6; refine H6.out.mono ?_; rintro e w' ⟨r6, rfl, hw⟩; rw [hw]; clear hw) | (go_at_call 7; refine (sorted_any a0 n c0 N w h0 R0.out).mono ?_))
  all_goals first | (go_ret; exact ⟨rfl, Below.refl _ _⟩; done) | skip
  rintro e w' ⟨r7, rfl, hsrt, m, hw⟩
  rw [hw]
  clear hw H H6
  cases r7 with
  | false =>
    clear hsrt
    go_wp2
    go_ret
    exact ⟨rfl, below_drewN _ _ _⟩
  | true =>
    have HS : Hid (Sorted (fun j => (N j).data.toList) n) := hsrt rfl
    clear hsrt
    have HWD : Hid (Below w.heap.size w (w.drewN m)) := below_drewN _ _ _
    go_wp2_with fail
    refine (params_any a0 a1 n c0 c1 N V (w.drewN m) h0 (R0.out.below HWD.out) (R1.out.below HWD.out)).mono ?_
    rintro e w1 ⟨rfl, hrp, hb1⟩
    have HP1 : Hid (RowP w1 (some ⟨w.heap.size, 0, none⟩) n N V) := hrp
    have HB1 : Hid (Below w.heap.size w w1) := below_on HWD.out hb1
    clear hrp hb1
    go_wp2_with fail
    refine (zzfind_any _ n n N V name w1 (by omega) HS.out HP1.out).mono ?_
    intro e w2 hends
    obtain ⟨gn, gv, gok, rfl, hans, hb2⟩ := hends.ans
    have HG : Hid (FindAns N V n name gn gv gok) := hans
    have HB2 : Hid (Below w1.heap.size w1 w2) := hb2
    clear hans hb2 hends
    have HBG : Hid (Below w1.heap.size w1 (w2.alloc (.cells #[.string gn, .string gv] 29))) := HB2.out.alloc HB2.out.size _
    go_wp2_with fail
    refine (zzfind_any _ k n N V name _ (by omega) (fun a b hab hb => HS.out a b hab (by omega)) ((HP1.out.below HBG.out).take k hk)).mono ?_
    intro e w3 hends
    obtain ⟨an, av, aok, rfl, hans, hb3⟩ := hends.ans
    have HA : Hid (FindAns N V k name an av aok) := hans
    have HB3 : Hid (Below w1.heap.size w1 w3) := below_on HBG.out hb3
    have HG0 : Hid (w3.cell? ⟨w2.heap.size, 0, none⟩ = some (.string gn)) := cell_later hb3 (by simp)
    have HG1 : Hid (w3.cell? ⟨w2.heap.size, 1, none⟩ = some (.string gv)) := cell_later hb3 (by simp)
    clear hans hb3 hends HBG
    have HBA : Hid (Below w1.heap.size w1 (w3.alloc (.cells #[.string an, .string av] 29))) := HB3.out.alloc HB3.out.size _
    have HSB : Hid (Sorted (fun j => (N (k + j)).data.toList) (n - k)) := HS.out.sub k (n - k) (by omega)
    by_cases hkn : k = n
    all_goals go_wp2_with fail
    · refine (zzfind_any _ 0 _ (fun j => N (k + j)) (fun j => V (k + j)) name _ (by omega) (fun a b hab hb => by omega) (.inl rfl)).mono ?_
      intro e w4 hends
      obtain ⟨bn, bv, bok, rfl, hans, hb4⟩ := hends.ans
      have hz : n - k = 0 := by omega
      have HBX : Hid (FindAns (fun j => N (k + j)) (fun j => V (k + j)) (n - k) name bn bv bok) := by rw [hz]; exact hans
      have HB4 : Hid (Below w1.heap.size w1 w4) := below_on HBA.out hb4
      have HG0' : Hid (w4.cell? ⟨w2.heap.size, 0, none⟩ = some (.string gn)) := cell_later hb4 (cell?_alloc_old HG0.out)
      have HG1' : Hid (w4.cell? ⟨w2.heap.size, 1, none⟩ = some (.string gv)) := cell_later hb4 (cell?_alloc_old HG1.out)
      have HA0' : Hid (w4.cell? ⟨w3.heap.size, 0, none⟩ = some (.string an)) := cell_later hb4 (by simp)
      have HA1' : Hid (w4.cell? ⟨w3.heap.size, 1, none⟩ = some (.string av)) := cell_later hb4 (by simp)
      have hg0 : ∀ o, (w4.alloc o).cell? ⟨w2.heap.size, 0, none⟩ = some (.string gn) := fun o => cell?_alloc_old HG0'.out
      have hg1 : ∀ o, (w4.alloc o).cell? ⟨w2.heap.size, 1, none⟩ = some (.string gv) := fun o => cell?_alloc_old HG1'.out
      have ha0 : ∀ o, (w4.alloc o).cell? ⟨w3.heap.size, 0, none⟩ = some (.string an) := fun o => cell?_alloc_old HA0'.out
      have ha1 : ∀ o, (w4.alloc o).cell? ⟨w3.heap.size, 1, none⟩ = some (.string av) := fun o => cell?_alloc_old HA1'.out
      clear hans hb4 hends HG0' HG1' HA0' HA1' HG0 HG1 HBA HSB
      go_wp2
      go_loop [16, 17] (fun s16 s17 => ∃ j : Nat, j ≤ n ∧ s17 = .int .i64 j ∧ s16 = .int .i64 (-1) ∧ Hid (∀ t, t < j → N t ≠ name)) (fun _ s17 => n - (intOf s17).toNat)
      case atStart => exact ⟨0, Nat.zero_le _, rfl, rfl, (fun t ht => absurd ht (Nat.not_lt_zero _) : ∀ t, t < 0 → N t ≠ name)⟩
      case round =>
        obtain ⟨j, hj, rfl, rfl, HM⟩ := hrel
        by_cases hlt : j < n
        · rcases R0.out with h | ⟨b0, off0, rfl, hr0⟩
          · omega
          have HB1' : Hid (Below w.heap.size w w4) := below_on HB1.out HB4.out
          have ck0 := cell_later HB1'.out (hr0 j hlt).1
          have ck : ∀ o, (w4.alloc o).cell? ⟨b0, off0 + j, none⟩ = some (.string (N j)) := fun o => cell?_alloc_old ck0
          clear hr0 ck0
          by_cases hj : N j = name
          · have he : ((N j).toList == name.toList) = true := by rw [hj]; simp
            rcases R1.out with h | ⟨b1, off1, rfl, hr1⟩
            · omega
            have cv0 := cell_later HB1'.out (hr1 j hlt).1
            have cv : ∀ o, (w4.alloc o).cell? ⟨b1, off1 + j, none⟩ = some (.string (V j)) := fun o => cell?_alloc_old cv0
            clear hr1 cv0
            obtain ⟨rfl, rfl, rfl⟩ := ans_hit HG.out hlt hj HM.out
            by_cases hjk : j < k
            · obtain ⟨rfl, rfl, rfl⟩ := ans_hit HA.out hjk hj HM.out
              clear HG HA hj HBX
              go_wp2
              go_quiet (fail)
              go_wp2
              go_ret
              exact ⟨rfl, (HB1'.out.alloc HB1'.out.size _).trans (below_drewN _ _ _)⟩
            · exfalso; omega
          · have he : ((N j).toList == name.toList) = false := by
              rw [ByteArray.toList_eq, ByteArray.toList_eq]
              simp only [beq_eq_false_iff_ne, ne_eq]
              exact fun h => hj (bytes_eq h)
            have HJ : Hid (N j ≠ name) := hj
            clear hj
            go_wp2
            go_round
            case rel =>
              refine ⟨j + 1, by omega, by go_num, rfl, (fun t ht => ?_ : ∀ t, t < j + 1 → N t ≠ name)⟩
              by_cases htj : t = j
              · subst htj; exact HJ.out
              · exact HM.out t (by omega)
            case measure => simp [intOf]; omega
        · have HB1' : Hid (Below w.heap.size w w4) := below_on HB1.out HB4.out
          obtain ⟨rfl, rfl, rfl⟩ := ans_miss HG.out (fun t ht => HM.out t (by omega))
          obtain ⟨rfl, rfl, rfl⟩ := ans_miss HA.out (fun t ht => HM.out t (by omega))
          obtain ⟨rfl, rfl, rfl⟩ := ans_miss HBX.out (fun t ht => HM.out (k + t) (by omega))
          clear HG HA HBX
          go_wp2
          go_ret
          exact ⟨rfl, HB1'.out.alloc HB1'.out.size _⟩
    · refine (zzfind_any _ (n - k) _ (fun j => N (k + j)) (fun j => V (k + j)) name _ (by omega) HSB.out ((HP1.out.below HBA.out).drop k hk)).mono ?_
      intro e w4 hends
      obtain ⟨bn, bv, bok, rfl, hans, hb4⟩ := hends.ans
      have HBX : Hid (FindAns (fun j => N (k + j)) (fun j => V (k + j)) (n - k) name bn bv bok) := hans
      have HB4 : Hid (Below w1.heap.size w1 w4) := below_on HBA.out hb4
      have HG0' : Hid (w4.cell? ⟨w2.heap.size, 0, none⟩ = some (.string gn)) := cell_later hb4 (cell?_alloc_old HG0.out)
      have HG1' : Hid (w4.cell? ⟨w2.heap.size, 1, none⟩ = some (.string gv)) := cell_later hb4 (cell?_alloc_old HG1.out)
      have HA0' : Hid (w4.cell? ⟨w3.heap.size, 0, none⟩ = some (.string an)) := cell_later hb4 (by simp)
      have HA1' : Hid (w4.cell? ⟨w3.heap.size, 1, none⟩ = some (.string av)) := cell_later hb4 (by simp)
      have hg0 : ∀ o, (w4.alloc o).cell? ⟨w2.heap.size, 0, none⟩ = some (.string gn) := fun o => cell?_alloc_old HG0'.out
      have hg1 : ∀ o, (w4.alloc o).cell? ⟨w2.heap.size, 1, none⟩ = some (.string gv) := fun o => cell?_alloc_old HG1'.out
      have ha0 : ∀ o, (w4.alloc o).cell? ⟨w3.heap.size, 0, none⟩ = some (.string an) := fun o => cell?_alloc_old HA0'.out
      have ha1 : ∀ o, (w4.alloc o).cell? ⟨w3.heap.size, 1, none⟩ = some (.string av) := fun o => cell?_alloc_old HA1'.out
      clear hans hb4 hends HG0' HG1' HA0' HA1' HG0 HG1 HBA HSB
      go_wp2
      go_loop [16, 17] (fun s16 s17 => ∃ j : Nat, j ≤ n ∧ s17 = .int .i64 j ∧ s16 = .int .i64 (-1) ∧ Hid (∀ t, t < j → N t ≠ name)) (fun _ s17 => n - (intOf s17).toNat)
      case atStart => exact ⟨0, Nat.zero_le _, rfl, rfl, (fun t ht => absurd ht (Nat.not_lt_zero _) : ∀ t, t < 0 → N t ≠ name)⟩
      case round =>
        obtain ⟨j, hj, rfl, rfl, HM⟩ := hrel
        by_cases hlt : j < n
        · rcases R0.out with h | ⟨b0, off0, rfl, hr0⟩
          · omega
          have HB1' : Hid (Below w.heap.size w w4) := below_on HB1.out HB4.out
          have ck0 := cell_later HB1'.out (hr0 j hlt).1
          have ck : ∀ o, (w4.alloc o).cell? ⟨b0, off0 + j, none⟩ = some (.string (N j)) := fun o => cell?_alloc_old ck0
          clear hr0 ck0
          by_cases hj : N j = name
          · have he : ((N j).toList == name.toList) = true := by rw [hj]; simp
            rcases R1.out with h | ⟨b1, off1, rfl, hr1⟩
            · omega
            have cv0 := cell_later HB1'.out (hr1 j hlt).1
            have cv : ∀ o, (w4.alloc o).cell? ⟨b1, off1 + j, none⟩ = some (.string (V j)) := fun o => cell?_alloc_old cv0
            clear hr1 cv0
            obtain ⟨rfl, rfl, rfl⟩ := ans_hit HG.out hlt hj HM.out
            by_cases hjk : j < k
            · obtain ⟨rfl, rfl, rfl⟩ := ans_hit HA.out hjk hj HM.out
              clear HG HA hj HBX
              go_wp2
              go_quiet (fail)
              go_wp2
              go_ret
              exact ⟨rfl, (HB1'.out.alloc HB1'.out.size _).trans (below_drewN _ _ _)⟩
            · obtain ⟨rfl, rfl, rfl⟩ := ans_miss HA.out (fun t ht => HM.out t (by omega))
              have hb := ans_hit (j := j - k) HBX.out (by omega) (by show N (k + (j - k)) = name; rw [show k + (j - k) = j by omega]; exact hj) (fun t ht => HM.out (k + t) (by omega))
              rw [show k + (j - k) = j by omega] at hb
              obtain ⟨rfl, rfl, rfl⟩ := hb
              clear HG HA hj HBX
              go_wp2
              go_quiet (fail)
              go_wp2
              go_ret
              exact ⟨rfl, (HB1'.out.alloc HB1'.out.size _).trans (below_drewN _ _ _)⟩
          · have he : ((N j).toList == name.toList) = false := by
              rw [ByteArray.toList_eq, ByteArray.toList_eq]
              simp only [beq_eq_false_iff_ne, ne_eq]
              exact fun h => hj (bytes_eq h)
            have HJ : Hid (N j ≠ name) := hj
            clear hj
            go_wp2
            go_round
            case rel =>
              refine ⟨j + 1, by omega, by go_num, rfl, (fun t ht => ?_ : ∀ t, t < j + 1 → N t ≠ name)⟩
              by_cases htj : t = j
              · subst htj; exact HJ.out
              · exact HM.out t (by omega)
            case measure => simp [intOf]; omega
        · have HB1' : Hid (Below w.heap.size w w4) := below_on HB1.out HB4.out
          obtain ⟨rfl, rfl, rfl⟩ := ans_miss HG.out (fun t ht => HM.out t (by omega))
          obtain ⟨rfl, rfl, rfl⟩ := ans_miss HA.out (fun t ht => HM.out t (by omega))
          obtain ⟨rfl, rfl, rfl⟩ := ans_miss HBX.out (fun t ht => HM.out (k + t) (by omega))
          clear HG HA HBX
          go_wp2
          go_ret
          exact ⟨rfl, HB1'.out.alloc HB1'.out.size _⟩

/-- THE WALK OF THE LAW. -/
theorem first_all (a0 a1 : Option Addr) (l0 c0 l1 c1 : Nat) (N V : Nat → ByteArray) (name : ByteArray) (k : Int) (w : World) (h0 : l0 ≤ maxLen) (h1 : l1 ≤ maxLen) (h2 : name.size ≤ maxLen) (r0 : RowS w a0 l0 N) (r1 : RowS w a1 l1 V) :
    Calls Try.prog 3 #[.slice a0 l0 c0, .slice a1 l1 c1, .string name, .int .i64 k] w fun e w' => e = .returned (.bool true) ∧ Below w.heap.size w w' := by
  by_cases hb : 65536 < l0 ∨ 65536 < l1 ∨ 1048576 < name.size
  · exact first_big a0 a1 l0 c0 l1 c1 N V name k w h0 h1 h2 r0 r1 hb
  by_cases ho : l0 ≠ l1 ∨ k < 0 ∨ (l0 : Int) < k
  · exact first_out a0 a1 l0 c0 l1 c1 N V name k w (by omega) (by omega) (by omega) r0 r1 ho
  · obtain rfl : l0 = l1 := by omega
    obtain ⟨kn, rfl⟩ : ∃ kn : Nat, k = kn := ⟨k.toNat, by omega⟩
    exact first_main a0 a1 l0 c0 c1 N V name kn w (by omega) (by omega) (by omega) r0 r1
end Go.Proofs.Qxb6617583a
