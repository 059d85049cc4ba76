import Derived.Test.Qxb6617583aInsert
import Derived.Test.Qxb6617583aFirstMain
namespace Go.Proofs.Qxb6617583a
open Go.ChangeShapes Go.WideShapes Go.ChangeAt Go.RowKit
set_option linter.unusedVariables false

theorem toList_less (a b : ByteArray) : Op.bytesLess a.toList b.toList = Op.bytesLess a.data.toList b.data.toList := by rw [ByteArray.toList_eq, ByteArray.toList_eq]

set_option maxRecDepth 100000 in
set_option maxHeartbeats 8000000 in
theorem insert_main (a0 a1 : Option Addr) (n c0 c1 : Nat) (N V : Nat → ByteArray) (name : ByteArray) (p : Nat) (m v : ByteArray) (w : World) (h0 : n ≤ 65536) (h2 : name.size ≤ 1048576) (h3 : m.size ≤ 1048576) (h4 : v.size ≤ 1048576) (hp : p ≤ n) (r0 : RowS w a0 n N) (r1 : RowS w a1 n V) :
    Calls Try.prog 4 #[.slice a0 n c0, .slice a1 n c1, .string name, .int .i64 p, .string m, .string v] w fun e w' => e = .returned (.bool true) ∧ Below w.heap.size w w' := by
  have H : Hid (Calls Try.prog 10 #[.slice a0 n c0, .slice a1 n c1, .string name, .int .i64 p, .string m, .string v] w (BoolEnds w)) := bytes10_any a0 a1 n c0 n c1 N V name p m v w (by unfold maxLen; omega) (by unfold maxLen; omega) (by unfold maxLen; omega) (by unfold maxLen; omega) (by unfold maxLen; omega) r0 r1
  have H6 : Hid (Calls Try.prog 6 #[.slice a0 n c0, .slice a1 n c1, .int .i64 name.size, .int .i64 m.size, .int .i64 v.size] w (BoolEnds w)) := big_any a0 a1 n c0 n c1 N V name.size m.size v.size w h0 h0 (by omega) (by omega) (by omega) (by omega) (by omega) (by omega) r0 r1
  have R0 : Hid (RowS w a0 n N) := r0
  have R1 : Hid (RowS w a1 n V) := r1
  clear r0 r1
  obtain ⟨i0, hi, hz0, hz1, hz2⟩ := info_parts Try.info29
  go_enter Try.func4, Try.ntmps4
  go_wp2_with (first | (go_at_call 10; refine H.out.mono ?_; rintro e w' ⟨r, rfl, hw⟩; rw [hw]; clear hw) | (go_at_call 6; refine H6.out.mono ?_; rintro e w' ⟨r6, rfl, hw⟩; rw [hw]; clear hw) | (go_at_call 7; refine (sorted_any a0 n c0 N w h0 R0.out).mono ?_))
  all_goals first | (go_ret; exact ⟨rfl, Below.refl _ _⟩; done) | skip
  rintro e w' ⟨r7, rfl, hsrt, d, hw⟩
  rw [hw]
  clear hw H H6
  cases r7 with
  | false =>
    clear hsrt
    go_wp2
    go_ret
    exact ⟨rfl, below_drewN _ _ _⟩
  | true =>
    have HS : Hid (Sorted (fun j => (N j).data.toList) n) := hsrt rfl
    clear hsrt
    have HWD : Hid (Below w.heap.size w (w.drewN d)) := below_drewN _ _ _
    -- the two tests on the place
    have hlo : (0 < p ∧ Op.bytesLess m.toList (N (p - 1)).toList = true) ∨ Hid (0 < p → Op.bytesLess m.toList (N (p - 1)).toList = false) := by
      by_cases h : 0 < p ∧ Op.bytesLess m.toList (N (p - 1)).toList = true
      · exact .inl h
      · refine .inr (fun hp0 => ?_)
        rcases hb : Op.bytesLess m.toList (N (p - 1)).toList with _ | _
        · rfl
        · exact absurd ⟨hp0, hb⟩ h
    rcases hlo with ⟨hp0, hless⟩ | HLO
    · rcases R0.out with h | ⟨b0, off0, rfl, hr0⟩
      · omega
      have ck := (hr0 (p - 1) (by omega)).1
      clear hr0
      go_wp2
      go_ret
      exact ⟨rfl, below_drewN _ _ _⟩
    have hhi : (p < n ∧ Op.bytesLess (N p).toList m.toList = true) ∨ Hid (p < n → Op.bytesLess (N p).toList m.toList = false) := by
      by_cases h : p < n ∧ Op.bytesLess (N p).toList m.toList = true
      · exact .inl h
      · refine .inr (fun hpn => ?_)
        rcases hb : Op.bytesLess (N p).toList m.toList with _ | _
        · rfl
        · exact absurd ⟨hpn, hb⟩ h
    rcases hhi with ⟨hpn, hless⟩ | HHI
    · rcases R0.out with h | ⟨b0, off0, rfl, hr0⟩
      · omega
      have ck := (hr0 p hpn).1
      by_cases hp0 : 0 < p
      · have ck1 := (hr0 (p - 1) (by omega)).1
        have hl1 := HLO.out hp0
        clear hr0
        go_wp2
        go_ret
        exact ⟨rfl, below_drewN _ _ _⟩
      · clear hr0
        go_wp2
        go_ret
        exact ⟨rfl, below_drewN _ _ _⟩
    have HSI : Hid (Sorted (fun j => (insF N p m j).data.toList) (n + 1)) := sorted_ins HS.out hp (fun h => le_of_not_less (by rw [← toList_less]; exact HLO.out h)) (fun h => le_of_not_less (by rw [← toList_less]; exact HHI.out h))
    by_cases hp0 : 0 < p
    all_goals by_cases hpn : p < n
    all_goals (
      first
        | (
          have hway := And.intro hp0 hpn
          have hw0 : 0 < p := hway.1
          have hw1 : p < n := hway.2
          rcases R0.out with h | ⟨b0, off0, rfl, hr0⟩
          · omega
          have ck := (hr0 p hw1).1
          have ck1 := (hr0 (p - 1) (by omega)).1
          have hl1 := HLO.out hw0
          have hl2 := HHI.out hw1
          clear hr0 hway hw0 hw1
          go_wp2_with fail
          clear ck ck1 hl1 hl2
          )
        | (
          have hw0 : 0 < p := hp0
          rcases R0.out with h | ⟨b0, off0, rfl, hr0⟩
          · omega
          have ck1 := (hr0 (p - 1) (by omega)).1
          have hl1 := HLO.out hw0
          clear hr0 hw0
          go_wp2_with fail
          clear ck1 hl1
          )
        | (
          have hw1 : p < n := hpn
          rcases R0.out with h | ⟨b0, off0, rfl, hr0⟩
          · omega
          have ck := (hr0 p hw1).1
          have hl2 := HHI.out hw1
          clear hr0 hw1
          go_wp2_with fail
          clear ck hl2
          )
        | go_wp2_with fail
      refine (params_any _ a1 n c0 c1 N V (w.drewN d) h0 (R0.out.below HWD.out) (R1.out.below HWD.out)).mono ?_
      rintro e w1 ⟨rfl, hrp, hb1⟩
      have HP1 : Hid (RowP w1 (some ⟨w.heap.size, 0, none⟩) n N V) := hrp
      have HB1 : Hid (Below w.heap.size w w1) := below_on HWD.out hb1
      clear hrp hb1
      go_wp2_with (at_make; refine wpList_make_full _ rfl (.tmp 105) (.tmp 105) 26 rfl w1.heap.size 29 i0 (.agg #[.string ⟨#[]⟩, .string ⟨#[]⟩]) 2 Try.underlying26 hi hz0 hz1 .i64 .i64 ((n : Int) + 1) ((n : Int) + 1) (n + 1) rfl rfl (by omega) (by omega) (by rw [hz2]; omega) (by unfold maxLen; omega) (Nat.le_refl _) ?_; intro w2 hown hgrow)
      have H0 : Hid (w2.ownsRow w1.heap.size 29 2 (.slice (some ⟨w1.heap.size, 0, none⟩) (n + 1) (n + 1)) (n + 1) (pfilled (insF N p m) (insF V p v) (n + 1) 0)) := by
        rw [made_two (insF N p m) (insF V p v) (n + 1)] at hown
        exact hown
      have H1 : Hid (Below w1.heap.size w1 w2) := (Below.refl _ _).grown hgrow (Nat.le_refl _) (fun k h => by cases h)
      clear hown hgrow
      go_loopw [15] (fun i wr => ∃ k : Nat, k ≤ p ∧ i = .int .i64 k ∧ Hid (wr.ownsRow w1.heap.size 29 2 (.slice (some ⟨w1.heap.size, 0, none⟩) (n + 1) (n + 1)) (n + 1) (pfilled (insF N p m) (insF V p v) (n + 1) k)) ∧ Hid (Below w1.heap.size w1 wr)) (fun i _ => p - (intOf i).toNat)
      case atStart => exact ⟨0, Nat.zero_le _, rfl, H0, H1⟩
      case round =>
        obtain ⟨k, hk, rfl, HO, HB⟩ := hrel
        by_cases hlt : k < p
        · first
            | (exfalso; omega)
            | (
                rcases HP1.out.below HB.out with h | ⟨bb, off, e, hr⟩
                · omega
                simp only [Option.some.injEq, Addr.mk.injEq] at e
                obtain ⟨rfl, rfl, _⟩ := e
                have hck := hr k (by omega)
                rw [show 0 + k * 2 = k * 2 by omega] at hck
                have ck := hck.1
                have cv := hck.2
                clear hck hr
                have d0 : wr.cell? ⟨w1.heap.size, k * 2, none⟩ = some (pcell (insF N p m) (insF V p v) k (k * 2)) := by rw [HO.out.cellAt (k * 2) (by omega), pfilled_get _ _ (n + 1) k _ (by omega)]
                have d1 : wr.cell? ⟨w1.heap.size, k * 2 + 1, none⟩ = some (pcell (insF N p m) (insF V p v) k (k * 2 + 1)) := by rw [HO.out.cellAt (k * 2 + 1) (by omega), pfilled_get _ _ (n + 1) k _ (by omega)]
                have e0 : wr.frozen? ⟨w1.heap.size, k * 2, none⟩ = false := HO.out.frozenAt _
                have e1 : wr.frozen? ⟨w1.heap.size, k * 2 + 1, none⟩ = false := HO.out.frozenAt _
                generalize pcell (insF N p m) (insF V p v) k (k * 2) = q0 at d0
                generalize pcell (insF N p m) (insF V p v) k (k * 2 + 1) = q1 at d1
                go_wp2
                have HO2 : ((wr.setCell ⟨w1.heap.size, k * 2, none⟩ (.string (N k))).setCell ⟨w1.heap.size, k * 2 + 1, none⟩ (.string (V k))).ownsRow w1.heap.size 29 2 (.slice (some ⟨w1.heap.size, 0, none⟩) (n + 1) (n + 1)) (n + 1) (pfilled (insF N p m) (insF V p v) (n + 1) (k + 1)) := by
                  rw [← pfilled_set _ _ (n + 1) k (by omega), ins_lt hlt, ins_lt hlt]
                  exact ((HO.out.stored (k * 2) _).1.stored (k * 2 + 1) _).1
                have HB2 : Below w1.heap.size w1 ((wr.setCell ⟨w1.heap.size, k * 2, none⟩ (.string (N k))).setCell ⟨w1.heap.size, k * 2 + 1, none⟩ (.string (V k))) := (HB.out.setCell (Nat.le_refl _) _).setCell (Nat.le_refl _) _
                go_roundw
                case rel => exact ⟨k + 1, by omega, by go_num, HO2, HB2⟩
                case measure => simp [intOf]; omega
              )
        · obtain rfl : p = k := by omega
          have d0 : wr.cell? ⟨w1.heap.size, p * 2, none⟩ = some (pcell (insF N p m) (insF V p v) p (p * 2)) := by rw [HO.out.cellAt (p * 2) (by omega), pfilled_get _ _ (n + 1) p _ (by omega)]
          have d1 : wr.cell? ⟨w1.heap.size, p * 2 + 1, none⟩ = some (pcell (insF N p m) (insF V p v) p (p * 2 + 1)) := by rw [HO.out.cellAt (p * 2 + 1) (by omega), pfilled_get _ _ (n + 1) p _ (by omega)]
          have e0 : wr.frozen? ⟨w1.heap.size, p * 2, none⟩ = false := HO.out.frozenAt _
          have e1 : wr.frozen? ⟨w1.heap.size, p * 2 + 1, none⟩ = false := HO.out.frozenAt _
          generalize pcell (insF N p m) (insF V p v) p (p * 2) = q0 at d0
          generalize pcell (insF N p m) (insF V p v) p (p * 2 + 1) = q1 at d1
          have HO2 : Hid (((wr.setCell ⟨w1.heap.size, p * 2, none⟩ (.string m)).setCell ⟨w1.heap.size, p * 2 + 1, none⟩ (.string v)).ownsRow w1.heap.size 29 2 (.slice (some ⟨w1.heap.size, 0, none⟩) (n + 1) (n + 1)) (n + 1) (pfilled (insF N p m) (insF V p v) (n + 1) (p + 1))) := by
            rw [← pfilled_set _ _ (n + 1) p (by omega), ins_eq, ins_eq]
            exact ((HO.out.stored (p * 2) _).1.stored (p * 2 + 1) _).1
          have HB2 : Hid (Below w1.heap.size w1 ((wr.setCell ⟨w1.heap.size, p * 2, none⟩ (.string m)).setCell ⟨w1.heap.size, p * 2 + 1, none⟩ (.string v))) := (HB.out.setCell (Nat.le_refl _) _).setCell (Nat.le_refl _) _
          go_wp2
          go_loopw [16] (fun i wr => ∃ k : Nat, p ≤ k ∧ k ≤ n ∧ i = .int .i64 k ∧ Hid (wr.ownsRow w1.heap.size 29 2 (.slice (some ⟨w1.heap.size, 0, none⟩) (n + 1) (n + 1)) (n + 1) (pfilled (insF N p m) (insF V p v) (n + 1) (k + 1))) ∧ Hid (Below w1.heap.size w1 wr)) (fun i _ => n - (intOf i).toNat)
          case atStart => exact ⟨p, Nat.le_refl _, hp, rfl, HO2, HB2⟩
          case round =>
            clear HO2 HB2 HO HB d0 d1 e0 e1 hlt hk
            obtain ⟨k, hpk, hkn, rfl, HO, HB⟩ := hrel
            by_cases hlt : k < n
            · first
                | (exfalso; omega)
                | (
                    rcases HP1.out.below HB.out with h | ⟨bb, off, e, hr⟩
                    · omega
                    simp only [Option.some.injEq, Addr.mk.injEq] at e
                    obtain ⟨rfl, rfl, _⟩ := e
                    have hck := hr k (by omega)
                    rw [show 0 + k * 2 = k * 2 by omega] at hck
                    have ck := hck.1
                    have cv := hck.2
                    clear hck hr
                    have d0 : wr.cell? ⟨w1.heap.size, (k + 1) * 2, none⟩ = some (pcell (insF N p m) (insF V p v) (k + 1) ((k + 1) * 2)) := by rw [HO.out.cellAt ((k + 1) * 2) (by omega), pfilled_get _ _ (n + 1) (k + 1) _ (by omega)]
                    have d1 : wr.cell? ⟨w1.heap.size, (k + 1) * 2 + 1, none⟩ = some (pcell (insF N p m) (insF V p v) (k + 1) ((k + 1) * 2 + 1)) := by rw [HO.out.cellAt ((k + 1) * 2 + 1) (by omega), pfilled_get _ _ (n + 1) (k + 1) _ (by omega)]
                    have e0 : wr.frozen? ⟨w1.heap.size, (k + 1) * 2, none⟩ = false := HO.out.frozenAt _
                    have e1 : wr.frozen? ⟨w1.heap.size, (k + 1) * 2 + 1, none⟩ = false := HO.out.frozenAt _
                    generalize pcell (insF N p m) (insF V p v) (k + 1) ((k + 1) * 2) = q0 at d0
                    generalize pcell (insF N p m) (insF V p v) (k + 1) ((k + 1) * 2 + 1) = q1 at d1
                    go_wp2
                    have HO2 : ((wr.setCell ⟨w1.heap.size, (k + 1) * 2, none⟩ (.string (N k))).setCell ⟨w1.heap.size, (k + 1) * 2 + 1, none⟩ (.string (V k))).ownsRow w1.heap.size 29 2 (.slice (some ⟨w1.heap.size, 0, none⟩) (n + 1) (n + 1)) (n + 1) (pfilled (insF N p m) (insF V p v) (n + 1) (k + 1 + 1)) := by
                      rw [← pfilled_set _ _ (n + 1) (k + 1) (by omega), ins_succ hpk, ins_succ hpk]
                      exact ((HO.out.stored ((k + 1) * 2) _).1.stored ((k + 1) * 2 + 1) _).1
                    have HB2 : Below w1.heap.size w1 ((wr.setCell ⟨w1.heap.size, (k + 1) * 2, none⟩ (.string (N k))).setCell ⟨w1.heap.size, (k + 1) * 2 + 1, none⟩ (.string (V k))) := (HB.out.setCell (Nat.le_refl _) _).setCell (Nat.le_refl _) _
                    go_roundw
                    case rel => exact ⟨k + 1, by omega, by omega, by go_num, HO2, HB2⟩
                    case measure => simp [intOf]; omega
                  )
            · obtain rfl : n = k := by omega
              have HA : Hid (RowP wr (some ⟨w1.heap.size, 0, none⟩) (n + 1) (insF N p m) (insF V p v)) := by
                refine .inr ⟨_, _, rfl, fun j hj => ?_⟩
                rw [HO.out.cellAt (0 + j * 2) (by omega), HO.out.cellAt (0 + j * 2 + 1) (by omega), pfilled_get _ _ (n + 1) (n + 1) _ (by omega), pfilled_get _ _ (n + 1) (n + 1) _ (by omega)]
                have a1 : (0 + j * 2) / 2 = j := by omega
                have a2 : (0 + j * 2) % 2 = 0 := by omega
                have a3 : (0 + j * 2 + 1) / 2 = j := by omega
                have a4 : (0 + j * 2 + 1) % 2 = 1 := by omega
                simp only [pcell, a1, a2, a3, a4, if_pos hj]
                exact ⟨rfl, rfl⟩
              clear HO
              have HP2 : Hid (RowP wr (some ⟨w.heap.size, 0, none⟩) n N V) := HP1.out.below HB.out
              have HB3 : Hid (Below w.heap.size w wr) := below_on HB1.out HB.out
              go_wp2_with fail
              refine (zzfind_any _ n n N V name wr (by omega) HS.out HP2.out).mono ?_
              intro e w3 hends
              obtain ⟨gn, gv, gok, rfl, hans, hb3⟩ := hends.ans
              have HG : Hid (FindAns N V n name gn gv gok) := hans
              have HB4 : Hid (Below wr.heap.size wr (w3.alloc (.cells #[.string gn, .string gv] 29))) := hb3.alloc hb3.size _
              clear hans hb3 hends
              go_wp2_with fail
              refine (zzfind_any _ (n + 1) (n + 1) (insF N p m) (insF V p v) name _ (by omega) HSI.out (HA.out.below HB4.out)).mono ?_
              intro e w4 hends
              obtain ⟨an, av, aok, rfl, hans, hb4⟩ := hends.ans
              have HF : Hid (FindAns (insF N p m) (insF V p v) (n + 1) name an av aok) := hans
              have HB5 : Hid (Below w.heap.size w w4) := below_on (below_on HB3.out HB4.out) hb4
              have hg0' : Hid (w4.cell? ⟨w3.heap.size, 0, none⟩ = some (.string gn)) := cell_later hb4 (by simp)
              have hg1' : Hid (w4.cell? ⟨w3.heap.size, 1, none⟩ = some (.string gv)) := cell_later hb4 (by simp)
              have hg0 : ∀ o, (w4.alloc o).cell? ⟨w3.heap.size, 0, none⟩ = some (.string gn) := fun o => cell?_alloc_old hg0'.out
              have hg1 : ∀ o, (w4.alloc o).cell? ⟨w3.heap.size, 1, none⟩ = some (.string gv) := fun o => cell?_alloc_old hg1'.out
              clear hans hb4 hends hg0' hg1' HB4
              by_cases hne : name = m
              · subst hne
                have hq : (name.toList == name.toList) = true := by simp
                by_cases hq0 : 0 < p ∧ N (p - 1) = name
                · first
                    | (exfalso; omega)
                    | (
                        obtain ⟨hq1, hq2⟩ := hq0
                        obtain ⟨k1, k2, k3, k4, k5⟩ := ans_before hp hq1 hq2 HG.out HF.out
                        have k5' := k5.symm
                        subst k1 k2 k5'
                        have k3' := k3.symm
                        subst k3' k4
                        have hq3 : ((N (p - 1)).toList == name.toList) = true := by rw [hq2]; simp
                        rcases R0.out with h | ⟨b2, off2, e2, hr0⟩
                        · omega
                        have ck0 := cell_later HB5.out (hr0 (p - 1) (by omega)).1
                        have ck : ∀ o, (w4.alloc o).cell? ⟨b2, off2 + (p - 1), none⟩ = some (.string (N (p - 1))) := fun o => cell?_alloc_old ck0
                        clear hr0 ck0 HG HF hq2
                        first | (cases e2) | (subst e2)
                        go_wp2
                        go_ret
                        exact ⟨rfl, HB5.out.alloc HB5.out.size _⟩
                      )
                · have hn1 : 0 < p → N (p - 1) ≠ name := fun h1 h2 => hq0 ⟨h1, h2⟩
                  obtain ⟨k1, k2, k3⟩ := ans_new HS.out hp (fun h => le_of_not_less (by rw [← toList_less]; exact HLO.out h)) hn1 HF.out
                  have k2' := k2.symm
                  have k3' := k3.symm
                  subst k1 k2' k3'
                  have hv : (v.toList == v.toList) = true := by simp
                  by_cases hq1 : 0 < p
                  · first
                      | (exfalso; omega)
                      | (
                          have hq3 : ((N (p - 1)).toList == name.toList) = false := by
                            rw [ByteArray.toList_eq, ByteArray.toList_eq]
                            simp only [beq_eq_false_iff_ne, ne_eq]
                            exact fun h => hn1 hq1 (bytes_eq h)
                          rcases R0.out with h | ⟨b2, off2, e2, hr0⟩
                          · omega
                          have ck0 := cell_later HB5.out (hr0 (p - 1) (by omega)).1
                          have ck : ∀ o, (w4.alloc o).cell? ⟨b2, off2 + (p - 1), none⟩ = some (.string (N (p - 1))) := fun o => cell?_alloc_old ck0
                          clear hr0 ck0 HG HF hq0 hn1
                          first | (cases e2) | (subst e2)
                          go_wp2
                          go_ret
                          exact ⟨rfl, HB5.out.alloc HB5.out.size _⟩
                        )
                  · first
                      | (exfalso; omega)
                      | (
                          clear HG HF hq0 hn1
                          go_wp2
                          go_ret
                          exact ⟨rfl, HB5.out.alloc HB5.out.size _⟩
                        )
              · have hq : (name.toList == m.toList) = false := by
                  rw [ByteArray.toList_eq, ByteArray.toList_eq]
                  simp only [beq_eq_false_iff_ne, ne_eq]
                  exact fun h => hne (bytes_eq h)
                obtain ⟨rfl, rfl, rfl⟩ := ans_other hp hne HG.out HF.out
                clear hne HG HF
                go_wp2
                go_ret
                exact ⟨rfl, HB5.out.alloc HB5.out.size _⟩
      )

/-- THE WALK OF THE LAW. -/
theorem insert_all (a0 a1 : Option Addr) (l0 c0 l1 c1 : Nat) (N V : Nat → ByteArray) (name : ByteArray) (p : Int) (m v : ByteArray) (w : World) (h0 : l0 ≤ maxLen) (h1 : l1 ≤ maxLen) (h2 : name.size ≤ maxLen) (h3 : m.size ≤ maxLen) (h4 : v.size ≤ maxLen) (r0 : RowS w a0 l0 N) (r1 : RowS w a1 l1 V) :
    Calls Try.prog 4 #[.slice a0 l0 c0, .slice a1 l1 c1, .string name, .int .i64 p, .string m, .string v] w fun e w' => e = .returned (.bool true) ∧ Below w.heap.size w w' := by
  by_cases hb : 65536 < l0 ∨ 65536 < l1 ∨ 1048576 < name.size ∨ 1048576 < m.size ∨ 1048576 < v.size
  · exact insert_big a0 a1 l0 c0 l1 c1 N V name p m v w h0 h1 h2 h3 h4 r0 r1 hb
  by_cases ho : l0 ≠ l1 ∨ p < 0 ∨ (l0 : Int) < p
  · exact insert_out a0 a1 l0 c0 l1 c1 N V name p m v w (by omega) (by omega) (by omega) (by omega) (by omega) r0 r1 ho
  · obtain rfl : l0 = l1 := by omega
    obtain ⟨kn, rfl⟩ : ∃ kn : Nat, p = kn := ⟨p.toNat, by omega⟩
    exact insert_main a0 a1 l0 c0 c1 N V name kn m v w (by omega) (by omega) (by omega) (by omega) (by omega) r0 r1
end Go.Proofs.Qxb6617583a
