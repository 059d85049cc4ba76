import Derived.Test.Qxb6617060aFmtStops
import Derived.Test.Qxb6617060aFmtShelf
import Derived.Test.Qxb6617060aFmtPlain
import Derived.Lib.IndexBytes
namespace Go.Proofs.Qxb6617060aFmt
open Go.RowKit Go.Extern.Stop Go.Stop Go.Extern
set_option linter.unusedVariables false

/-- A package-level error variable: whatever it holds. -/
def IsErr (w : World) (g : Nat) : Prop := ∃ ev, w.cell? ⟨g, 0, none⟩ = some ev ∧ (ev = .nilIface ∨ ∃ te pe, ev = .iface te pe)

/-- How parseSize ends. -/
def ParseEnds (w : World) (o : Option Nat) (e : Ending) (w' : World) : Prop :=
  Below w.heap.size w w' ∧ ((∃ n : Nat, o = some n ∧ e = .returned (.tuple #[.int .i64 n, .nilIface])) ∨
    (o = none ∧ ∃ x, e = .returned (.tuple #[.int .i64 0, .iface 48 (.pointer (some ⟨x, 0, none⟩))])))

theorem IsErr.below {w w' : World} {g : Nat} (h : IsErr w g) (hb : Below w.heap.size w w') : IsErr w' g := by
  obtain ⟨ev, h1, h2⟩ := h
  refine ⟨ev, ?_, h2⟩
  have hlt : g < w.heap.size := by
    rcases Nat.lt_or_ge g w.heap.size with h' | h'
    · exact h'
    · simp [World.cell?, Array.getElem?_eq_none h'] at h1
  exact (hb.cell (p := ⟨g, 0, none⟩) hlt).trans h1

/-- How strconv.ParseUint(s, 10, 32) ends. -/
def UintEnds (w : World) (p : Lib.NumEnd Nat) (e : Ending) (w' : World) : Prop :=
  Below w.heap.size w w' ∧ ((∃ u : Nat, p = .ok u ∧ e = .returned (.tuple #[.int .u64 u, .nilIface])) ∨
    ((∀ u, p ≠ .ok u) ∧ ∃ (v : Int) (x : Value), e = .returned (.tuple #[.int .u64 v, .iface 45 x])))

theorem uint_any (s : ByteArray) (w : World) (h2 : s.size ≤ 1048577) (he0 : IsErr w 0) (he1 : IsErr w 1) :
    Calls Tryf.prog 13 #[.string s, .int .i64 10, .int .i64 32] w (UintEnds w (Lib.parseUintB 32 s.data.toList)) := by
  rcases hp : Lib.parseUintB 32 s.data.toList with u | _ | _
  · have hc := Any.strconv_ParseUint_10_at32_ok Tryf.laysPu14 s (by omega) u hp w
    refine hc.mono ?_
    rintro e w' ⟨rfl, hw⟩
    refine ⟨?_, .inl ⟨u, rfl, rfl⟩⟩
    rcases hw with rfl | rfl
    · exact Below.refl _ _
    · exact Lib.bytesWorld_below _ _ _
  · obtain ⟨ev, hv, hev⟩ := he0
    have hc := Any.strconv_ParseUint_10_at32_syntax Tryf.laysPu14 s (by omega) hp ev w hv hev
    refine hc.mono ?_
    rintro e w' ⟨N, rfl, _, _, hb⟩
    exact ⟨hb, .inr ⟨(fun u h => by cases h), _, _, rfl⟩⟩
  · obtain ⟨ev, hv, hev⟩ := he1
    have hc := Any.strconv_ParseUint_10_at32_range Tryf.laysPu14 s (by omega) hp ev w hv hev
    refine hc.mono ?_
    rintro e w' ⟨N, rfl, _, _, hb⟩
    exact ⟨hb, .inr ⟨(fun u h => by cases h), _, _, rfl⟩⟩

theorem cells_two (W : World) (a b : Value) : (W.alloc (.cells #[a, b] 20)).cell? ⟨W.heap.size, 0, none⟩ = some a ∧ (W.alloc (.cells #[a, b] 20)).cell? ⟨W.heap.size, 1, none⟩ = some b := by
  constructor <;> simp

set_option maxHeartbeats 1000000 in
theorem parse_any (tag : ByteArray) (w : World) (h1 : 1 ≤ tag.size) (h2 : tag.size ≤ 1048577) (he0 : IsErr w 0) (he1 : IsErr w 1) :
    Calls Tryf.prog 11 #[.string tag] w (ParseEnds w (szOf (tag.data.toList.drop 1))) := by
  have hs : (tag.extract 1 tag.size).data.toList = tag.data.toList.drop 1 := Lib.extract_to_end tag 1
  have hz : (tag.extract 1 tag.size).size ≤ 1048577 := by rw [Lib.size_eq, hs]; have := Lib.size_eq tag; simp; omega
  have HU := uint_any (tag.extract 1 tag.size) w hz he0 he1
  rw [hs] at HU
  generalize ho : szOf (tag.data.toList.drop 1) = o
  have HO : Hid (szOf (tag.data.toList.drop 1) = o) := ho
  have HU' : Hid (Calls Tryf.prog 13 #[.string (tag.extract 1 tag.size), .int .i64 10, .int .i64 32] w (UintEnds w (Lib.parseUintB 32 (tag.data.toList.drop 1)))) := HU
  clear HU ho hs hz
  go_enter Tryf.func11, Tryf.ntmps11
  go_wp2_with fail
  refine HU'.out.mono ?_
  clear HU'
  rintro e w1 ⟨hb, ⟨u, hu, rfl⟩ | ⟨hno, v, x, rfl⟩⟩
  · have HB : Hid (Below w.heap.size w w1) := hb
    have HU2 : Hid (szOf (tag.data.toList.drop 1) = if 1 ≤ u ∧ u ≤ 16384 then some u else none) := show szOf (tag.data.toList.drop 1) = _ by unfold szOf; rw [hu]
    clear hu hb
    by_cases hlo : 1 ≤ u
    · by_cases hhi : u ≤ 16384
      · go_wp2
        go_ret2
        exact ⟨HB.out, .inl ⟨u, by rw [← HO.out, HU2.out, if_pos ⟨hlo, hhi⟩], rfl⟩⟩
      · go_wp2_with fail
        refine (errorf_any tag _ _ (cells_two w1 _ _).1 (cells_two w1 _ _).2).mono ?_
        rintro e w2 ⟨rfl, hb2⟩
        have HB2 : Hid (Below w.heap.size w w2) := show Below w.heap.size w w2 from (HB.out.alloc HB.out.size _).trans (hb2.mono (by have := HB.out.size; simp; omega))
        clear hb2
        go_wp2
        go_ret2
        exact ⟨HB2.out, .inr ⟨by rw [← HO.out, HU2.out, if_neg (fun h => hhi h.2)], _, rfl⟩⟩
    · go_wp2_with fail
      refine (errorf_any tag _ _ (cells_two w1 _ _).1 (cells_two w1 _ _).2).mono ?_
      rintro e w2 ⟨rfl, hb2⟩
      have HB2 : Hid (Below w.heap.size w w2) := show Below w.heap.size w w2 from (HB.out.alloc HB.out.size _).trans (hb2.mono (by have := HB.out.size; simp; omega))
      clear hb2
      go_wp2
      go_ret2
      exact ⟨HB2.out, .inr ⟨by rw [← HO.out, HU2.out, if_neg (fun h => hlo h.1)], _, rfl⟩⟩
  · have HB : Hid (Below w.heap.size w w1) := hb
    have HN : Hid (szOf (tag.data.toList.drop 1) = none) := show szOf (tag.data.toList.drop 1) = none by
      unfold szOf
      rcases hp : Lib.parseUintB 32 (tag.data.toList.drop 1) with u | _ | _
      · exact absurd hp (hno u)
      · rfl
      · rfl
    clear hno hb
    go_wp2_with fail
    refine (errorf_any tag _ _ (cells_two w1 _ _).1 (cells_two w1 _ _).2).mono ?_
    rintro e w2 ⟨rfl, hb2⟩
    have HB2 : Hid (Below w.heap.size w w2) := show Below w.heap.size w w2 from (HB.out.alloc HB.out.size _).trans (hb2.mono (by have := HB.out.size; simp; omega))
    clear hb2
    go_wp2
    go_ret2
    exact ⟨HB2.out, .inr ⟨by rw [← HO.out]; exact HN.out, _, rfl⟩⟩

/-- ZZparseSize passes on. -/
theorem zz_any (tag : ByteArray) (w : World) (h1 : 1 ≤ tag.size) (h2 : tag.size ≤ 1048577) (he0 : IsErr w 0) (he1 : IsErr w 1) :
    Calls Tryf.prog 6 #[.string tag] w (ParseEnds w (szOf (tag.data.toList.drop 1))) := by
  generalize ho : szOf (tag.data.toList.drop 1) = o
  have HO : Hid (szOf (tag.data.toList.drop 1) = o) := ho
  clear ho
  have HP := parse_any tag w h1 h2 he0 he1
  rw [HO.out] at HP
  have HP' : Hid (Calls Tryf.prog 11 #[.string tag] w (ParseEnds w o)) := HP
  clear HP
  go_enter Tryf.func6, Tryf.ntmps6
  go_wp2_with fail
  refine HP'.out.mono ?_
  clear HP'
  rintro e w1 ⟨hb, ⟨n, hn, rfl⟩ | ⟨hn, x, rfl⟩⟩
  · have HB : Hid (Below w.heap.size w w1) := hb
    have HN : Hid (o = some n) := hn
    clear hn hb
    go_wp2
    go_ret2
    exact ⟨HB.out, .inl ⟨n, HN.out, rfl⟩⟩
  · have HB : Hid (Below w.heap.size w w1) := hb
    have HN : Hid (o = none) := hn
    clear hn hb
    go_wp2
    go_ret2
    exact ⟨HB.out, .inr ⟨HN.out, x, rfl⟩⟩
end Go.Proofs.Qxb6617060aFmt
