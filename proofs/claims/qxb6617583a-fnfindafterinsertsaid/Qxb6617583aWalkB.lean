import Derived.Test.Qxb6617583aWalkA
namespace Go.Proofs.Qxb6617583a
open Go.ChangeShapes Go.WideShapes Go.ChangeAt Go.RowKit
set_option linter.unusedVariables false

/-- How find ends. -/
def FindEnds (W : World) (N V : Nat → ByteArray) (n : Nat) (name : ByteArray) (e : Ending) (w' : World) : Prop :=
  Below W.heap.size W w' ∧ ((∃ i, i < n ∧ N i = name ∧ (∀ t, t < i → N t ≠ name) ∧ e = .returned (.tuple #[.agg #[.string (N i), .string (V i)], .bool true])) ∨
    ((∀ t, t < n → N t ≠ name) ∧ e = .returned (.tuple #[.agg #[.string ⟨#[]⟩, .string ⟨#[]⟩], .bool false])))

theorem bytes_eq {a b : ByteArray} (h : a.data.toList = b.data.toList) : a = b := by
  obtain ⟨⟨l⟩⟩ := a
  obtain ⟨⟨m⟩⟩ := b
  simp at h
  rw [h]
theorem ne_of_cmp {a b : ByteArray} (h : Lib.compareBytes a.data.toList b.data.toList ≠ 0) : a ≠ b := by
  rintro rfl
  exact h ((cmp_zero _ _).2 rfl)

theorem RowP.below {w w1 : World} {a : Option Addr} {n : Nat} {N V : Nat → ByteArray} (h : RowP w a n N V) (hb : Below w.heap.size w w1) : RowP w1 a n N V := by
  rcases h with h | ⟨b, off, e, h⟩
  · exact .inl h
  · exact .inr ⟨b, off, e, fun j hj => ⟨cell_later hb (h j hj).1, cell_later hb (h j hj).2⟩⟩
theorem bcell {W w1 : World} (hb : Below W.heap.size W w1) : (∀ b o, b < W.heap.size → w1.cell? ⟨b, o, none⟩ = W.cell? ⟨b, o, none⟩) ∧ (∀ b o, b < W.heap.size → w1.frozen? ⟨b, o, none⟩ = W.frozen? ⟨b, o, none⟩) :=
  ⟨fun b o h => hb.cell (p := ⟨b, o, none⟩) h, fun b o h => hb.frozen (p := ⟨b, o, none⟩) h⟩

theorem two_set (w1 : World) (g : Nat) (u0 u1 v0 v1 : Value) (x0 : w1.cell? ⟨g, 0, none⟩ = some u0) (x1 : w1.cell? ⟨g, 1, none⟩ = some u1) :
    ((w1.setCell ⟨g, 0, none⟩ v0).setCell ⟨g, 1, none⟩ v1).cell? ⟨g, 0, none⟩ = some v0 ∧ ((w1.setCell ⟨g, 0, none⟩ v0).setCell ⟨g, 1, none⟩ v1).cell? ⟨g, 1, none⟩ = some v1 := by
  constructor <;> simp [go_sem, x0, x1]

set_option maxHeartbeats 1000000 in
theorem find_any (a : Option Addr) (n cap : Nat) (N V : Nat → ByteArray) (name : ByteArray) (w : World) (hn : n ≤ 1048577) (hs : Sorted (fun j => (N j).data.toList) n) (hr : RowP w a n N V) :
    Calls Try.prog 11 #[.slice a n cap, .string name] w (FindEnds w N V n name) := by
  have HR0 : Hid (RowP w a n N V) := hr
  have HS : Hid (Sorted (fun j => (N j).data.toList) n) := hs
  clear hr hs
  have HW : Hid (Below w.heap.size w (w.alloc (.cells #[.string ⟨#[]⟩, .string ⟨#[]⟩] 29))) := (Below.refl _ _).alloc (Nat.le_refl _) _
  go_enter Try.func11, Try.ntmps11
  go_wp2_with fail
  refine (search_any a n cap N V name _ hn HS.out (HR0.out.below HW.out)).mono ?_
  rintro e w1 ⟨hb, i, hi, hlo, hhi, rfl⟩
  have HB : Hid (Below w.heap.size w w1) := below_on HW.out hb
  have HLO : Hid (∀ t, t < i → Lib.compareBytes (N t).data.toList name.data.toList < 0) := hlo
  have HHI : Hid (∀ t, i ≤ t → t < n → 0 ≤ Lib.compareBytes (N t).data.toList name.data.toList) := hhi
  obtain ⟨hc, hf⟩ := bcell hb
  have x0 : w1.cell? ⟨w.heap.size, 0, none⟩ = some (.string ⟨#[]⟩) := by rw [hc _ _ (by simp)]; simp
  have x1 : w1.cell? ⟨w.heap.size, 1, none⟩ = some (.string ⟨#[]⟩) := by rw [hc _ _ (by simp)]; simp
  have y0 : w1.frozen? ⟨w.heap.size, 0, none⟩ = false := by rw [hf _ _ (by simp)]; simp
  have y1 : w1.frozen? ⟨w.heap.size, 1, none⟩ = false := by rw [hf _ _ (by simp)]; simp
  clear hc hf hlo hhi hb
  by_cases hfd : i < n ∧ Lib.compareBytes (N i).data.toList name.data.toList = 0
  · have hdec : decide (i < n ∧ Lib.compareBytes (N i).data.toList name.data.toList = 0) = true := decide_eq_true hfd
    rw [hdec]
    obtain ⟨hin, hz⟩ := hfd
    have HZ : Hid (Lib.compareBytes (N i).data.toList name.data.toList = 0) := hz
    clear hz hdec
    rcases HR0.out with h | ⟨b, off, rfl, hr⟩
    · omega
    have c0 := cell_later HB.out (hr i hin).1
    have c1 := cell_later HB.out (hr i hin).2
    have hbw : b < w.heap.size := cell_lt (hr i hin).1
    clear hr
    go_wp2
    obtain ⟨q0, q1⟩ := two_set w1 w.heap.size _ _ (.string (N i)) (.string (V i)) x0 x1
    refine bodyPost_ret (v := .tuple #[.agg #[.string (N i), .string (V i)], .bool true]) (by simp [results, Try.results11, go_sem, q0, q1]) rfl ⟨(HB.out.setCell (Nat.le_refl _) _).setCell (Nat.le_refl _) _, .inl ⟨i, hin, bytes_eq ((cmp_zero _ _).1 HZ.out), fun t ht => ne_of_cmp (by have := HLO.out t ht; omega), rfl⟩⟩
  · have hdec : decide (i < n ∧ Lib.compareBytes (N i).data.toList name.data.toList = 0) = false := decide_eq_false hfd
    rw [hdec]
    have HFD : Hid (¬ (i < n ∧ Lib.compareBytes (N i).data.toList name.data.toList = 0)) := hfd
    clear hfd hdec
    go_wp2
    obtain ⟨q0, q1⟩ := two_set w1 w.heap.size _ _ (.string ⟨#[]⟩) (.string ⟨#[]⟩) x0 x1
    refine bodyPost_ret (v := .tuple #[.agg #[.string ⟨#[]⟩, .string ⟨#[]⟩], .bool false]) (by simp [results, Try.results11, go_sem, q0, q1]) rfl ⟨(HB.out.setCell (Nat.le_refl _) _).setCell (Nat.le_refl _) _, .inr ⟨fun t ht => ne_of_cmp ?_, rfl⟩⟩
    by_cases hti : t < i
    · have := HLO.out t hti; omega
    · have h1 := HHI.out i (Nat.le_refl _) (by omega)
      have h2 : Lib.compareBytes (N i).data.toList name.data.toList ≠ 0 := fun h => HFD.out ⟨by omega, h⟩
      have := HS.out.after name.data.toList (a := i) (b := t) (by omega) ht (by show 0 < Lib.compareBytes (N i).data.toList name.data.toList; omega)
      omega

set_option maxHeartbeats 1000000 in
theorem zzfind_any (a : Option Addr) (n cap : Nat) (N V : Nat → ByteArray) (name : ByteArray) (w : World) (hn : n ≤ 1048577) (hs : Sorted (fun j => (N j).data.toList) n) (hr : RowP w a n N V) :
    Calls Try.prog 9 #[.slice a n cap, .string name] w (FindEnds w N V n name) := by
  have HR0 : Hid (RowP w a n N V) := hr
  have HS : Hid (Sorted (fun j => (N j).data.toList) n) := hs
  clear hr hs
  have HW : Hid (Below w.heap.size w (w.alloc (.cells #[.string ⟨#[]⟩, .string ⟨#[]⟩] 29))) := (Below.refl _ _).alloc (Nat.le_refl _) _
  go_enter Try.func9, Try.ntmps9
  go_wp2_with fail
  refine (find_any a n cap N V name _ hn HS.out (HR0.out.below HW.out)).mono ?_
  rintro e w1 ⟨hb, hends⟩
  have HB : Hid (Below w.heap.size w w1) := below_on HW.out hb
  obtain ⟨hc, hf⟩ := bcell hb
  have x0 : w1.cell? ⟨w.heap.size, 0, none⟩ = some (.string ⟨#[]⟩) := by rw [hc _ _ (by simp)]; simp
  have x1 : w1.cell? ⟨w.heap.size, 1, none⟩ = some (.string ⟨#[]⟩) := by rw [hc _ _ (by simp)]; simp
  have y0 : w1.frozen? ⟨w.heap.size, 0, none⟩ = false := by rw [hf _ _ (by simp)]; simp
  have y1 : w1.frozen? ⟨w.heap.size, 1, none⟩ = false := by rw [hf _ _ (by simp)]; simp
  clear hc hf hb
  rcases hends with ⟨i, hin, hi, hlt, rfl⟩ | ⟨hno, rfl⟩
  · have HI : Hid (N i = name ∧ ∀ t, t < i → N t ≠ name) := ⟨hi, hlt⟩
    clear hi hlt
    go_wp2
    obtain ⟨q0, q1⟩ := two_set w1 w.heap.size _ _ (.string (N i)) (.string (V i)) x0 x1
    exact bodyPost_ret (v := .tuple #[.agg #[.string (N i), .string (V i)], .bool true]) (by simp [results, Try.results9, go_sem, q0, q1]) rfl ⟨(HB.out.setCell (Nat.le_refl _) _).setCell (Nat.le_refl _) _, .inl ⟨i, hin, HI.out.1, HI.out.2, rfl⟩⟩
  · have HI : Hid (∀ t, t < n → N t ≠ name) := hno
    clear hno
    go_wp2
    obtain ⟨q0, q1⟩ := two_set w1 w.heap.size _ _ (.string ⟨#[]⟩) (.string ⟨#[]⟩) x0 x1
    exact bodyPost_ret (v := .tuple #[.agg #[.string ⟨#[]⟩, .string ⟨#[]⟩], .bool false]) (by simp [results, Try.results9, go_sem, q0, q1]) rfl ⟨(HB.out.setCell (Nat.le_refl _) _).setCell (Nat.le_refl _) _, .inr ⟨HI.out, rfl⟩⟩
end Go.Proofs.Qxb6617583a
