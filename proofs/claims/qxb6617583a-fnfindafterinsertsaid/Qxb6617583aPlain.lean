import Derived.Lib.Bytealg
import GoSem.Op.String
namespace Go.Proofs.Qxb6617583a
open Go Go.Lib

theorem u8_lt {a b : UInt8} : a < b ↔ a.toNat < b.toNat := UInt8.lt_iff_toNat_lt
theorem u8_eq {a b : UInt8} : a = b ↔ a.toNat = b.toNat := UInt8.toNat_inj.symm

theorem cmp_zero : ∀ x y : List UInt8, compareBytes x y = 0 ↔ x = y
  | [], [] => by simp [compareBytes]
  | [], b :: y => by simp [compareBytes]
  | a :: x, [] => by simp [compareBytes]
  | a :: x, b :: y => by
    simp only [compareBytes, u8_lt, List.cons.injEq, u8_eq]
    by_cases h1 : a.toNat < b.toNat
    · rw [if_pos h1]; constructor
      · intro h; omega
      · intro h; omega
    · rw [if_neg h1]
      by_cases h2 : b.toNat < a.toNat
      · rw [if_pos h2]; constructor
        · intro h; omega
        · intro h; omega
      · rw [if_neg h2, cmp_zero x y]
        constructor
        · intro h; exact ⟨by omega, h⟩
        · intro h; exact h.2

theorem cmp_neg : ∀ x y : List UInt8, compareBytes x y = - compareBytes y x
  | [], [] => by simp [compareBytes]
  | [], b :: y => by simp [compareBytes]
  | a :: x, [] => by simp [compareBytes]
  | a :: x, b :: y => by
    simp only [compareBytes, u8_lt]
    by_cases h1 : a.toNat < b.toNat
    · rw [if_pos h1, if_neg (by omega), if_pos h1]
    · rw [if_neg h1]
      by_cases h2 : b.toNat < a.toNat
      · rw [if_pos h2, if_pos h2]; rfl
      · rw [if_neg h2, if_neg h2, if_neg h1]
        exact cmp_neg x y

theorem less_iff : ∀ x y : List UInt8, Op.bytesLess x y = true ↔ compareBytes x y < 0
  | [], [] => by simp [compareBytes, Op.bytesLess]
  | [], b :: y => by simp [compareBytes, Op.bytesLess]
  | a :: x, [] => by simp [compareBytes, Op.bytesLess]
  | a :: x, b :: y => by
    simp only [compareBytes, Op.bytesLess, u8_lt, Bool.or_eq_true, decide_eq_true_eq, Bool.and_eq_true, beq_iff_eq, u8_eq]
    by_cases h1 : a.toNat < b.toNat
    · rw [if_pos h1]; simp [h1]
    · rw [if_neg h1]
      by_cases h2 : b.toNat < a.toNat
      · rw [if_pos h2]; constructor
        · rintro (h | ⟨h, _⟩) <;> omega
        · intro h; omega
      · rw [if_neg h2, ← less_iff x y]
        constructor
        · rintro (h | ⟨_, h⟩)
          · omega
          · exact h
        · intro h; exact .inr ⟨by omega, h⟩

/-- x is no greater than y. -/
def LeB (x y : List UInt8) : Prop := compareBytes x y ≤ 0

theorem le_trans : ∀ x y z : List UInt8, LeB x y → LeB y z → LeB x z
  | [], y, [], _, _ => by simp [LeB, compareBytes]
  | [], y, c :: z, _, _ => by simp [LeB, compareBytes]
  | a :: x, [], z, h, _ => by simp [LeB, compareBytes] at h
  | a :: x, b :: y, [], _, h => by simp [LeB, compareBytes] at h
  | a :: x, b :: y, c :: z, h1, h2 => by
    simp only [LeB, compareBytes, u8_lt] at h1 h2 ⊢
    by_cases a1 : a.toNat < b.toNat
    · by_cases b1 : b.toNat < c.toNat
      · rw [if_pos (by omega)]; decide
      · rw [if_neg b1] at h2
        by_cases b2 : c.toNat < b.toNat
        · rw [if_pos b2] at h2; omega
        · rw [if_pos (by omega)]; decide
    · rw [if_neg a1] at h1
      by_cases a2 : b.toNat < a.toNat
      · rw [if_pos a2] at h1; omega
      · rw [if_neg a2] at h1
        by_cases b1 : b.toNat < c.toNat
        · rw [if_pos (by omega)]; decide
        · rw [if_neg b1] at h2
          by_cases b2 : c.toNat < b.toNat
          · rw [if_pos b2] at h2; omega
          · rw [if_neg b2] at h2
            rw [if_neg (by omega), if_neg (by omega)]
            exact le_trans x y z h1 h2

theorem le_total (x y : List UInt8) : LeB x y ∨ LeB y x := by
  unfold LeB
  have := cmp_neg x y
  omega
theorem le_antisymm {x y : List UInt8} (h1 : LeB x y) (h2 : LeB y x) : x = y := by
  unfold LeB at h1 h2
  have := cmp_neg x y
  exact (cmp_zero x y).1 (by omega)
theorem le_refl (x : List UInt8) : LeB x x := by
  unfold LeB
  rw [(cmp_zero x x).2 rfl]
  decide
theorem lt_of {x y z : List UInt8} (h : LeB x y) (h2 : compareBytes y z < 0) : compareBytes x z < 0 := by
  have h3 : LeB x z := le_trans x y z h (by unfold LeB; omega)
  unfold LeB at h3
  rcases Int.lt_or_eq_of_le h3 with h4 | h4
  · exact h4
  · exfalso
    have := (cmp_zero x z).1 h4
    subst this
    unfold LeB at h
    have := cmp_neg x y
    omega

/-- The names are in order. -/
def Sorted (N : Nat → List UInt8) (n : Nat) : Prop := ∀ a b, a ≤ b → b < n → LeB (N a) (N b)

theorem sorted_of {N : Nat → List UInt8} {n : Nat} (h : ∀ j, 1 ≤ j → j < n → Op.bytesLess (N j) (N (j - 1)) = false) : Sorted N n := by
  intro a b hab hb
  induction b with
  | zero =>
    have : a = 0 := by omega
    subst this
    exact le_refl _
  | succ b ih =>
    by_cases e : a = b + 1
    · subst e; exact le_refl _
    · have h1 := ih (by omega) (by omega)
      refine le_trans _ _ _ h1 ?_
      have h2 := h (b + 1) (by omega) hb
      simp only [Nat.add_sub_cancel] at h2
      unfold LeB
      have h3 : ¬ compareBytes (N (b + 1)) (N b) < 0 := fun h => by rw [(less_iff _ _).2 h] at h2; cases h2
      have := cmp_neg (N b) (N (b + 1))
      omega

theorem Sorted.sub {N : Nat → List UInt8} {n : Nat} (h : Sorted N n) (k m : Nat) (hk : k + m ≤ n) : Sorted (fun j => N (k + j)) m := fun a b hab hb => h (k + a) (k + b) (by omega) (by omega)

/-- What precedes the target stands ahead of what does not. -/
theorem Sorted.mono {N : Nat → List UInt8} {n : Nat} (h : Sorted N n) (z : List UInt8) {a b : Nat} (hab : a ≤ b) (hb : b < n) (hl : compareBytes (N b) z < 0) : compareBytes (N a) z < 0 := lt_of (h a b hab hb) hl

theorem Sorted.after {N : Nat → List UInt8} {n : Nat} (h : Sorted N n) (z : List UInt8) {a b : Nat} (hab : a ≤ b) (hb : b < n) (hl : 0 < compareBytes (N a) z) : 0 < compareBytes (N b) z := by
  rcases Int.lt_or_le 0 (compareBytes (N b) z) with h1 | h1
  · exact h1
  · exfalso
    have := le_trans _ _ _ (h a b hab hb) h1
    unfold LeB at this
    omega
end Go.Proofs.Qxb6617583a
