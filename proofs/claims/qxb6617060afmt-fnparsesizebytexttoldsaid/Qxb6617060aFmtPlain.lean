import Derived.Lib.ParseIntB
namespace Go.Proofs.Qxb6617060aFmt
open Go

/-- What parseSize answers for the bytes behind the letter. -/
def szOf (l : List UInt8) : Option Nat :=
  match Lib.parseUintB 32 l with
  | .ok u => if 1 ≤ u ∧ u ≤ 16384 then some u else none
  | _ => none

theorem szOf_some {l : List UInt8} {n : Nat} : szOf l = some n ↔ Lib.parseUintB 32 l = .ok n ∧ 1 ≤ n ∧ n ≤ 16384 := by
  unfold szOf
  rcases hp : Lib.parseUintB 32 l with u | _ | _
  · simp only
    split
    · simp only [Option.some.injEq, Lib.NumEnd.ok.injEq]
      constructor
      · rintro rfl; exact ⟨rfl, by omega, by omega⟩
      · rintro ⟨rfl, _, _⟩; rfl
    · simp only [Lib.NumEnd.ok.injEq]
      constructor
      · intro h; cases h
      · rintro ⟨rfl, _, _⟩; omega
  · simp
  · simp

theorem szOf_none_of_not_ok {l : List UInt8} (h : ∀ u, Lib.parseUintB 32 l ≠ .ok u) : szOf l = none := by
  rcases hs : szOf l with _ | n
  · rfl
  · exact absurd (szOf_some.1 hs).1 (h n)

def isDig (d : UInt8) : Prop := 48 ≤ d.toNat ∧ d.toNat ≤ 57

theorem parseM_snoc_ok (M : Nat) (d : UInt8) : ∀ (l : List UInt8) (acc u : Nat), Lib.parseUintM M acc l = .ok u → Lib.parseUintM M acc (l ++ [d]) = Lib.parseUintM M u [d]
  | [], acc, u, h => by simp [Lib.parseUintM] at h; simp [h]
  | c :: r, acc, u, h => by
    simp only [Lib.parseUintM, List.cons_append] at h ⊢
    split at h
    · rename_i h1
      rw [if_pos h1]
      split at h
      · cases h
      · rename_i h2
        rw [if_neg h2]
        split at h
        · cases h
        · rename_i h3
          rw [if_neg h3]
          exact parseM_snoc_ok M d r _ u h
    · cases h

theorem parseM_snoc_not (M : Nat) (d : UInt8) : ∀ (l : List UInt8) (acc : Nat), (∀ u, Lib.parseUintM M acc l ≠ .ok u) → ∀ u, Lib.parseUintM M acc (l ++ [d]) ≠ .ok u
  | [], acc, h, _ => absurd rfl (h acc)
  | c :: r, acc, h, u => by
    simp only [Lib.parseUintM, List.cons_append] at h ⊢
    split
    · rename_i h1
      simp only [if_pos h1] at h
      split
      · intro h; cases h
      · rename_i h2
        simp only [if_neg h2] at h
        split
        · intro h; cases h
        · rename_i h3
          simp only [if_neg h3] at h
          exact parseM_snoc_not M d r _ h u
    · intro h; cases h

theorem parseM_one_dig {M u : Nat} {d : UInt8} (hd : isDig d) (hu : u ≤ 16384 * 10) (hM : 10000000 ≤ M) : Lib.parseUintM M u [d] = .ok (u * 10 + (d.toNat - 48)) := by
  have h1 : ¬ 1844674407370955162 ≤ u := by omega
  have h2 : ¬ M < u * 10 + (d.toNat - 48) := by have := hd.2; omega
  simp [Lib.parseUintM, hd.1, hd.2, h1, h2]

theorem parseM_one_not {M u : Nat} {d : UInt8} (hd : ¬ isDig d) (n : Nat) : Lib.parseUintM M u [d] ≠ .ok n := by
  unfold isDig at hd
  simp only [Lib.parseUintM, if_neg hd]
  intro h; cases h

theorem parseM_one_ok {M u n : Nat} {d : UInt8} (h : Lib.parseUintM M u [d] = .ok n) : n = u * 10 + (d.toNat - 48) := by
  simp only [Lib.parseUintM] at h
  split at h
  · split at h
    · cases h
    · split at h
      · cases h
      · simpa using h.symm
  · cases h

theorem parseB_snoc_ok {l : List UInt8} {u : Nat} (d : UInt8) (h : Lib.parseUintB 32 l = .ok u) : Lib.parseUintB 32 (l ++ [d]) = Lib.parseUintM (2 ^ 32 - 1) u [d] := by
  unfold Lib.parseUintB at h ⊢
  split at h
  · cases h
  · rw [if_neg (by simp)]
    exact parseM_snoc_ok _ d l 0 u h

theorem parseB_snoc_nil (d : UInt8) : Lib.parseUintB 32 ([] ++ [d]) = Lib.parseUintM (2 ^ 32 - 1) 0 [d] := by
  unfold Lib.parseUintB
  rw [if_neg (by simp)]
  rfl

/-- A byte that is no digit, appended: refused. -/
theorem sz_append_not {l : List UInt8} {d : UInt8} (hd : ¬ isDig d) : szOf (l ++ [d]) = none := by
  refine szOf_none_of_not_ok fun n => ?_
  by_cases hl : l = []
  · subst hl
    rw [parseB_snoc_nil]
    exact parseM_one_not hd n
  · rcases hp : Lib.parseUintB 32 l with u | _ | _
    · rw [parseB_snoc_ok d hp]
      exact parseM_one_not hd n
    all_goals
      unfold Lib.parseUintB at hp ⊢
      rw [if_neg hl] at hp
      rw [if_neg (by simp)]
      exact parseM_snoc_not _ d l 0 (by intro u h; rw [h] at hp; cases hp) n

/-- A digit appended to what is accepted. -/
theorem sz_append_some {l : List UInt8} {d : UInt8} {n : Nat} (hd : isDig d) (h : szOf l = some n) :
    szOf (l ++ [d]) = if 10 * n + (d.toNat - 48) ≤ 16384 then some (10 * n + (d.toNat - 48)) else none := by
  obtain ⟨hp, h1, h2⟩ := szOf_some.1 h
  have e : Lib.parseUintB 32 (l ++ [d]) = .ok (10 * n + (d.toNat - 48)) := by
    rw [parseB_snoc_ok d hp, parseM_one_dig hd (by omega) (by decide), Nat.mul_comm]
  unfold szOf
  rw [e]
  by_cases hle : 10 * n + (d.toNat - 48) ≤ 16384
  · rw [if_pos hle]
    simp only
    rw [if_pos ⟨by omega, hle⟩]
  · rw [if_neg hle]
    simp only
    rw [if_neg (fun h => hle h.2)]

/-- A digit appended to what is refused: accepted only with the digit's own value, which is then at least 1. -/
theorem sz_append_none {l : List UInt8} {d : UInt8} {m : Nat} (h : szOf l = none) (hm : szOf (l ++ [d]) = some m) : m = d.toNat - 48 ∧ 1 ≤ m := by
  obtain ⟨hp, h1, h2⟩ := szOf_some.1 hm
  refine ⟨?_, h1⟩
  by_cases hl : l = []
  · subst hl
    rw [parseB_snoc_nil] at hp
    have := parseM_one_ok hp
    omega
  · rcases hq : Lib.parseUintB 32 l with u | _ | _
    · rw [parseB_snoc_ok d hq] at hp
      have he := parseM_one_ok hp
      by_cases hu : u = 0
      · subst hu; omega
      · exfalso
        have : szOf l = some u := szOf_some.2 ⟨hq, by omega, by omega⟩
        rw [h] at this
        cases this
    all_goals
      exfalso
      unfold Lib.parseUintB at hp hq
      rw [if_neg hl] at hq
      rw [if_neg (by simp)] at hp
      exact parseM_snoc_not _ d l 0 (by intro u h; rw [h] at hq; cases hq) m hp
end Go.Proofs.Qxb6617060aFmt
