import Derived.Test.Qxb6617583aFirst
namespace Go.Proofs.Qxb6617583a
open Go Go.Lib

/-- A row with x put in at place p. -/
def insF (f : Nat → ByteArray) (p : Nat) (x : ByteArray) (j : Nat) : ByteArray := if j < p then f j else if j = p then x else f (j - 1)
theorem ins_lt {f : Nat → ByteArray} {p : Nat} {x : ByteArray} {j : Nat} (h : j < p) : insF f p x j = f j := if_pos h
theorem ins_eq {f : Nat → ByteArray} {p : Nat} {x : ByteArray} : insF f p x p = x := by simp [insF]
theorem ins_succ {f : Nat → ByteArray} {p : Nat} {x : ByteArray} {j : Nat} (h : p ≤ j) : insF f p x (j + 1) = f j := by
  unfold insF
  rw [if_neg (by omega), if_neg (by omega), Nat.add_sub_cancel]

theorem le_of_not_less {x y : List UInt8} (h : Op.bytesLess x y = false) : LeB y x := by
  unfold LeB
  have h3 : ¬ compareBytes x y < 0 := fun h' => by rw [(less_iff _ _).2 h'] at h; cases h
  have := cmp_neg y x
  omega

theorem sorted_ins {N : Nat → ByteArray} {n p : Nat} {m : ByteArray} (hs : Sorted (fun j => (N j).data.toList) n) (hp : p ≤ n)
    (hlo : 0 < p → LeB (N (p - 1)).data.toList m.data.toList) (hhi : p < n → LeB m.data.toList (N p).data.toList) : Sorted (fun j => (insF N p m j).data.toList) (n + 1) := by
  intro a b hab hb
  show LeB (insF N p m a).data.toList (insF N p m b).data.toList
  rcases Nat.lt_trichotomy b p with h | h | h
  · rw [ins_lt (by omega), ins_lt h]
    exact hs a b hab (by omega)
  · subst h
    rw [ins_eq]
    by_cases e : a = b
    · subst e; rw [ins_eq]; exact le_refl _
    · rw [ins_lt (by omega)]
      exact le_trans _ _ _ (hs a (b - 1) (by omega) (by omega)) (hlo (by omega))
  · obtain ⟨b, rfl⟩ : ∃ c, b = c + 1 := ⟨b - 1, by omega⟩
    rw [ins_succ (j := b) (by omega)]
    rcases Nat.lt_trichotomy a p with h' | h' | h'
    · rw [ins_lt h']
      exact hs a b (by omega) (by omega)
    · subst h'
      rw [ins_eq]
      exact le_trans _ _ _ (hhi (by omega)) (hs a b (by omega) (by omega))
    · obtain ⟨a, rfl⟩ : ∃ c, a = c + 1 := ⟨a - 1, by omega⟩
      rw [ins_succ (j := a) (by omega)]
      exact hs a b (by omega) (by omega)

/-- Another name: find answers as before. -/
theorem ans_other {N V : Nat → ByteArray} {n p : Nat} {m v name bn bv an av : ByteArray} {bok aok : Bool} (hp : p ≤ n) (hne : name ≠ m)
    (hb : FindAns N V n name bn bv bok) (ha : FindAns (insF N p m) (insF V p v) (n + 1) name an av aok) : an = bn ∧ av = bv ∧ aok = bok := by
  rcases hb with ⟨i, h1, h2, h3, rfl, rfl, rfl⟩ | ⟨h1, rfl, rfl, rfl⟩
  · by_cases hip : i < p
    · rcases ha with ⟨j, a1, a2, a3, rfl, rfl, rfl⟩ | ⟨a1, _⟩
      · have : j = i := by
          rcases Nat.lt_trichotomy j i with h | h | h
          · rw [ins_lt (by omega)] at a2
            exact absurd a2 (h3 j h)
          · exact h
          · exact absurd (by rw [ins_lt hip]; exact h2) (a3 i h)
        subst this
        rw [ins_lt hip, ins_lt hip]
        exact ⟨rfl, rfl, rfl⟩
      · exact absurd (by rw [ins_lt hip]; exact h2) (a1 i (by omega))
    · rcases ha with ⟨j, a1, a2, a3, rfl, rfl, rfl⟩ | ⟨a1, _⟩
      · have : j = i + 1 := by
          rcases Nat.lt_trichotomy j (i + 1) with h | h | h
          · exfalso
            rcases Nat.lt_trichotomy j p with h' | h' | h'
            · rw [ins_lt h'] at a2
              exact h3 j (by omega) a2
            · subst h'
              rw [ins_eq] at a2
              exact hne a2.symm
            · obtain ⟨j, rfl⟩ : ∃ c, j = c + 1 := ⟨j - 1, by omega⟩
              rw [ins_succ (j := j) (by omega)] at a2
              exact h3 j (by omega) a2
          · exact h
          · exact absurd (by rw [ins_succ (by omega)]; exact h2) (a3 (i + 1) h)
        subst this
        rw [ins_succ (j := i) (by omega), ins_succ (j := i) (by omega)]
        exact ⟨rfl, rfl, rfl⟩
      · exact absurd (by rw [ins_succ (by omega)]; exact h2) (a1 (i + 1) (by omega))
  · rcases ha with ⟨j, a1, a2, a3, _⟩ | ⟨_, rfl, rfl, rfl⟩
    · exfalso
      rcases Nat.lt_trichotomy j p with h' | h' | h'
      · rw [ins_lt h'] at a2
        exact h1 j (by omega) a2
      · subst h'
        rw [ins_eq] at a2
        exact hne a2.symm
      · obtain ⟨j, rfl⟩ : ∃ c, j = c + 1 := ⟨j - 1, by omega⟩
        rw [ins_succ (j := j) (by omega)] at a2
        exact h1 j (by omega) a2
    · exact ⟨rfl, rfl, rfl⟩

/-- The name put in, an equal one just before it: found as before. -/
theorem ans_before {N V : Nat → ByteArray} {n p : Nat} {m v bn bv an av : ByteArray} {bok aok : Bool} (hp : p ≤ n) (h0 : 0 < p) (he : N (p - 1) = m)
    (hb : FindAns N V n m bn bv bok) (ha : FindAns (insF N p m) (insF V p v) (n + 1) m an av aok) : bok = true ∧ aok = true ∧ an = bn ∧ av = bv ∧ bn = m := by
  rcases hb with ⟨i, h1, h2, h3, rfl, rfl, rfl⟩ | ⟨h1, _⟩
  · have hip : i < p := by
      rcases Nat.lt_or_ge (p - 1) i with h | h
      · exact absurd he (h3 (p - 1) h)
      · omega
    rcases ha with ⟨j, a1, a2, a3, rfl, rfl, rfl⟩ | ⟨a1, _⟩
    · have : j = i := by
        rcases Nat.lt_trichotomy j i with h | h | h
        · rw [ins_lt (by omega)] at a2
          exact absurd a2 (h3 j h)
        · exact h
        · exact absurd (by rw [ins_lt hip]; exact h2) (a3 i h)
      subst this
      rw [ins_lt hip, ins_lt hip]
      exact ⟨rfl, rfl, rfl, rfl, h2⟩
    · exact absurd (by rw [ins_lt hip]; exact h2) (a1 i (by omega))
  · exact absurd he (h1 (p - 1) (by omega))

/-- The name put in, no equal one just before it: it is the one that is found. -/
theorem ans_new {N V : Nat → ByteArray} {n p : Nat} {m v an av : ByteArray} {aok : Bool} (hs : Sorted (fun j => (N j).data.toList) n) (hp : p ≤ n)
    (hlo : 0 < p → LeB (N (p - 1)).data.toList m.data.toList) (hne : 0 < p → N (p - 1) ≠ m)
    (ha : FindAns (insF N p m) (insF V p v) (n + 1) m an av aok) : aok = true ∧ an = m ∧ av = v := by
  have hl : ∀ t, t < p → insF N p m t ≠ m := by
    intro t ht
    rw [ins_lt ht]
    intro e
    have h1 := hs t (p - 1) (by omega) (by omega)
    simp only at h1
    rw [e] at h1
    exact hne (by omega) (bytes_eq (le_antisymm (hlo (by omega)) h1))
  rcases ha with ⟨j, a1, a2, a3, rfl, rfl, rfl⟩ | ⟨a1, _⟩
  · have : j = p := by
      rcases Nat.lt_trichotomy j p with h | h | h
      · exact absurd a2 (hl j h)
      · exact h
      · exact absurd ins_eq (a3 p h)
    subst this
    exact ⟨rfl, ins_eq, ins_eq⟩
  · exact absurd ins_eq (a1 p (by omega))
end Go.Proofs.Qxb6617583a
