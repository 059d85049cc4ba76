import Derived.Test.Qxb6617060aFmtPlain
namespace Go.Proofs.Qxb6617060aFmt
open Go

/-- What a row of digits spells, 'acc' spelt ahead of it. -/
def valA (acc : Nat) (l : List UInt8) : Nat := l.foldl (fun a c => a * 10 + (c.toNat - 48)) acc
def AllDig (l : List UInt8) : Prop := ∀ c ∈ l, isDig c
/-- The row without its leading zeros. -/
def strip (l : List UInt8) : List UInt8 := l.dropWhile (fun c => c == 48)
/-- Less, byte by byte. -/
def lessL : List UInt8 → List UInt8 → Bool
  | [], [] => false
  | [], _ :: _ => true
  | _ :: _, [] => false
  | a :: r, b :: s => if a = b then lessL r s else decide (a.toNat < b.toNat)
/-- The decimal digits of n, at most f of them. -/
def decF : Nat → Nat → List UInt8
  | 0, _ => []
  | f + 1, n => if n = 0 then [] else decF f (n / 10) ++ [UInt8.ofNat (48 + n % 10)]
/-- What sizeDigits accepts. -/
def SdOk (l : List UInt8) : Prop :=
  l ≠ [] ∧ AllDig l ∧ strip l ≠ [] ∧ ((strip l).length < 5 ∨ (strip l).length = 5 ∧ lessL [49, 54, 51, 56, 52] (strip l) = false)

theorem valA_cons (acc : Nat) (c : UInt8) (l : List UInt8) : valA acc (c :: l) = valA (acc * 10 + (c.toNat - 48)) l := by simp [valA]
theorem valA_ge : ∀ (l : List UInt8) (acc : Nat), acc ≤ valA acc l
  | [], _ => Nat.le_refl _
  | c :: l, acc => by rw [valA_cons]; have := valA_ge l (acc * 10 + (c.toNat - 48)); omega
theorem valA_append (acc : Nat) (l m : List UInt8) : valA acc (l ++ m) = valA (valA acc l) m := by simp [valA]

theorem parseM_of_dig {M : Nat} (hM : M ≤ 4294967295) : ∀ (l : List UInt8) (acc : Nat), AllDig l → valA acc l ≤ M → Lib.parseUintM M acc l = .ok (valA acc l)
  | [], acc, _, _ => rfl
  | c :: l, acc, hd, hv => by
    have hc := hd c (by simp)
    have hg := valA_ge l (acc * 10 + (c.toNat - 48))
    rw [valA_cons] at hv ⊢
    simp only [Lib.parseUintM]
    rw [if_pos (show 48 ≤ c.toNat ∧ c.toNat ≤ 57 from hc), if_neg (by omega), if_neg (by omega)]
    exact parseM_of_dig hM l _ (fun x hx => hd x (by simp [hx])) hv
theorem dig_of_parseM {M : Nat} : ∀ (l : List UInt8) (acc u : Nat), Lib.parseUintM M acc l = .ok u → AllDig l ∧ u = valA acc l
  | [], acc, u, h => by
    simp [Lib.parseUintM] at h
    exact ⟨(fun c hc => by cases hc), h.symm⟩
  | c :: l, acc, u, h => by
    simp only [Lib.parseUintM] at h
    split at h
    · rename_i h1
      split at h
      · cases h
      · split at h
        · cases h
        · obtain ⟨h2, h3⟩ := dig_of_parseM l _ u h
          refine ⟨fun x hx => ?_, h3⟩
          rcases List.mem_cons.1 hx with rfl | hx
          · exact h1
          · exact h2 x hx
    · cases h

theorem szOf_iff {l : List UInt8} {n : Nat} : szOf l = some n ↔ l ≠ [] ∧ AllDig l ∧ n = valA 0 l ∧ 1 ≤ n ∧ n ≤ 16384 := by
  rw [szOf_some]
  constructor
  · rintro ⟨hp, h1, h2⟩
    unfold Lib.parseUintB at hp
    split at hp
    · cases hp
    · rename_i hl
      obtain ⟨a, b⟩ := dig_of_parseM _ _ _ hp
      exact ⟨hl, a, b, h1, h2⟩
  · rintro ⟨hl, hd, rfl, h1, h2⟩
    refine ⟨?_, h1, h2⟩
    unfold Lib.parseUintB
    rw [if_neg hl]
    exact parseM_of_dig (by decide) l 0 hd (Nat.le_trans h2 (by decide))

theorem sz_zero (l : List UInt8) : szOf (48 :: l) = szOf l := by
  have key : ∀ n, szOf (48 :: l) = some n ↔ szOf l = some n := by
    intro n
    rw [szOf_iff, szOf_iff]
    have hv : valA 0 (48 :: l) = valA 0 l := rfl
    rw [hv]
    constructor
    · rintro ⟨_, hd, rfl, h1, h2⟩
      refine ⟨?_, fun c hc => hd c (by simp [hc]), rfl, h1, h2⟩
      rintro rfl
      simp [valA] at h1
    · rintro ⟨_, hd, rfl, h1, h2⟩
      refine ⟨by simp, fun c hc => ?_, rfl, h1, h2⟩
      rcases List.mem_cons.1 hc with rfl | hc
      · exact ⟨by decide, by decide⟩
      · exact hd c hc
  rcases ha : szOf l with _ | n
  · rcases hb : szOf (48 :: l) with _ | m
    · rfl
    · rw [(key m).1 hb] at ha; cases ha
  · exact (key n).2 ha

theorem strip_val : ∀ l : List UInt8, valA 0 (strip l) = valA 0 l
  | [] => rfl
  | c :: l => by
    by_cases h : c = 48
    · subst h
      have e : strip (48 :: l) = strip l := by simp [strip]
      rw [e, strip_val l]
      rfl
    · have e : strip (c :: l) = c :: l := by simp [strip, h]
      rw [e]
theorem strip_dig {l : List UInt8} (h : AllDig l) : AllDig (strip l) := fun c hc => h c ((List.dropWhile_sublist _).subset hc)
theorem strip_head : ∀ {l : List UInt8} {c : UInt8} {r : List UInt8}, strip l = c :: r → c ≠ 48
  | [], c, r, h => by cases h
  | x :: l, c, r, h => by
    by_cases hx : x = 48
    · subst hx
      have e : strip (48 :: l) = strip l := by simp [strip]
      rw [e] at h
      exact strip_head h
    · have e : strip (x :: l) = x :: l := by simp [strip, hx]
      rw [e] at h
      cases h
      exact hx

theorem dig_ne {c : UInt8} (h : isDig c) (hne : c ≠ 48) : 49 ≤ c.toNat := by
  have h1 := h.1
  have : c.toNat ≠ 48 := fun e => hne (UInt8.toNat_inj.1 e)
  omega

theorem ofNat_dig {c : UInt8} (h : isDig c) : UInt8.ofNat (48 + (c.toNat - 48)) = c := by
  have h1 := h.1
  rw [show 48 + (c.toNat - 48) = c.toNat by omega]
  simp

theorem dec_val : ∀ (f : Nat) (s : List UInt8), AllDig s → (∀ c r, s = c :: r → 49 ≤ c.toNat) → s.length ≤ f → decF f (valA 0 s) = s
  | 0, s, _, _, h => by
    have : s = [] := List.length_eq_zero_iff.1 (by omega)
    subst this
    rfl
  | f + 1, s, hd, hh, hl => by
    rcases List.eq_nil_or_concat s with rfl | ⟨t, c, rfl⟩
    · rfl
    · have hc : isDig c := hd c (by simp)
      have hdt : AllDig t := fun x hx => hd x (by simp [hx])
      have hht : ∀ x r, t = x :: r → 49 ≤ x.toNat := by
        rintro x r rfl
        exact hh x (r ++ [c]) (by simp)
      have ev : valA 0 (t ++ [c]) = valA 0 t * 10 + (c.toNat - 48) := by rw [valA_append]; rfl
      have hpos : valA 0 t * 10 + (c.toNat - 48) ≠ 0 := by
        cases t with
        | nil => have := hh c [] rfl; simp [valA]; omega
        | cons x r =>
          have h1 := hht x r rfl
          have h2 := valA_ge r (0 * 10 + (x.toNat - 48))
          rw [valA_cons]
          omega
      have hlt : c.toNat - 48 ≤ 9 := by have := hc.2; omega
      have e1 : (valA 0 t * 10 + (c.toNat - 48)) / 10 = valA 0 t := by omega
      have e2 : (valA 0 t * 10 + (c.toNat - 48)) % 10 = c.toNat - 48 := by omega
      rw [show (t ++ [c] : List UInt8) = t.concat c by simp] at *
      rw [List.concat_eq_append] at *
      rw [ev]
      simp only [decF]
      rw [if_neg hpos, e1, e2, ofNat_dig hc, dec_val f t hdt hht (by simp at hl; omega)]

theorem less5 {c0 c1 c2 c3 c4 : UInt8} (h0 : isDig c0) (h1 : isDig c1) (h2 : isDig c2) (h3 : isDig c3) (h4 : isDig c4) :
    lessL [49, 54, 51, 56, 52] [c0, c1, c2, c3, c4] = false ↔ valA 0 [c0, c1, c2, c3, c4] ≤ 16384 := by
  have ne : ∀ (a : UInt8) (n : Nat) (h : n < 256), UInt8.ofNat n = a ↔ a.toNat = n := by
    intro a n h
    constructor
    · rintro rfl; simp; omega
    · intro e; subst e; simp
  obtain ⟨a0, b0⟩ := h0; obtain ⟨a1, b1⟩ := h1; obtain ⟨a2, b2⟩ := h2; obtain ⟨a3, b3⟩ := h3; obtain ⟨a4, b4⟩ := h4
  have n0 : ((49 : UInt8) = c0) ↔ c0.toNat = 49 := ne c0 49 (by decide)
  have n1 : ((54 : UInt8) = c1) ↔ c1.toNat = 54 := ne c1 54 (by decide)
  have n2 : ((51 : UInt8) = c2) ↔ c2.toNat = 51 := ne c2 51 (by decide)
  have n3 : ((56 : UInt8) = c3) ↔ c3.toNat = 56 := ne c3 56 (by decide)
  have n4 : ((52 : UInt8) = c4) ↔ c4.toNat = 52 := ne c4 52 (by decide)
  have t0 : (49 : UInt8).toNat = 49 := rfl
  have t1 : (54 : UInt8).toNat = 54 := rfl
  have t2 : (51 : UInt8).toNat = 51 := rfl
  have t3 : (56 : UInt8).toNat = 56 := rfl
  have t4 : (52 : UInt8).toNat = 52 := rfl
  simp only [lessL, valA, List.foldl, n0, n1, n2, n3, n4, t0, t1, t2, t3, t4]
  by_cases x0 : c0.toNat = 49
  · rw [if_pos x0]
    by_cases x1 : c1.toNat = 54
    · rw [if_pos x1]
      by_cases x2 : c2.toNat = 51
      · rw [if_pos x2]
        by_cases x3 : c3.toNat = 56
        · rw [if_pos x3]
          by_cases x4 : c4.toNat = 52
          · rw [if_pos x4]; simp; omega
          · rw [if_neg x4]; simp; omega
        · rw [if_neg x3]; simp; omega
      · rw [if_neg x2]; simp; omega
    · rw [if_neg x1]; simp; omega
  · rw [if_neg x0]; simp; omega

/-- What sizeDigits accepts is what parseSize accepts, and its stripped text is the number's. -/
theorem sd_yes {l : List UInt8} (h : SdOk l) : ∃ n, szOf l = some n ∧ decF 24 n = strip l := by
  obtain ⟨hl, hd, hs, hb⟩ := h
  have hds := strip_dig hd
  have hh : ∀ c r, strip l = c :: r → 49 ≤ c.toNat := fun c r e => dig_ne (hds c (by rw [e]; simp)) (strip_head e)
  have hlen : (strip l).length ≤ 24 := by rcases hb with h | ⟨h, _⟩ <;> omega
  refine ⟨valA 0 (strip l), szOf_iff.2 ⟨hl, hd, strip_val l, ?_, ?_⟩, dec_val 24 (strip l) hds hh hlen⟩
  · rcases hsl : strip l with _ | ⟨c, r⟩
    · exact absurd hsl hs
    · have h1 := hh c r hsl
      have h2 := valA_ge r (0 * 10 + (c.toNat - 48))
      rw [valA_cons]
      omega
  · generalize strip l = s at hds hb
    rcases hb with h | ⟨h, hless⟩
    · match s, hds, h with
      | [], _, _ => decide
      | [a], hds, _ => have := (hds a (by simp)).2; simp [valA]; omega
      | [a, b], hds, _ => have := (hds a (by simp)).2; have := (hds b (by simp)).2; simp [valA]; omega
      | [a, b, c], hds, _ => have := (hds a (by simp)).2; have := (hds b (by simp)).2; have := (hds c (by simp)).2; simp [valA]; omega
      | [a, b, c, d], hds, _ => have := (hds a (by simp)).2; have := (hds b (by simp)).2; have := (hds c (by simp)).2; have := (hds d (by simp)).2; simp [valA]; omega
      | a :: b :: c :: d :: e :: r, _, h => simp at h; omega
    · match s, hds, h, hless with
      | [a, b, c, d, e], hds, _, hless => exact (less5 (hds a (by simp)) (hds b (by simp)) (hds c (by simp)) (hds d (by simp)) (hds e (by simp))).1 hless

theorem sd_no {l : List UInt8} (h : ¬ SdOk l) : szOf l = none := by
  rcases ho : szOf l with _ | n
  · rfl
  · exfalso
    obtain ⟨hl, hd, hn, h1, h2⟩ := szOf_iff.1 ho
    have hds := strip_dig hd
    have hv : valA 0 (strip l) = n := by rw [strip_val]; exact hn.symm
    have hh : ∀ c r, strip l = c :: r → 49 ≤ c.toNat := fun c r e => dig_ne (hds c (by rw [e]; simp)) (strip_head e)
    refine h ⟨hl, hd, ?_, ?_⟩
    · intro e; rw [e] at hv; simp [valA] at hv; omega
    · generalize strip l = s at hds hv hh
      match s, hds, hv, hh with
      | [], _, _, _ => left; simp
      | [a], _, _, _ => left; simp
      | [a, b], _, _, _ => left; simp
      | [a, b, c], _, _, _ => left; simp
      | [a, b, c, d], _, _, _ => left; simp
      | [a, b, c, d, e], hds, hv, _ =>
        right
        exact ⟨rfl, (less5 (hds a (by simp)) (hds b (by simp)) (hds c (by simp)) (hds d (by simp)) (hds e (by simp))).2 (by omega)⟩
      | a :: b :: c :: d :: e :: f :: r, _, hv, hh =>
        exfalso
        have h3 := hh a _ rfl
        have h4 := valA_ge r ((((((0 * 10 + (a.toNat - 48)) * 10 + (b.toNat - 48)) * 10 + (c.toNat - 48)) * 10 + (d.toNat - 48)) * 10 + (e.toNat - 48)) * 10 + (f.toNat - 48))
        have h5 : valA 0 (a :: b :: c :: d :: e :: f :: r) = valA ((((((0 * 10 + (a.toNat - 48)) * 10 + (b.toNat - 48)) * 10 + (c.toNat - 48)) * 10 + (d.toNat - 48)) * 10 + (e.toNat - 48)) * 10 + (f.toNat - 48)) r := rfl
        omega
end Go.Proofs.Qxb6617060aFmt
