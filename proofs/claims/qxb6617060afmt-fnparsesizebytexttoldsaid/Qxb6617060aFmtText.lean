import Derived.Test.Qxb6617060aFmtDigit
import Derived.Test.Qxb6617060aFmtPlain2
import Derived.Deep.QuietTactic
import Derived.BigQuiet
namespace Go.Proofs.Qxb6617060aFmt
open Go.RowKit Go.Extern.Stop Go.Stop Go.Extern
set_option linter.unusedVariables false

theorem ret_bool {a b : Bool} (h : a = b) : Ending.returned (.bool a) = .returned (.bool b) := by rw [h]

/-! ### sameText at one text twice -/
set_option maxHeartbeats 400000 in
theorem same_any (a : ByteArray) (w : World) (h : a.size ≤ maxLen) :
    Calls Tryf.prog 8 #[.string a, .string a] w fun e w' => e = .returned (.bool true) ∧ ∃ n, w' = w.drewN n := by
  unfold maxLen at h
  go_enter Tryf.func8, Tryf.ntmps8
  go_wp2
  go_loopw [5] (fun i wr => ∃ k : Nat, k ≤ a.size ∧ i = .int .i64 k ∧ ∃ n, wr = w.drewN n) (fun i _ => a.size - (intOf i).toNat)
  case atStart => exact ⟨0, Nat.zero_le _, rfl, 0, rfl⟩
  case round =>
    obtain ⟨k, hk, rfl, n, rfl⟩ := hrel
    by_cases hlt : k < a.size
    · have hlt' : (k : Int) < (a.size : Int) := by omega
      go_wp2
      go_quiet (fail)
      go_wp2
      go_roundw
      case rel => exact ⟨k + 1, by omega, by go_num, _, rfl⟩
      case measure => simp [intOf]; omega
    · go_wp2
      go_ret
      exact ⟨rfl, _, rfl⟩

/-! ### textLess -/
theorem drop_cons (a : ByteArray) (k : Nat) (h : k < a.size) : a.data.toList.drop k = a[k] :: a.data.toList.drop (k + 1) := by
  rw [List.drop_eq_getElem_cons (by simpa using h)]
  rfl
theorem drop_all (a : ByteArray) (k : Nat) (h : a.size ≤ k) : a.data.toList.drop k = [] := by
  have := Lib.size_eq a
  exact List.drop_eq_nil_of_le (by omega)
theorem less_ne {a b : ByteArray} {k : Nat} {r : Bool} (h1 : k < a.size) (h2 : k < b.size) (h : lessL (a.data.toList.drop k) (b.data.toList.drop k) = r) (hne : ((a[k].toNat : Int) != (b[k].toNat : Int)) = true) :
    decide (a[k].toNat < b[k].toNat) = r := by
  rw [drop_cons a k h1, drop_cons b k h2] at h
  simp only [lessL] at h
  have hab : ¬ a[k] = b[k] := by
    intro e
    rw [e] at hne
    simp at hne
  rw [if_neg hab] at h
  rw [← h]
theorem less_eq {a b : ByteArray} {k : Nat} {r : Bool} (h1 : k < a.size) (h2 : k < b.size) (h : lessL (a.data.toList.drop k) (b.data.toList.drop k) = r) (he : ((a[k].toNat : Int) != (b[k].toNat : Int)) = false) :
    lessL (a.data.toList.drop (k + 1)) (b.data.toList.drop (k + 1)) = r := by
  rw [drop_cons a k h1, drop_cons b k h2] at h
  simp only [lessL] at h
  have hab : a[k] = b[k] := by
    have : a[k].toNat = b[k].toNat := by simp at he; omega
    exact UInt8.toNat_inj.1 this
  rwa [if_pos hab] at h
theorem less_end {a b : ByteArray} {k : Nat} {r : Bool} (hka : k ≤ a.size) (hkb : k ≤ b.size) (hlt : ¬ (k < a.size ∧ k < b.size)) (h : lessL (a.data.toList.drop k) (b.data.toList.drop k) = r) :
    decide (a.size < b.size) = r := by
  by_cases h1 : k < a.size
  · rw [drop_cons a k h1, drop_all b k (by omega)] at h
    simp only [lessL] at h
    rw [← h]
    simp; omega
  · rw [drop_all a k (by omega)] at h
    by_cases h2 : k < b.size
    · rw [drop_cons b k h2] at h
      simp only [lessL] at h
      rw [← h]
      simp; omega
    · rw [drop_all b k (by omega)] at h
      simp only [lessL] at h
      rw [← h]
      simp; omega
def LessEnds (w : World) (r : Bool) (e : Ending) (w' : World) : Prop := e = .returned (.bool r) ∧ ∃ n, w' = w.drewN n

set_option maxHeartbeats 1000000 in
theorem less_any (a b : ByteArray) (w : World) (ha : a.size ≤ maxLen) (hb : b.size ≤ maxLen) :
    Calls Tryf.prog 12 #[.string a, .string b] w (LessEnds w (lessL a.data.toList b.data.toList)) := by
  unfold maxLen at ha hb
  generalize hr : lessL a.data.toList b.data.toList = r
  have HR : Hid (lessL a.data.toList b.data.toList = r) := hr
  clear hr
  go_enter Tryf.func12, Tryf.ntmps12
  go_wp2
  go_loopw [5] (fun i wr => ∃ k : Nat, k ≤ a.size ∧ k ≤ b.size ∧ i = .int .i64 k ∧ Hid (lessL (a.data.toList.drop k) (b.data.toList.drop k) = r) ∧ ∃ n, wr = w.drewN n) (fun i _ => a.size - (intOf i).toNat)
  case atStart => exact ⟨0, Nat.zero_le _, Nat.zero_le _, rfl, HR, 0, rfl⟩
  case round =>
    obtain ⟨k, hka, hkb, rfl, HK, n, rfl⟩ := hrel
    by_cases hlt : k < a.size ∧ k < b.size
    · obtain ⟨h1, h2⟩ := hlt
      have h1' : (k : Int) < (a.size : Int) := by omega
      have h2' : (k : Int) < (b.size : Int) := by omega
      go_wp2
      go_quiet (fail)
      go_wp2
      · go_quiet (fail)
        go_wp2
        go_ret
        exact ⟨ret_bool (less_ne h1 h2 HK.out (by assumption)), by simp only [World.drewN_drewN]; exact ⟨_, rfl⟩⟩
      · go_roundw
        case rel => exact ⟨k + 1, by omega, by omega, by go_num, less_eq h1 h2 HK.out (by assumption), _, rfl⟩
        case measure => simp [intOf]; omega
    · by_cases hlk : k < a.size
      all_goals
        go_wp2
        go_ret
        exact ⟨ret_bool (less_end hka hkb hlt HK.out), _, rfl⟩

/-! ### itoaPos -/
def byteV (b : UInt8) : Value := .int .u8 b.toNat
theorem decF_step {i m : Nat} (hi : 0 < i) (hm : 0 < m) : decF i m = decF (i - 1) (m / 10) ++ [UInt8.ofNat (48 + m % 10)] := by
  obtain ⟨j, rfl⟩ : ∃ j, i = j + 1 := ⟨i - 1, by omega⟩
  simp only [decF, Nat.add_sub_cancel]
  rw [if_neg (by omega)]
theorem decF_stop {i m : Nat} (h : ¬ (0 < m ∧ 0 < i)) : decF i m = [] := by
  cases i with
  | zero => rfl
  | succ j =>
    have : m = 0 := by omega
    subst this
    rfl
theorem decF_len : ∀ f n, (decF f n).length ≤ f
  | 0, _ => by simp [decF]
  | f + 1, n => by
    simp only [decF]
    split
    · simp
    · have := decF_len f (n / 10); simp; omega
theorem decF_ne {n : Nat} (h : 1 ≤ n) : decF 24 n ≠ [] := by
  rw [decF_step (by omega) (by omega)]
  simp
theorem drop_set (A : Array Value) (i : Nat) (v : Value) (hi : 0 < i) (hA : i ≤ A.size) : (A.setIfInBounds (i - 1) v).toList.drop (i - 1) = v :: A.toList.drop i := by
  rw [Array.toList_setIfInBounds, List.drop_eq_getElem_cons (by simp; omega)]
  congr 1
  · simp
  · rw [show i - 1 + 1 = i by omega, List.drop_set_of_lt (by omega)]
theorem byte_dig (m : Nat) : Value.int .u8 (48 + (m : Int) % 10) = byteV (UInt8.ofNat (48 + m % 10)) := by
  have : (UInt8.ofNat (48 + m % 10)).toNat = 48 + m % 10 := by simp; omega
  unfold byteV
  rw [this]
  congr 1
theorem itoa_step {i m n : Nat} {A : Array Value} {suf : List UInt8} (hi0 : 0 < i) (hm0 : 0 < m) (hi : i ≤ 24) (hS : A.size = 24) (hD : A.toList.drop i = suf.map byteV) (hF : decF i m ++ suf = decF 24 n) :
    (A.setIfInBounds (i - 1) (.int .u8 (48 + (m : Int) % 10))).size = 24 ∧ (A.setIfInBounds (i - 1) (.int .u8 (48 + (m : Int) % 10))).toList.drop (i - 1) = (UInt8.ofNat (48 + m % 10) :: suf).map byteV ∧
      decF (i - 1) (m / 10) ++ (UInt8.ofNat (48 + m % 10) :: suf) = decF 24 n := by
  refine ⟨by simpa using hS, ?_, ?_⟩
  · rw [drop_set A i _ hi0 (by omega), hD, byte_dig]
    rfl
  · rw [← hF, decF_step hi0 hm0]
    simp
theorem itoa_conv (w : World) (i n : Nat) (A : Array Value) (suf : List UInt8) (h1 : 1 ≤ n) (hS : A.size = 24) (hi : i ≤ 24) (hD : A.toList.drop i = suf.map byteV) (hF : suf = decF 24 n) :
    i < 24 ∧ (convert 27 9 (.slice (some ⟨w.heap.size, i, none⟩) (24 - i) (24 - i))).run Tryf.prog (w.alloc (.cells A 32)) = .ok (.string ⟨(decF 24 n).toArray⟩) (w.alloc (.cells A 32)) := by
  have hl : suf.length = 24 - i := by
    have := congrArg List.length hD
    simp at this
    omega
  have hne : suf.length ≠ 0 := by
    rw [hF]
    intro h
    exact decF_ne h1 (List.length_eq_zero_iff.1 h)
  refine ⟨by omega, ?_⟩
  have hc := run_convert_bytes_back (P := Tryf.prog) (w.alloc (.cells A 32)) 27 9 5 ⟨w.heap.size, i, none⟩ (24 - i) suf Tryf.underlying27 Tryf.underlying5 Tryf.underlying9 (fun j hj => by
    rw [WideShapes.add_plain, World.cell?_alloc_mark]
    have e : A.toList[i + j]? = (suf.map byteV)[j]? := by rw [← hD, List.getElem?_drop]
    rw [← Array.getElem?_toList, e]
    simp [byteV, hj])
  rw [hl, hF] at hc
  exact hc

theorem al32 : Tryf.prog.arrayLen 32 = 24 := by simp [Program.arrayLen, Tryf.underlying32]
theorem el32 : Tryf.prog.elem 32 = 5 := by simp [Program.elem, Tryf.underlying32]
theorem slice32 (b i : Nat) (h : i < 24) (W : World) : (Instr.sliceAt 32 (.pointer (some ⟨b, 0, none⟩)) (some (.int .i64 (i : Int))) none none).run Tryf.prog W = .ok (.slice (some ⟨b, i, none⟩) (24 - i) (24 - i)) W := by
  rw [run_sliceAt_array_l W 32 ⟨b, 0, none⟩ (by rw [al32, el32]; exact Tryf.underlying32) .i64 (i : Int) (by omega) (by rw [al32]; omega), el32, Tryf.sizeOf5]
  simp only [Result.andThen_ok, slicedAt, al32, Int.toNat_natCast, Nat.mul_one]
  rw [if_neg (by omega), WideShapes.add_plain, Nat.zero_add]

set_option maxHeartbeats 1000000 in
theorem itoa_any (n : Nat) (w : World) (h1 : 1 ≤ n) (h2 : n ≤ 16384) :
    Calls Tryf.prog 9 #[.int .i64 n] w fun e w' => ∃ s, e = .returned (.string s) ∧ s.data.toList = decF 24 n ∧ Below w.heap.size w w' := by
  go_enter Tryf.func9, Tryf.ntmps9
  go_wp2
  go_loopw [0, 4] (fun t0 t4 wr => ∃ (m i : Nat) (A : Array Value) (suf : List UInt8), m ≤ 16384 ∧ i ≤ 24 ∧ t0 = .int .i64 m ∧ t4 = .int .i64 i ∧ wr = w.alloc (.cells A 32) ∧ Hid (A.size = 24) ∧ Hid (A.toList.drop i = suf.map byteV) ∧ Hid (decF i m ++ suf = decF 24 n)) (fun _ t4 _ => (intOf t4).toNat)
  case atStart => exact ⟨n, 24, _, [], h2, Nat.le_refl _, rfl, rfl, rfl, rfl, rfl, List.append_nil _⟩
  case round =>
    obtain ⟨m, i, A, suf, hm, hi, rfl, rfl, rfl, HS, HD, HF⟩ := hrel
    by_cases hgo : 0 < m ∧ 0 < i
    · obtain ⟨hm0, hi0⟩ := hgo
      obtain ⟨v0, hv0⟩ : ∃ v0, A[i - 1]? = some v0 := ⟨_, Array.getElem?_eq_getElem (by have := HS.out; omega)⟩
      have hi1 : (1 : Int) ≤ (i : Int) := by omega
      go_wp2
      obtain ⟨s1, s2, s3⟩ := itoa_step hi0 hm0 hi HS.out HD.out HF.out
      go_roundw
      case rel => exact ⟨m / 10, i - 1, _, UInt8.ofNat (48 + m % 10) :: suf, by omega, by omega, by go_num, by go_num, rfl, s1, s2, s3⟩
      case measure => simp [intOf]; omega
    · have hF : suf = decF 24 n := by rw [← HF.out, decF_stop hgo]; rfl
      obtain ⟨hi24, hcv⟩ := itoa_conv w i n A suf h1 HS.out hi HD.out hF
      obtain ⟨s, hs⟩ : ∃ s : ByteArray, s = ⟨(decF 24 n).toArray⟩ := ⟨_, rfl⟩
      rw [← hs] at hcv
      have HSS : Hid (s.data.toList = decF 24 n) := show s.data.toList = decF 24 n by rw [hs]
      clear hs hF
      have hsl := slice32 w.heap.size i hi24
      by_cases hm0 : 0 < m
      · have hi0 : ¬ 0 < i := by omega
        clear hgo
        go_wp2
        go_ret
        exact ⟨s, rfl, HSS.out, (Below.refl _ _).alloc (Nat.le_refl _) _⟩
      · clear hgo
        go_wp2
        go_ret
        exact ⟨s, rfl, HSS.out, (Below.refl _ _).alloc (Nat.le_refl _) _⟩
end Go.Proofs.Qxb6617060aFmt
