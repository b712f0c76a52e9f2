/- Bits of a float: sign, exponent, mantissa; the mantissa moved to the top. -/
import Derived.Test.YtjbpphomlmlmaaaGreatDoorQC9
import Derived.Test.YtjbpphomlmlmaaaGreatDoorQC3
import Derived.Test.YtjbpphomlmlmaaaGreatDoorQB2
namespace Go.Proofs.YtjbpphomlmlmaaaGreatDoor
open Go.RowKit Go.Sort Go.Lib
set_option linter.unusedVariables false
theorem decDigits_head : ∀ (u : Nat), 1 ≤ u → (decDigits u)[0]? ≠ some 48 := by
  intro u
  induction u using Nat.strongRecOn with
  | _ u ih =>
    intro h1
    by_cases h : u < 10
    · rw [decDigits, dif_pos h]
      have hc : u = 1 ∨ u = 2 ∨ u = 3 ∨ u = 4 ∨ u = 5 ∨ u = 6 ∨ u = 7 ∨ u = 8 ∨ u = 9 := by omega
      rcases hc with rfl | rfl | rfl | rfl | rfl | rfl | rfl | rfl | rfl <;> decide
    · have := ih (u / 10) (by omega) (by omega)
      rw [decDigits, dif_neg h]
      have hl : 0 < (decDigits (u / 10)).length := by
        rw [decDigits_length]
        rcases Nat.eq_zero_or_pos (nDigits (u / 10)) with hz | hz
        · have := lt_pow_nDigits (u / 10); rw [hz] at this; omega
        · exact hz
      rw [List.getElem?_append_left hl]
      exact this
theorem and_mask (b k : Nat) (hb : b < 18446744073709551616) (hk : k ≤ 63) : bits .and .u64 (b : Int) ((2 ^ k - 1 : Nat) : Int) = ((b % 2 ^ k : Nat) : Int) := by
  have hp : 2 ^ k ≤ 2 ^ 63 := Nat.pow_le_pow_right (by decide) hk
  have hp0 := Nat.pow_pos (n := k) (show 0 < 2 by decide)
  have h1 : (BitVec.ofInt 64 (b : Int)).toNat = b := by
    rw [BitVec.ofInt_natCast, BitVec.toNat_ofNat]; exact Nat.mod_eq_of_lt (by omega)
  have h2 : (BitVec.ofInt 64 ((2 ^ k - 1 : Nat) : Int)).toNat = 2 ^ k - 1 := by
    rw [BitVec.ofInt_natCast, BitVec.toNat_ofNat]; exact Nat.mod_eq_of_lt (by omega)
  show IntKind.u64.wrap ((BitVec.ofInt 64 (b : Int) &&& BitVec.ofInt 64 ((2 ^ k - 1 : Nat) : Int)).toNat : Int) = _
  rw [BitVec.toNat_and, h1, h2, Nat.and_two_pow_sub_one_eq_mod]
  have := Nat.mod_lt b hp0
  rw [IntKind.wrap_u64]
  generalize b % 2 ^ k = r at *
  omega
theorem and_mask_i (b k : Nat) (hb : b < 9223372036854775808) (hk : k ≤ 62) : bits .and .i64 (b : Int) ((2 ^ k - 1 : Nat) : Int) = ((b % 2 ^ k : Nat) : Int) := by
  have hp : 2 ^ k ≤ 2 ^ 62 := Nat.pow_le_pow_right (by decide) hk
  have hp0 := Nat.pow_pos (n := k) (show 0 < 2 by decide)
  have h1 : (BitVec.ofInt 64 (b : Int)).toNat = b := by
    rw [BitVec.ofInt_natCast, BitVec.toNat_ofNat]; exact Nat.mod_eq_of_lt (by omega)
  have h2 : (BitVec.ofInt 64 ((2 ^ k - 1 : Nat) : Int)).toNat = 2 ^ k - 1 := by
    rw [BitVec.ofInt_natCast, BitVec.toNat_ofNat]; exact Nat.mod_eq_of_lt (by omega)
  show IntKind.i64.wrap ((BitVec.ofInt 64 (b : Int) &&& BitVec.ofInt 64 ((2 ^ k - 1 : Nat) : Int)).toNat : Int) = _
  rw [BitVec.toNat_and, h1, h2, Nat.and_two_pow_sub_one_eq_mod]
  have := Nat.mod_lt b hp0
  rw [IntKind.wrap_i64]
  generalize b % 2 ^ k = r at *
  omega
theorem or_top (m : Nat) (hm : m < 4503599627370496) : bits .or .u64 (m : Int) 4503599627370496 = ((m + 4503599627370496 : Nat) : Int) := by
  have h1 : (BitVec.ofInt 64 (m : Int)).toNat = m := by
    rw [BitVec.ofInt_natCast, BitVec.toNat_ofNat]; exact Nat.mod_eq_of_lt (by omega)
  have h2 : (BitVec.ofInt 64 (4503599627370496 : Int)).toNat = 2 ^ 52 := by decide
  show IntKind.u64.wrap ((BitVec.ofInt 64 (m : Int) ||| BitVec.ofInt 64 (4503599627370496 : Int)).toNat : Int) = _
  rw [BitVec.toNat_or, h1, h2, Nat.or_comm]
  have := Nat.two_pow_add_eq_or_of_lt (i := 52) (b := m) (by simpa using hm) 1
  rw [Nat.mul_one] at this
  rw [← this, IntKind.wrap_u64]
  omega
theorem fin_lt (b : Nat) (h : finB b = true) : b % 9223372036854775808 < 9218868437227405312 := by
  refine Nat.lt_of_not_le fun hc => ?_
  rcases Nat.eq_or_lt_of_le hc with he | hlt
  · have : FloatKind.f64.format.read b = .infinity (b / FloatKind.f64.format.signWeight % 2 == 1) := by
      simp only [Ieee.Format.read]
      have h1 : FloatKind.f64.format.signWeight = 9223372036854775808 := rfl
      have h2 : FloatKind.f64.format.infRung = 9218868437227405312 := rfl
      have h3 : FloatKind.f64.format.binade = 4503599627370496 := rfl
      rw [h1, h2, h3, ← he]
      rfl
    simp [finB, this] at h
  · have := read_nan FloatKind.f64.format b hlt (by decide)
    simp [finB, this] at h
theorem fin_ex (b : Nat) (h : finB b = true) : b / 4503599627370496 % 2048 < 2047 := by
  have := fin_lt b h
  omega
@[go_sem] theorem run_bits (n : Nat) (w : World) : (callFunc 129 #[.float .f64 n]).run Tryz.prog w = .ok (.value (.int .u64 (n : Int))) w := by
  rw [run_callFunc_extern (e := Extern.MathFloatBits.float64bits) Tryz.func129 (by kernel_rfl) (by kernel_rfl) (by kernel_rfl) (by kernel_rfl)]
  rfl
theorem bitLen_ge : ∀ (k x : Nat), 0 < x → x < 2 ^ k → k ≤ 64 → x < 2 ^ Lib.bitLen x ∧ 2 ^ Lib.bitLen x ≤ 2 * x
  | 0, x, h0, h1, _ => by omega
  | k + 1, x, h0, h1, hk => by
    have h64 : x < 2 ^ 64 := Nat.lt_of_lt_of_le h1 (Nat.pow_le_pow_right (by decide) hk)
    rw [bitLen_half x (by omega) h64, Nat.pow_add]
    rcases Nat.eq_zero_or_pos (x / 2) with h | h
    · rw [h]
      have : Lib.bitLen 0 = 0 := rfl
      rw [this]
      omega
    · have := bitLen_ge k (x / 2) h (by rw [Nat.pow_succ] at h1; omega) (by omega)
      omega
/-- The mantissa, moved to the top. -/
theorem top_facts (mm : Nat) (h0 : 0 < mm) (h1 : mm < 9007199254740992) : ∃ s : Nat, 11 ≤ s ∧ s ≤ 63 ∧ Lib.bitLen mm = 64 - s ∧ 9223372036854775808 ≤ mm * 2 ^ s ∧ mm * 2 ^ s + 2 ^ s ≤ 18446744073709551616 ∧ (4503599627370496 ≤ mm → s = 11) ∧ (mm < 4503599627370496 → 12 ≤ s) := by
  obtain ⟨h2, h3⟩ := bitLen_ge 64 mm h0 (by omega) (by omega)
  have hle : Lib.bitLen mm ≤ 53 := bitLen_le mm 53 (by omega) h1
  have hL0 : 0 < Lib.bitLen mm := by
    rcases Nat.eq_zero_or_pos (Lib.bitLen mm) with h | h
    · rw [h] at h2; omega
    · exact h
  refine ⟨64 - Lib.bitLen mm, by omega, by omega, by omega, ?_, ?_, ?_, ?_⟩
  · have : 2 ^ 64 ≤ 2 * (mm * 2 ^ (64 - Lib.bitLen mm)) := by
      calc 2 ^ 64 = 2 ^ Lib.bitLen mm * 2 ^ (64 - Lib.bitLen mm) := by rw [← Nat.pow_add]; congr 1; omega
        _ ≤ 2 * mm * 2 ^ (64 - Lib.bitLen mm) := Nat.mul_le_mul_right _ h3
        _ = 2 * (mm * 2 ^ (64 - Lib.bitLen mm)) := by rw [Nat.mul_assoc]
    omega
  · have : (mm + 1) * 2 ^ (64 - Lib.bitLen mm) ≤ 2 ^ 64 := by
      calc (mm + 1) * 2 ^ (64 - Lib.bitLen mm) ≤ 2 ^ Lib.bitLen mm * 2 ^ (64 - Lib.bitLen mm) := Nat.mul_le_mul_right _ h2
        _ = 2 ^ 64 := by rw [← Nat.pow_add]; congr 1; omega
    rw [Nat.succ_mul] at this
    exact this
  · intro h
    have : 53 ≤ Lib.bitLen mm := by
      rcases Nat.lt_or_ge (Lib.bitLen mm) 53 with hc | hc
      · have := Nat.pow_le_pow_right (n := 2) (by decide) (show Lib.bitLen mm ≤ 52 by omega)
        omega
      · exact hc
    omega
  · intro h
    have := bitLen_le mm 52 (by omega) h
    omega
theorem short_of (mm : Nat) (E : Int) (h0 : 0 < mm) (h1 : mm < 9007199254740992) (hE0 : -1022 ≤ E) (hE1 : E ≤ 1023) (hn : mm < 4503599627370496 → E = -1022) :
    ∃ s m : Nat, s ≤ 63 ∧ 11 ≤ s ∧ Lib.bitLen mm = 64 - s ∧ m = mm * 2 ^ s ∧ 9223372036854775808 ≤ m ∧ m < 18446744073709551616 ∧ ShortOk m (E - s - 52) := by
  obtain ⟨s, s0, s1, hb, hm0, hm1, ha, hc⟩ := top_facts mm h0 h1
  have hp := Nat.pow_le_pow_right (n := 2) (by decide) s0
  refine ⟨s, mm * 2 ^ s, s1, s0, hb, rfl, hm0, by omega, ?_⟩
  generalize mm * 2 ^ s = m at *
  refine shortOk m (E - s - 52) hm0 (by omega) (by omega) ?_ ?_
  · by_cases h : mm < 4503599627370496
    · have := hn h; omega
    · have := ha (by omega); omega
  · intro hlt
    by_cases h : mm < 4503599627370496
    · have hE := hn h
      have hs : (11 + (-1085 - (E - s - 52))).toNat - 1 = s - 1 := by omega
      rw [hs]
      have h2 : 2 ^ s = 2 * 2 ^ (s - 1) := by rw [← Nat.pow_succ']; congr 1; omega
      have h3 : ((2 : Int) ^ (s - 1)) = ((2 ^ (s - 1) : Nat) : Int) := by simp
      rw [h3]
      have h4 := Nat.pow_pos (n := s - 1) (show 0 < 2 by decide)
      omega
    · have := ha (by omega); omega
theorem trimL_pos (l : List UInt8) (h : l[0]? ≠ some 48) : ∀ n, 1 ≤ n → 1 ≤ trimL l n
  | 0, h0 => by omega
  | 1, _ => by
    simp only [trimL]
    rw [if_neg h]; omega
  | n + 2, _ => by
    rw [trimL]
    split
    · exact trimL_pos l h (n + 1) (by omega)
    · omega
end Go.Proofs.YtjbpphomlmlmaaaGreatDoor
