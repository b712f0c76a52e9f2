/- The bounds beneath the shortest text of a float. -/
import Derived.Test.YtjbpphomlmlmaaaGreatDoorQC1
namespace Go.Proofs.YtjbpphomlmlmaaaGreatDoor
open Go.RowKit
set_option linter.unusedVariables false
theorem or_ge {a b : Nat} (ha : a < 18446744073709551616) (hb : b < 18446744073709551616) : ∃ k : Nat, bits .or .u64 (a : Int) (b : Int) = (k : Int) ∧ a ≤ k ∧ b ≤ k ∧ k < 18446744073709551616 ∧ (a < 4611686018427387904 → b < 4611686018427387904 → k < 4611686018427387904) := by
  refine ⟨a ||| b, bits_or_u64_nat a b ha hb, Nat.left_le_or, Nat.right_le_or, ?_, ?_⟩
  · exact Nat.or_lt_two_pow (n := 64) (by omega) (by omega)
  · intro h1 h2; exact Nat.or_lt_two_pow (n := 62) (by omega) (by omega)
theorem pow_bounds (s : Nat) (h0 : 2 ≤ s) (h1 : s ≤ 60) : 4 ≤ 2 ^ s ∧ 2 ^ s ≤ 1152921504606846976 := by
  constructor
  · exact Nat.pow_le_pow_right (n := 2) (by decide) h0
  · exact Nat.pow_le_pow_right (n := 2) (by decide) h1
/-- 'uscale' gives at least one, and less than 2^62; of a full word at least three. -/
theorem uscaleP_ok (x hi lo s : Nat) (hx0 : 2 ≤ x) (hx : x < 18446744073709551616) (hh0 : 9223372036854775808 ≤ hi) (hhi : hi < 18446744073709551616) (hlo : lo < 18446744073709551616) (s0 : 2 ≤ s) (s1 : s ≤ 60) :
    ∃ k : Nat, uscaleP (x * hi / 18446744073709551616) (x * hi % 18446744073709551616) (x * lo / 18446744073709551616) s = (k : Int) ∧ 1 ≤ k ∧ k < 4611686018427387904 ∧ (9223372036854775808 ≤ x → 3 ≤ k) := by
  have hh : x * hi / 18446744073709551616 < 18446744073709551616 := by
    rw [Nat.div_lt_iff_lt_mul (by decide)]; exact Nat.mul_lt_mul_of_lt_of_lt hx hhi
  have hm2 : x * lo / 18446744073709551616 ≤ 18446744073709551614 := by
    apply Nat.le_of_lt_succ
    rw [Nat.div_lt_iff_lt_mul (by decide)]
    calc x * lo ≤ 18446744073709551615 * 18446744073709551615 := Nat.mul_le_mul (by omega) (by omega)
      _ < _ := by decide
  have hmid := Nat.mod_lt (x * hi) (show 18446744073709551616 > 0 by decide)
  have hge1 : 1 ≤ x * hi / 18446744073709551616 := by
    rw [Nat.le_div_iff_mul_le (by decide)]
    calc 1 * 18446744073709551616 = 2 * 9223372036854775808 := by decide
      _ ≤ x * hi := Nat.mul_le_mul hx0 hh0
  have hge2 : 9223372036854775808 ≤ x → 4611686018427387904 ≤ x * hi / 18446744073709551616 := by
    intro h
    rw [Nat.le_div_iff_mul_le (by decide)]
    calc 4611686018427387904 * 18446744073709551616 = 9223372036854775808 * 9223372036854775808 := by decide
      _ ≤ x * hi := Nat.mul_le_mul h hh0
  obtain ⟨p0, p1⟩ := pow_bounds s s0 s1
  generalize x * hi / 18446744073709551616 = h at *
  generalize x * hi % 18446744073709551616 = mid at *
  generalize x * lo / 18446744073709551616 = m2 at *
  unfold uscaleP
  have hpi : ((2 : Int) ^ s) = ((2 ^ s : Nat) : Int) := by simp
  rw [hpi]
  generalize 2 ^ s = p at *
  have hq : (h : Int) / (p : Int) = ((h / p : Nat) : Int) := by simp
  have hle : h / p * p ≤ h := Nat.div_mul_le_self h p
  have hlt : h / p < 4611686018427387904 := by
    rw [Nat.div_lt_iff_lt_mul (by omega)]
    calc h < 4611686018427387904 * 4 := by omega
      _ ≤ _ := Nat.mul_le_mul (Nat.le_refl _) p0
  have hge3 : 9223372036854775808 ≤ x → 4 ≤ h / p := by
    intro hx
    rw [Nat.le_div_iff_mul_le (by omega)]
    have := hge2 hx
    omega
  have hw : IntKind.u64.wrap ((h : Int) / (p : Int) * (p : Int)) = ((h / p * p : Nat) : Int) := by
    rw [IntKind.wrap_u64, hq]; 
    have : (((h / p : Nat) : Int) * (p : Int)) = ((h / p * p : Nat) : Int) := by simp
    rw [this]; omega
  rw [hw]
  split
  · rw [hq]
    obtain ⟨k, hk, h1, h2, h3, h4⟩ := or_ge (a := h / p) (b := 1) (by omega) (by decide)
    exact ⟨k, hk, h2, h4 hlt (by decide), fun h => by have := hge3 h; omega⟩
  · rename_i hne
    have he : h / p * p = h := by
      simp only [bne_iff_ne, ne_eq, Decidable.not_not] at hne
      exact Int.ofNat_inj.1 hne
    by_cases hmm : mid < m2
    · rw [if_pos hmm]
      have h1' : IntKind.u64.wrap ((h : Int) - 1) = ((h - 1 : Nat) : Int) := by rw [IntKind.wrap_u64]; omega
      have h2' : 1 < IntKind.u64.wrap ((mid : Int) - (m2 : Int)) := by rw [IntKind.wrap_u64]; omega
      have h3' : ((h - 1 : Nat) : Int) / (p : Int) = (((h - 1) / p : Nat) : Int) := by simp
      rw [if_pos h2', h1', h3']
      have hl2 : (h - 1) / p ≤ h / p := Nat.div_le_div_right (by omega)
      have hl3 : h / p ≤ (h - 1) / p + 1 := by
        have : h / p ≤ (h - 1 + p) / p := Nat.div_le_div_right (by omega)
        rw [Nat.add_div_right _ (by omega)] at this
        exact this
      obtain ⟨k, hk, h1, h2, h3, h4⟩ := or_ge (a := (h - 1) / p) (b := 1) (by omega) (by decide)
      exact ⟨k, hk, h2, h4 (by omega) (by decide), fun h => by have := hge3 h; omega⟩
    · rw [if_neg hmm, hq]
      have hpos : 1 ≤ h / p := by
        rcases Nat.eq_zero_or_pos (h / p) with h0 | h0
        · rw [h0] at he; omega
        · exact h0
      split
      · obtain ⟨k, hk, h1, h2, h3, h4⟩ := or_ge (a := h / p) (b := 1) (by omega) (by decide)
        exact ⟨k, hk, h2, h4 hlt (by decide), fun h => by have := hge3 h; omega⟩
      · obtain ⟨k, hk, h1, h2, h3, h4⟩ := or_ge (a := h / p) (b := 0) (by omega) (by decide)
        exact ⟨k, hk, by omega, h4 hlt (by decide), fun h => by have := hge3 h; omega⟩

/-- The shift's width and the table's place, for every exponent. -/
def shiftOk (e p : Int) : Bool := decide (-292 ≤ p) && decide (p ≤ 324) && decide (2 ≤ -(e + p * 108853 / 32768 + 3)) && decide (-(e + p * 108853 / 32768 + 3) ≤ 60)
theorem shifts_b : ∀ e : Int, -1085 ≤ e → e ≤ 960 → shiftOk e (-((e + 11) * 78913 / 262144)) = true := by
  intro e h0 h1
  have hall : ((List.range 2046).all fun i => shiftOk ((i : Int) - 1085) (-((((i : Int) - 1085) + 11) * 78913 / 262144))) = true := by kernel_rfl
  have := List.all_eq_true.1 hall (e + 1085).toNat (List.mem_range.2 (by omega))
  have he : (((e + 1085).toNat : Nat) : Int) - 1085 = e := by omega
  rwa [he] at this
theorem shifts_a : ∀ e : Int, -1085 ≤ e → e ≤ 960 → shiftOk e (-(((e + 11) * 631305 - 261663) / 2097152)) = true := by
  intro e h0 h1
  have hall : ((List.range 2046).all fun i => shiftOk ((i : Int) - 1085) (-(((((i : Int) - 1085) + 11) * 631305 - 261663) / 2097152))) = true := by kernel_rfl
  have := List.all_eq_true.1 hall (e + 1085).toNat (List.mem_range.2 (by omega))
  have he : (((e + 1085).toNat : Nat) : Int) - 1085 = e := by omega
  rwa [he] at this
theorem shifts_c : ∀ e : Int, -1137 ≤ e → e < -1085 → shiftOk e 324 = true := by
  intro e h0 h1
  have hall : ((List.range 52).all fun i => shiftOk ((i : Int) - 1137) 324) = true := by kernel_rfl
  have := List.all_eq_true.1 hall (e + 1137).toNat (List.mem_range.2 (by omega))
  have he : (((e + 1137).toNat : Nat) : Int) - 1137 = e := by omega
  rwa [he] at this
end Go.Proofs.YtjbpphomlmlmaaaGreatDoor
