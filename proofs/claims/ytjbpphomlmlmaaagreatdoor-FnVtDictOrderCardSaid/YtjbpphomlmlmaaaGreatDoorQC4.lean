/- The digits of a float, laid out. -/
import Derived.Test.YtjbpphomlmlmaaaGreatDoorQC1
import Derived.Lib.OwnBridge
namespace Go.Proofs.YtjbpphomlmlmaaaGreatDoor
open Go.RowKit Go.Sort Go.Lib
set_option linter.unusedVariables false
abbrev encB : UInt8 → Value := fun b => Value.int .u8 (b.toNat : Int)
/-- How many of the first n digits are left without the zeros at their end. -/
def trimL (l : List UInt8) : Nat → Nat
  | 0 => 0
  | n + 1 => if l[n]? = some 48 then trimL l n else n + 1
theorem trimL_le (l : List UInt8) : ∀ n, trimL l n ≤ n
  | 0 => Nat.le_refl _
  | n + 1 => by
    simp only [trimL]
    split
    · exact Nat.le_succ_of_le (trimL_le l n)
    · exact Nat.le_refl _
/-- A row of bytes in a block of its own: each place, free to be set. -/
def ByteRow (w : World) (B : Nat) (l : List UInt8) : Prop := ∀ j (h : j < l.length), w.cell? ⟨B, j, none⟩ = some (.int .u8 (l[j].toNat : Int))
theorem nDigits_le (u : Nat) (h : u < 18446744073709551616) : nDigits u ≤ 20 := by
  rcases Nat.eq_zero_or_pos u with rfl | h0
  · rw [nDigits_small (by decide)]; decide
  · have h1 := (numDigits_eq u h0 h).1
    have h2 := (numDigits_eq u h0 h).2
    split at h1 <;> omega
set_option maxRecDepth 100000 in
set_option maxHeartbeats 1600000 in
theorem setDigits_calls (B d : Nat) (p : Int) (w : World) (h0 : 1 ≤ d) (h1 : d < 18446744073709551616) (hp0 : -100000 ≤ p) (hp1 : p ≤ 100000) (hH : Holds encB w B 0 (Array.replicate 32 0)) :
    Calls Tryz.prog 134 #[.slice (some ⟨B, 0, none⟩) 32 32, .int .u64 d, .int .i64 p, .int .i64 (nDigits d : Nat)] w fun e w' =>
      e = .returned (.tuple #[.int .i64 ((nDigits d : Nat) + p), .int .i64 (trimL (decDigits d) (nDigits d) : Nat)]) ∧ ByteRow w' B (decDigits d) ∧ Below B w w' := by
  have hn := nDigits_le d h1
  have hH2 : Holds encB w B 0 (Array.replicate (nDigits d) 0) := by
    intro j hj
    simp at hj
    have := hH j (by simp; omega)
    rw [getElem!_pos _ j (by simp; omega)] at this
    rw [getElem!_pos _ j (by simpa using hj)]
    simpa using this
  obtain ⟨nd, hnd⟩ : ∃ nd, nd = nDigits d := ⟨_, rfl⟩
  have hlt := lt_pow_nDigits d
  rw [← hnd] at hH2 hn hlt ⊢
  have hsz : (Array.replicate nd (0 : UInt8)).size = nd := by simp
  have hk : ∀ c : Nat, Calls Tryz.prog 94 #[.slice (some ⟨B, 0, none⟩) nd c, .int .u64 d] w fun e w' =>
      e = .returned (.tuple #[]) ∧ ByteRow w' B (decDigits d) ∧ Below B w w' := by
    intro c
    have h := Tryz.internal_strconv_formatBase10 B 0 c d (Array.replicate nd 0) w hH2 (by rw [hsz]; exact hlt) h1 (by rw [hsz]; omega)
    rw [hsz] at h
    refine h.mono ?_
    rintro e w' ⟨rfl, n, v', dk, rfl, hI⟩
    refine ⟨rfl, ?_, ?_⟩
    · intro j hj
      have hj' : j < nd := by rw [decDigits_length] at hj; omega
      have hsd : dk.size = nd := hI.size
      have hc := cell?_putRow encB w B 0 (Array.replicate nd 0) dk hH2 (by rw [hsz]; exact hsd) j (by omega)
      have hd := hI.done j (by omega) hj'
      have hv : (decDigits d)[j] = dg d (nd - 1 - j) := by
        simp only [decDigits_eq, List.getElem_map, List.getElem_range, hnd]
      rw [hv, ← hd]
      have hc' : (putRow encB w B 0 dk).cell? ⟨B, j, none⟩ = some (encB dk[j]!) := by simpa using hc
      exact hc'
    · exact below_drewN (below_putRow (q := 0) (Below.refl B w) (Nat.le_refl B)) _
  have hK := Lib.hid hk
  have hlen : (decDigits d).length = nd := by rw [decDigits_length]; exact hnd.symm
  obtain ⟨l, hl⟩ : ∃ l, decDigits d = l := ⟨_, rfl⟩
  rw [hl] at hK hlen ⊢
  clear hk hH2 hnd hl
  have hle : ((nd : Nat) : Int) ≤ 32 := by omega
  go_enter Tryz.func134, Tryz.ntmps134
  go_wp2_with (go_at_call 94; refine (hK.out _).mono ?_; rintro e w1 ⟨rfl, hR, hb⟩)
  go_loop [3] (fun i => ∃ k : Nat, k ≤ nd ∧ i = .int .i64 k ∧ Hid (trimL l k = trimL l nd)) (fun i => (intOf i).toNat)
  case atStart => exact ⟨nd, Nat.le_refl _, rfl, Lib.hid rfl⟩
  case round =>
    obtain ⟨k, hk, rfl, HT⟩ := hrel
    rcases Nat.eq_zero_or_pos k with rfl | hpos
    · go_wp2_with fail
      go_ret2
      refine ⟨?_, hR, hb⟩
      rw [← HT.out]; rfl
    · obtain ⟨j, rfl⟩ : ∃ j, k = j + 1 := ⟨k - 1, by omega⟩
      have hc := hR j (by omega)
      cases h48 : ((l[j].toNat : Int) == 48)
      · go_wp2_with fail
        go_ret2
        refine ⟨?_, hR, hb⟩
        rw [← HT.out]
        have : ¬ l[j]? = some 48 := by
          rw [List.getElem?_eq_getElem (by omega)]
          intro h
          rw [Option.some.inj h] at h48
          exact absurd h48 (by decide)
        rw [trimL, if_neg this]; rfl
      · have hj : l[j] = 48 := u8_of_int (by simpa using h48)
        have HJ := Lib.hid hj
        clear hj
        go_wp2_with fail
        go_round
        case rel => exact ⟨j, by omega, by go_num, Lib.hid (by rw [← HT.out, trimL, if_pos (by rw [List.getElem?_eq_getElem (by omega), HJ.out])])⟩
        case measure => simp [intOf]
end Go.Proofs.YtjbpphomlmlmaaaGreatDoor
