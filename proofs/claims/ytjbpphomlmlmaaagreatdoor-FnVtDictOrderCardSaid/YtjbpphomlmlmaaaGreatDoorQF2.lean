/- FormatUint at base 10, and at base 16 for bytes. -/
import Derived.Test.YtjbpphomlmlmaaaGreatDoorQShelf
import Derived.Test.YtjbpphomlmlmaaaGreatDoorQF1
import Derived.Lib.AppendIntMem
namespace Go.Proofs.YtjbpphomlmlmaaaGreatDoor
open Go.RowKit Go.Sort Go.Lib
set_option linter.unusedVariables false
set_option maxRecDepth 100000 in
set_option maxHeartbeats 1600000 in
theorem fu10_in (u : Nat) (hu64 : u < 18446744073709551616) (w : World) (htab : Lib.TabIs Tryz.prog w "internal/strconv.uint64pow10" .u64 Lib.pow10Tab) :
    Calls Tryz.prog 52 #[.int .u64 u, .int .i64 10] w fun e w' => e = .returned (.string ⟨(Lib.decDigits u).toArray⟩) ∧ Below w.heap.size w w' := by
  by_cases hs : u < 100
  · have hlt : decide ((u : Int) < 100) = true := by simp; omega
    go_enter Tryz.func52, Tryz.ntmps52
    go_wp2_with fail
    refine (Tryz.internal_strconv_small u hs _).mono ?_
    rintro e w' ⟨rfl, rfl⟩
    go_wp2_with fail
    go_ret
    exact ⟨rfl, Below.refl _ _⟩
  · have hlt : decide ((u : Int) < 100) = false := by simp; omega
    have hu1 : 1 ≤ u := by omega
    have hnd20 : Lib.nDigits u ≤ 20 := by have := Lib.numDigits_eq u hu1 hu64; split at this <;> omega
    have hal : Tryz.prog.arrayLen 139 = 24 := by simp [Program.arrayLen, Tryz.underlying139]
    have hsl1 : ∀ W, (Instr.sliceAt 139 (.pointer (some ⟨w.heap.size, 0, none⟩)) none (some (.int .i64 (Lib.nDigits u : Int))) none).run Tryz.prog W = .ok (.slice (some ⟨w.heap.size, 0, none⟩) (Lib.nDigits u) 24) W := fun W => by
      rw [run_sliceAt_array_h W 139 ⟨w.heap.size, 0, none⟩ (by simp [Program.arrayLen, Program.elem, Tryz.underlying139]) .i64 (Lib.nDigits u : Int) (by omega) (by rw [hal]; omega)]
      go_simp
    have hH0 := Lib.holds_zero0 w 139 (Lib.nDigits u) (by omega)
    have hfmt := Tryz.internal_strconv_formatBase10 w.heap.size 0 24 u (Array.replicate (Lib.nDigits u) 0) (w.alloc (.cells Lib.zeros24 139)) hH0 (by rw [Array.size_replicate]; exact Lib.lt_pow_nDigits u) hu64 (by rw [Array.size_replicate]; omega)
    rw [Array.size_replicate] at hfmt
    have HH0 := Lib.hid hH0
    clear hH0 hal
    go_enter Tryz.func52, Tryz.ntmps52
    go_wp2_with (first
      | (refine (Tryz.internal_strconv_numDigits u hu1 hu64 _ (Lib.tabIs_alloc htab _)).mono ?_; rintro e w' ⟨rfl, rfl⟩))
    refine hfmt.mono ?_
    rintro e w' ⟨rfl, k, v', dk, rfl, hF⟩
    have hcv : (convert 46 9 (.slice (some ⟨w.heap.size, 0, none⟩) (Lib.nDigits u) 24)).run Tryz.prog ((putRow (fun (b : UInt8) => Value.int .u8 (b.toNat : Int)) (w.alloc (.cells Lib.zeros24 139)) w.heap.size 0 dk).drewN k) = .ok (.string ⟨(Lib.decDigits u).toArray⟩) ((putRow (fun (b : UInt8) => Value.int .u8 (b.toNat : Int)) (w.alloc (.cells Lib.zeros24 139)) w.heap.size 0 dk).drewN k) := by
      have h := run_convert_bytes_back (P := Tryz.prog) ((putRow (fun (b : UInt8) => Value.int .u8 (b.toNat : Int)) (w.alloc (.cells Lib.zeros24 139)) w.heap.size 0 dk).drewN k) 46 9 5 ⟨w.heap.size, 0, none⟩ 24 (Lib.decDigits u) Tryz.underlying46 Tryz.underlying5 Tryz.underlying9 (fun j hj => by
        rw [Lib.row_is_numeral hF j hj, Lib.add_plain, World.cell?_drewN]
        exact cell?_putRow (fun (b : UInt8) => Value.int .u8 (b.toNat : Int)) _ w.heap.size 0 _ dk HH0.out (by rw [hF.size, Array.size_replicate]) j (by rw [hF.size]; rw [Lib.decDigits_length] at hj; exact hj))
      rw [Lib.decDigits_length] at h
      exact h
    go_wp2
    go_ret
    refine ⟨rfl, ?_⟩
    obtain ⟨os, eo⟩ := Lib.fin_at w (.cells Lib.zeros24 139) dk k 0
    rw [eo]
    exact Lib.below_grow _ w (Nat.le_refl _) k os
theorem fu10 (u : Nat) (hu64 : u < 18446744073709551616) (w : World) (htab : Lib.TabIs Tryz.prog w "internal/strconv.uint64pow10" .u64 Lib.pow10Tab) :
    Calls Tryz.prog 32 #[.int .u64 u, .int .i64 10] w fun e w' => e = .returned (.string ⟨(Lib.decDigits u).toArray⟩) ∧ Below w.heap.size w w' := by
  go_enter Tryz.func32, Tryz.ntmps32
  go_wp2_with fail
  refine (fu10_in u hu64 w htab).mono ?_
  rintro _ w' ⟨rfl, hb⟩
  go_wp2_with fail
  go_ret
  exact ⟨rfl, hb⟩
theorem pow2_16 (w : World) : Calls Tryz.prog 126 #[.int .i64 16] w fun e w' => e = .returned (.bool true) ∧ w' = w := by
  go_enter Tryz.func126, Tryz.ntmps126
  go_wp2_with fail
  go_ret
  exact ⟨rfl, rfl⟩
theorem tz64_16 (w : World) (hdb : w.cell? ⟨8, 15, none⟩ = some (.int .u8 4)) : Calls Tryz.prog 150 #[.int .u64 16] w fun e w' => e = .returned (.int .i64 4) ∧ w' = w := by
  have e1 : bits .and .u64 16 (IntKind.u64.wrap (-16)) = 16 := by decide
  have e2 : IntKind.u64.wrap (16 * 285870213051353865) = 4573923408821661840 := by decide
  have e3 : (4573923408821661840 : Int) / 288230376151711744 = 15 := by decide
  go_enter Tryz.func150, Tryz.ntmps150
  go_wp2_with fail
  go_ret
  exact ⟨rfl, rfl⟩
theorem tz_16 (w : World) (hdb : w.cell? ⟨8, 15, none⟩ = some (.int .u8 4)) : Calls Tryz.prog 127 #[.int .u64 16] w fun e w' => e = .returned (.int .i64 4) ∧ w' = w := by
  go_enter Tryz.func127, Tryz.ntmps127
  go_wp2_with fail
  refine (tz64_16 _ hdb).mono ?_
  rintro _ w' ⟨rfl, rfl⟩
  go_wp2_with fail
  go_ret
  exact ⟨rfl, rfl⟩
def hexB (d : Nat) (h : d < 36) : UInt8 := (ByteArray.mk #[48, 49, 50, 51, 52, 53, 54, 55, 56, 57, 97, 98, 99, 100, 101, 102, 103, 104, 105, 106, 107, 108, 109, 110, 111, 112, 113, 114, 115, 116, 117, 118, 119, 120, 121, 122])[d]'h
def hexD (d : Nat) (h : d < 36) : Int := ((hexB d h).toNat : Int)
structure Hx (B u : Nat) (w : World) (i n : Nat) (wr : World) : Prop where
  bel : Below B w wr
  st : (i = 65 ∧ n = u ∧ ∃ cs, cs.size = 65 ∧ wr.heap[B]? = some (.cells cs 182 (0, 0))) ∨ (i = 64 ∧ n = u / 16 ∧ 16 ≤ u ∧ ∃ cs, cs.size = 65 ∧ wr.heap[B]? = some (.cells cs 182 (0, 0)) ∧ cs[64]? = some (.int .u8 (hexD (u % 16) (by omega))))
set_option maxRecDepth 100000 in
set_option maxHeartbeats 1600000 in
theorem fu16_bits (u : Nat) (hu64 : u < 256) : ∃ l : List UInt8, l.length ≤ 2 ∧ ∀ (w : World), w.cell? ⟨8, 15, none⟩ = some (.int .u8 4) →
    Calls Tryz.prog 95 #[.slice none 0 0, .int .u64 u, .int .i64 16, .bool false, .bool false] w fun e w' => e = .returned (.tuple #[.slice none 0 0, .string ⟨l.toArray⟩]) ∧ Below w.heap.size w w' := by
  refine ⟨if h : u < 16 then [hexB u (by omega)] else [hexB (u / 16) (by omega), hexB (u % 16) (by omega)], by split <;> simp, fun w hdb => ?_⟩
  go_enter Tryz.func95, Tryz.ntmps95
  go_wp2_with fail
  have hdb' : (w.alloc (Obj.cells Tryz.zeroCells182 182)).cell? ⟨8, 15, none⟩ = some (.int .u8 4) := cell_keep (fun b hb => Below.heap_alloc w _ b hb) hdb
  refine (pow2_16 _).mono ?_
  rintro _ w' ⟨rfl, rfl⟩
  go_wp2_with fail
  refine (tz_16 _ hdb').mono ?_
  rintro _ w' ⟨rfl, rfl⟩
  go_wp2_with fail
  go_loopw [13, 1] (fun i n wr => ∃ i' n' : Nat, i = .int .i64 i' ∧ n = .int .u64 n' ∧ Hx w.heap.size u w i' n' wr) (fun _ n _ => (intOf n).toNat)
  case atStart => exact ⟨65, u, rfl, rfl, (Below.refl _ _).alloc (Nat.le_refl _) _, .inl ⟨rfl, rfl, _, rfl, heap_alloc_new w _⟩⟩
  case round =>
    obtain ⟨i', n', rfl, rfl, hH⟩ := hrel
    rcases hH.st with ⟨rfl, rfl, cs, hcs, hB⟩ | ⟨rfl, rfl, h16, cs, hcs, hB, h64⟩
    · have c64 : wr.cell? ⟨w.heap.size, 64, none⟩ = some cs[64] := by rw [cell_of_row _ _ _ _ _ _ hB]; exact Array.getElem?_eq_getElem (by omega)
      have f64 := frozen_of_row wr w.heap.size 64 _ _ hB
      have hx := row_setCell hB 64
      by_cases hlt : n' < 16
      · have hge : decide (16 ≤ (n' : Int)) = false := by simp; omega
        have h36 : decide ((n' : Int) < 36) = true := by simp; omega
        have hl := Array.getElem?_eq_getElem (xs := cs) (i := 64) (by omega)
        have hcv := run_convert_bytes_back (P := Tryz.prog) (wr.setCell ⟨w.heap.size, 64, none⟩ (.int .u8 ((hexB n' (by omega)).toNat : Int))) 46 9 5 ⟨w.heap.size, 64, none⟩ 1 [hexB n' (by omega)] Tryz.underlying46 Tryz.underlying5 Tryz.underlying9 (fun j hj => by
          obtain rfl : j = 0 := by simpa using hj
          rw [Lib.add_plain]
          exact World.cell?_setCell_same _ _ _ c64)
        simp only [hexB, List.length_cons, List.length_nil, Nat.zero_add] at hcv
        go_wp2_with fail
        go_ret2
        exact ⟨rfl, hH.bel.setCell (p := ⟨w.heap.size, 64, none⟩) (Nat.le_refl _) _⟩
      · have hge : decide (16 ≤ (n' : Int)) = true := by simp; omega
        have hA : bits .and .u64 (n' : Int) 15 = ((n' % 16 : Nat) : Int) := and_mask n' 4 (by omega) (by omega)
        have hr : n' % 16 < 16 := by omega
        have hq : n' / 16 < 16 := by omega
        go_wp2_with fail
        refine ⟨⟨64, n' / 16, rfl, rfl, hH.bel.setCell (p := ⟨w.heap.size, 64, none⟩) (Nat.le_refl _) _, .inr ⟨rfl, rfl, by omega, _, ?_, hx _, ?_⟩⟩, ?_⟩
        · simpa using hcs
        · rw [Array.getElem?_setIfInBounds_self_of_lt (by omega)]
          rfl
        · simp only [intOf]; omega
    · have hge : decide (16 ≤ ((u / 16 : Nat) : Int)) = false := by simp; omega
      have c63 : wr.cell? ⟨w.heap.size, 63, none⟩ = some cs[63] := by rw [cell_of_row _ _ _ _ _ _ hB]; exact Array.getElem?_eq_getElem (by omega)
      have c64 : wr.cell? ⟨w.heap.size, 64, none⟩ = some (.int .u8 (hexD (u % 16) (by omega))) := by rw [cell_of_row _ _ _ _ _ _ hB]; exact h64
      have f63 := frozen_of_row wr w.heap.size 63 _ _ hB
      have hcv := run_convert_bytes_back (P := Tryz.prog) (wr.setCell ⟨w.heap.size, 63, none⟩ (.int .u8 ((hexB (u / 16) (by omega)).toNat : Int))) 46 9 5 ⟨w.heap.size, 63, none⟩ 2 [hexB (u / 16) (by omega), hexB (u % 16) (by omega)] Tryz.underlying46 Tryz.underlying5 Tryz.underlying9 (fun j hj => by
        rw [Lib.add_plain]
        match j with
        | 0 => exact World.cell?_setCell_same _ _ _ c63
        | 1 => exact (World.cell?_setCell_other _ _ _ _ (by simp)).trans c64
        | j + 2 => simp at hj; omega)
      simp only [hexB, List.length_cons, List.length_nil, Nat.zero_add, Nat.reduceAdd] at hcv
      go_wp2_with fail
      go_ret2
      exact ⟨rfl, hH.bel.setCell (p := ⟨w.heap.size, 63, none⟩) (Nat.le_refl _) _⟩
theorem fu16 (u : Nat) (hu64 : u < 256) : ∃ l : List UInt8, l.length ≤ 2 ∧ ∀ (w : World), w.cell? ⟨8, 15, none⟩ = some (.int .u8 4) →
    Calls Tryz.prog 32 #[.int .u64 u, .int .i64 16] w fun e w' => e = .returned (.string ⟨l.toArray⟩) ∧ Below w.heap.size w w' := by
  obtain ⟨l, hl, hc⟩ := fu16_bits u hu64
  refine ⟨l, hl, fun w hdb => ?_⟩
  go_enter Tryz.func32, Tryz.ntmps32
  go_wp2_with fail
  have h52 : Calls Tryz.prog 52 #[.int .u64 u, .int .i64 16] w fun e w' => e = .returned (.string ⟨l.toArray⟩) ∧ Below w.heap.size w w' := by
    go_enter Tryz.func52, Tryz.ntmps52
    go_wp2_with fail
    refine (hc _ hdb).mono ?_
    rintro _ w' ⟨rfl, hb⟩
    go_wp2_with fail
    go_ret
    exact ⟨rfl, hb⟩
  refine h52.mono ?_
  rintro _ w' ⟨rfl, hb⟩
  go_wp2_with fail
  go_ret
  exact ⟨rfl, hb⟩
end Go.Proofs.YtjbpphomlmlmaaaGreatDoor
