/- The texts of numbers as the program prints them. -/
import Derived.Test.YtjbpphomlmlmaaaGreatDoorQK6
import Derived.Test.YtjbpphomlmlmaaaGreatDoorQG1
import Derived.Test.YtjbpphomlmlmaaaGreatDoorQF2
namespace Go.Proofs.YtjbpphomlmlmaaaGreatDoor
open Go.RowKit
set_option linter.unusedVariables false
set_option linter.unusedSimpArgs false
structure FH (F H : Nat → List UInt8) : Prop where
  flen : ∀ b, (F b).length ≤ 64
  hlen : ∀ u, (H u).length ≤ 2
  fne : ∀ b, b < 18446744073709551616 → finB b = true → F b ≠ []
  f : ∀ b, b < 18446744073709551616 → finB b = true → ∀ w, Base2 w → Calls Tryz.prog 34 #[.float .f64 b, .int .u8 103, .int .i64 (-1), .int .i64 64] w fun e w' => e = .returned (.string ⟨(F b).toArray⟩) ∧ Below w.heap.size w w'
  h : ∀ u : Nat, u < 256 → ∀ w, Base2 w → Calls Tryz.prog 32 #[.int .u64 u, .int .i64 16] w fun e w' => e = .returned (.string ⟨(H u).toArray⟩) ∧ Below w.heap.size w w'
theorem fh_exists : ∃ F H, FH F H := by
  have hf : ∀ b, ∃ l : List UInt8, l.length ≤ 64 ∧ (b < 18446744073709551616 → finB b = true → l ≠ [] ∧ ∀ w, Base2 w → Calls Tryz.prog 34 #[.float .f64 b, .int .u8 103, .int .i64 (-1), .int .i64 64] w fun e w' => e = .returned (.string ⟨l.toArray⟩) ∧ Below w.heap.size w w') := fun b => by
    by_cases h : b < 18446744073709551616 ∧ finB b = true
    · obtain ⟨l, ⟨h1, h2⟩, h3⟩ := ff_calls (ftoa_ok b h.1 h.2)
      exact ⟨l, h2, fun _ _ => ⟨h1, fun w hw => h3 w hw.ten hw.base.pow⟩⟩
    · exact ⟨[], by simp, fun h1 h2 => absurd ⟨h1, h2⟩ h⟩
  have hh : ∀ u : Nat, ∃ l : List UInt8, l.length ≤ 2 ∧ (u < 256 → ∀ w, Base2 w → Calls Tryz.prog 32 #[.int .u64 u, .int .i64 16] w fun e w' => e = .returned (.string ⟨l.toArray⟩) ∧ Below w.heap.size w w') := fun u => by
    by_cases h : u < 256
    · obtain ⟨l, h2, h3⟩ := fu16 u h
      exact ⟨l, h2, fun _ w hw => h3 w hw.db⟩
    · exact ⟨[], by simp, fun h1 => absurd h1 h⟩
  exact ⟨fun b => (hf b).choose, fun u => (hh u).choose, fun b => (hf b).choose_spec.1, fun u => (hh u).choose_spec.1, fun b h1 h2 => ((hf b).choose_spec.2 h1 h2).1, fun b h1 h2 => ((hf b).choose_spec.2 h1 h2).2, fun u h => (hh u).choose_spec.2 h⟩
theorem below_grow {w w' : World} (h : ∃ k os, w' = Sort.grow (w.drewN k) os) : Below w.heap.size w w' := by
  obtain ⟨k, os, rfl⟩ := h
  exact Lib.below_grow _ w (Nat.le_refl _) k os
theorem int_calls (u : TypeId) (ik : IntKind) (a : Int) (l : List UInt8) (h : (u = 73 ∧ ik = .i16 ∧ -32768 ≤ a ∧ a < 32768) ∨ (u = 21 ∧ ik = .i32 ∧ -2147483648 ≤ a ∧ a < 2147483648) ∨ (u = 2 ∧ ik = .i64 ∧ -9223372036854775808 ≤ a ∧ a < 9223372036854775808)) (w : World) :
    Calls Tryz.prog 119 #[.agg #[.iface u (.int ik a), .string (bs l)]] w fun e w' => e = .returned (.int .i64 a) ∧ Below w.heap.size w w' := by
  rcases h with ⟨rfl, rfl, h0, h1⟩ | ⟨rfl, rfl, h0, h1⟩ | ⟨rfl, rfl, h0, h1⟩
  all_goals
    go_enter Tryz.func119, Tryz.ntmps119
    go_wp2_with fail
    go_ret
    exact ⟨rfl, (Below.refl _ _).alloc (Nat.le_refl _) _⟩
theorem uint_calls (u : TypeId) (ik : IntKind) (a : Int) (l : List UInt8) (h : (u = 74 ∧ ik = .u16 ∧ 0 ≤ a ∧ a < 65536) ∨ (u = 75 ∧ ik = .u32 ∧ 0 ≤ a ∧ a < 4294967296) ∨ (u = 22 ∧ ik = .u64 ∧ 0 ≤ a ∧ a < 18446744073709551616) ∨ (u = 77 ∧ ik = .u32 ∧ 0 ≤ a ∧ a < 4294967296)) (w : World) :
    Calls Tryz.prog 120 #[.agg #[.iface u (.int ik a), .string (bs l)]] w fun e w' => e = .returned (.int .u64 a) ∧ Below w.heap.size w w' := by
  rcases h with ⟨rfl, rfl, h0, h1⟩ | ⟨rfl, rfl, h0, h1⟩ | ⟨rfl, rfl, h0, h1⟩ | ⟨rfl, rfl, h0, h1⟩
  all_goals
    go_enter Tryz.func120, Tryz.ntmps120
    go_wp2_with fail
    go_ret
    exact ⟨rfl, (Below.refl _ _).alloc (Nat.le_refl _) _⟩
theorem order_max (b : Nat) (h : finB b = true) : (FloatKind.f64.format.order b 9218868437227405311 == some .gt) = false := by
  have hr : FloatKind.f64.format.read 9218868437227405311 = .number false 9007199254740991 971 := by decide
  have h1 : FloatKind.f64.format.signWeight = 9223372036854775808 := rfl
  have h2 : FloatKind.f64.format.infRung = 9218868437227405312 := rfl
  have h3 : FloatKind.f64.format.binade = 4503599627370496 := rfl
  have h4 : FloatKind.f64.format.leastPlace = -1074 := rfl
  have hx : ∃ s m p, FloatKind.f64.format.read b = .number s m p ∧ m ≤ 9007199254740991 ∧ p ≤ 971 := by
    cases hrb : FloatKind.f64.format.read b with
    | number s m p =>
      refine ⟨s, m, p, rfl, ?_⟩
      simp only [Ieee.Format.read, h1, h2, h3, h4] at hrb
      split at hrb
      · cases hrb; omega
      · split at hrb
        · cases hrb; omega
        · split at hrb <;> cases hrb
    | infinity s => simp [finB, hrb] at h
    | nan s t => simp [finB, hrb] at h
  obtain ⟨s, m, p, hb, hm, hp⟩ := hx
  have hmin : min p 971 = p := by omega
  have h0 : (p - p).toNat = 0 := by omega
  have ha : Ieee.signed s m 0 ≤ 9007199254740991 := by unfold Ieee.signed; cases s <;> simp <;> omega
  have hc : (9007199254740991 : Int) ≤ Ieee.signed false 9007199254740991 (971 - p).toNat := by
    simp only [Ieee.signed, Nat.shiftLeft_eq]
    have := Nat.pow_pos (n := (971 - p).toNat) (show 0 < 2 by decide)
    generalize 2 ^ (971 - p).toNat = g at *
    simp; omega
  simp only [Ieee.Format.order, hb, hr, Ieee.Datum.order, hmin, h0]
  generalize Ieee.signed s m 0 = x at *
  generalize Ieee.signed false 9007199254740991 (971 - p).toNat = y at *
  have hne : compare x y ≠ .gt := by
    intro hg
    have := Int.compare_eq_gt.1 hg
    omega
  cases hcc : compare x y <;> simp_all
theorem isInf_calls (b : Nat) (h : finB b = true) (w : World) : Calls Tryz.prog 118 #[.float .f64 b, .int .i64 1] w fun e w' => e = .returned (.bool false) ∧ w' = w := by
  go_enter Tryz.func118, Tryz.ntmps118
  have hx := order_max b h
  go_wp2_with fail
  go_ret
  exact ⟨rfl, rfl⟩
theorem wrap_n {n : Int} (h0 : 0 ≤ n) (h1 : n < 18446744073709551616) (hr : inRangeB 110 n = true) : IntKind.i16.wrap n = sgn n ∧ -32768 ≤ sgn n ∧ sgn n < 32768 := by
  have e : IntKind.i16.wrap n = (n + 32768) % 65536 - 32768 := by simp [IntKind.wrap, IntKind.bits, IntKind.signed]; omega
  simp [inRangeB, IntKind.wrap_u64, wrap64, e] at hr
  rw [e]
  unfold sgn
  split <;> omega
theorem wrap_i {n : Int} (h0 : 0 ≤ n) (h1 : n < 18446744073709551616) (hr : inRangeB 105 n = true) : wrap32 n = sgn n ∧ -2147483648 ≤ sgn n ∧ sgn n < 2147483648 := by
  simp [inRangeB, IntKind.wrap_u64, wrap64, wrap32] at hr
  unfold sgn wrap32
  split <;> omega
theorem wrap_x {n : Int} (h0 : 0 ≤ n) (h1 : n < 18446744073709551616) : wrap64 n = sgn n ∧ -9223372036854775808 ≤ sgn n ∧ sgn n < 9223372036854775808 := by
  unfold sgn wrap64
  split <;> omega
theorem wrap_q {n : Int} (h0 : 0 ≤ n) (hr : inRangeB 113 n = true) : IntKind.u16.wrap n = n ∧ n < 65536 := by
  simp [inRangeB] at hr
  rw [IntKind.wrap_u16]; omega
theorem wrap_u {n : Int} (h0 : 0 ≤ n) {k : Int} (hk : k = 117 ∨ k = 104) (hr : inRangeB k n = true) : IntKind.u32.wrap n = n ∧ n < 4294967296 := by
  rcases hk with rfl | rfl <;> (simp [inRangeB] at hr; rw [IntKind.wrap_u32]; omega)
theorem wrap_y {n : Int} (h0 : 0 ≤ n) (hr : inRangeB 121 n = true) : IntKind.u8.wrap n = n ∧ n < 256 := by
  simp [inRangeB] at hr
  rw [IntKind.wrap_u8]; omega
/-- What 'zzSprint' writes: signed numbers. -/
theorem sprint_int {v : V} {t : Ty} (h : HT v t) (h255 : t.sig.length ≤ 255) (S : Nat → Prop) (u : TypeId) (ik : IntKind) (a : Int) (hu : (u = 73 ∧ ik = .i16 ∧ -32768 ≤ a ∧ a < 32768) ∨ (u = 21 ∧ ik = .i32 ∧ -2147483648 ≤ a ∧ a < 2147483648) ∨ (u = 2 ∧ ik = .i64 ∧ -9223372036854775808 ≤ a ∧ a < 9223372036854775808)) (w : World) (hw : Base2 w) (hA : AR S w v (.iface u (.int ik a))) :
    Calls Tryz.prog 79 #[.iface u (.int ik a)] w fun e w' => e = .returned (.string ⟨(Lib.itoa a).toArray⟩) ∧ Below w.heap.size w w' := by
  have hV := valueOf_calls h h255 S _ _ w hA
  have hI := fun w => int_calls u ik a (zty t) hu w
  rcases hu with ⟨rfl, rfl, h0, h1⟩ | ⟨rfl, rfl, h0, h1⟩ | ⟨rfl, rfl, h0, h1⟩
  all_goals
    go_enter Tryz.func79, Tryz.ntmps79
    go_wp2_with fail
    refine hV.mono ?_
    rintro _ w1 ⟨rfl, hb1⟩
    go_wp2_with fail
    refine (hI _).mono ?_
    rintro _ w2 ⟨rfl, hb2⟩
    go_wp2_with fail
    refine (Tryz.strconv_FormatInt_10 a (by omega) (by omega) _ ((hw.below hb1).below hb2).base.pow).mono ?_
    rintro _ w3 ⟨rfl, hb3⟩
    go_wp2_with fail
    go_ret
    exact ⟨rfl, hb1.trans ((hb2.trans ((below_grow hb3).mono hb2.size)).mono hb1.size)⟩
theorem sprint_uint {v : V} {t : Ty} (h : HT v t) (h255 : t.sig.length ≤ 255) (S : Nat → Prop) (u : TypeId) (ik : IntKind) (a : Nat) (hu : (u = 74 ∧ ik = .u16 ∧ (0:Int) ≤ a ∧ (a:Int) < 65536) ∨ (u = 75 ∧ ik = .u32 ∧ (0:Int) ≤ a ∧ (a:Int) < 4294967296) ∨ (u = 22 ∧ ik = .u64 ∧ (0:Int) ≤ a ∧ (a:Int) < 18446744073709551616) ∨ (u = 77 ∧ ik = .u32 ∧ (0:Int) ≤ a ∧ (a:Int) < 4294967296)) (w : World) (hw : Base2 w) (hA : AR S w v (.iface u (.int ik a))) :
    Calls Tryz.prog 79 #[.iface u (.int ik a)] w fun e w' => e = .returned (.string ⟨(Lib.decDigits a).toArray⟩) ∧ Below w.heap.size w w' := by
  have hV := valueOf_calls h h255 S _ _ w hA
  have hI := fun w => uint_calls u ik a (zty t) hu w
  rcases hu with ⟨rfl, rfl, h0, h1⟩ | ⟨rfl, rfl, h0, h1⟩ | ⟨rfl, rfl, h0, h1⟩ | ⟨rfl, rfl, h0, h1⟩
  all_goals
    go_enter Tryz.func79, Tryz.ntmps79
    go_wp2_with fail
    refine hV.mono ?_
    rintro _ w1 ⟨rfl, hb1⟩
    go_wp2_with fail
    refine (hI _).mono ?_
    rintro _ w2 ⟨rfl, hb2⟩
    go_wp2_with fail
    refine (fu10 a (by omega) _ ((hw.below hb1).below hb2).base.pow).mono ?_
    rintro _ w3 ⟨rfl, hb3⟩
    go_wp2_with fail
    go_ret
    exact ⟨rfl, hb1.trans ((hb2.trans (hb3.mono hb2.size)).mono hb1.size)⟩
theorem sprint_bool (b : Bool) (w : World) :
    Calls Tryz.prog 79 #[.iface 4 (.bool b)] w fun e w' => e = .returned (.string ⟨(Lib.formatBool b).toArray⟩) ∧ Below w.heap.size w w' := by
  go_enter Tryz.func79, Tryz.ntmps79
  go_wp2_with fail
  refine (Tryz.strconv_FormatBool b _).mono ?_
  rintro _ w1 ⟨rfl, rfl⟩
  go_wp2_with fail
  go_ret
  exact ⟨rfl, Below.refl _ _⟩
theorem sprint_float {F H : Nat → List UInt8} (hF : FH F H) (b : Nat) (hb : b < 18446744073709551616) (hf : finB b = true) (w : World) (hw : Base2 w) :
    Calls Tryz.prog 79 #[.iface 48 (.float .f64 b)] w fun e w' => e = .returned (.string ⟨(F b).toArray⟩) ∧ Below w.heap.size w w' := by
  go_enter Tryz.func79, Tryz.ntmps79
  go_wp2_with fail
  refine (isInf_calls b hf _).mono ?_
  rintro _ w1 ⟨rfl, rfl⟩
  go_wp2_with fail
  refine (hF.f b hb hf _ hw).mono ?_
  rintro _ w1 ⟨rfl, hb1⟩
  go_wp2_with fail
  go_ret
  exact ⟨rfl, hb1⟩
end Go.Proofs.YtjbpphomlmlmaaaGreatDoor
