/- The small functions beneath the shortest text of a float. -/
import Derived.Test.YtjbpphomlmlmaaaGreatDoorQB3
import Derived.Laws.Bits64b
import GoSem.PinnedTables
namespace Go.Proofs.YtjbpphomlmlmaaaGreatDoor
open Go.RowKit
set_option linter.unusedVariables false
set_option maxRecDepth 100000 in
set_option maxHeartbeats 1600000 in
theorem log10Pow2_calls (e : Int) (h0 : -10000 ≤ e) (h1 : e ≤ 10000) (w : World) : Calls Tryz.prog 124 #[.int .i64 e] w fun r w' => r = .returned (.int .i64 (e * 78913 / 262144)) ∧ w' = w := by
  go_enter Tryz.func124, Tryz.ntmps124
  go_wp2_with fail
  go_ret
  exact ⟨rfl, rfl⟩
theorem skewed_calls (e : Int) (h0 : -10000 ≤ e) (h1 : e ≤ 10000) (w : World) : Calls Tryz.prog 154 #[.int .i64 e] w fun r w' => r = .returned (.int .i64 ((e * 631305 - 261663) / 2097152)) ∧ w' = w := by
  go_enter Tryz.func154, Tryz.ntmps154
  go_wp2_with fail
  go_ret
  exact ⟨rfl, rfl⟩
theorem log2Pow10_calls (e : Int) (h0 : -10000 ≤ e) (h1 : e ≤ 10000) (w : World) : Calls Tryz.prog 156 #[.int .i64 e] w fun r w' => r = .returned (.int .i64 (e * 108853 / 32768)) ∧ w' = w := by
  go_enter Tryz.func156, Tryz.ntmps156
  go_wp2_with fail
  go_ret
  exact ⟨rfl, rfl⟩
theorem nudge_calls (u o : Int) (h1 : 1 ≤ u) (h2 : u < 9223372036854775808) (h3 : -1 ≤ o) (h4 : o ≤ 1) (w : World) : Calls Tryz.prog 158 #[.int .u64 u, .int .i64 o] w fun r w' => r = .returned (.int .u64 (u + o)) ∧ w' = w := by
  have hw : IntKind.u64.wrap (u + IntKind.u64.wrap o) = u + o := by rw [IntKind.wrap_u64, IntKind.wrap_u64]; omega
  go_enter Tryz.func158, Tryz.ntmps158
  go_wp2_with fail
  go_ret
  exact ⟨by rw [← hw]; rfl, rfl⟩
theorem ceil_calls (u : Int) (h0 : 0 ≤ u) (h1 : u < 9223372036854775809) (w : World) : Calls Tryz.prog 159 #[.int .u64 u] w fun r w' => r = .returned (.int .u64 ((u + 3) / 4)) ∧ w' = w := by
  go_enter Tryz.func159, Tryz.ntmps159
  go_wp2_with fail
  go_ret
  exact ⟨rfl, rfl⟩
theorem floor_calls (u : Int) (h0 : 0 ≤ u) (h1 : u < 9223372036854775809) (w : World) : Calls Tryz.prog 160 #[.int .u64 u] w fun r w' => r = .returned (.int .u64 (u / 4)) ∧ w' = w := by
  go_enter Tryz.func160, Tryz.ntmps160
  go_wp2_with fail
  go_ret
  exact ⟨rfl, rfl⟩
theorem and_one (a : Nat) (ha : a < 18446744073709551616) : bits .and .u64 (a : Int) 1 = ((a % 2 : Nat) : Int) := by
  have := bits_and_u64_nat a 1 ha (by decide)
  rw [Nat.and_one_is_mod] at this
  exact this
theorem round_calls (u : Nat) (h1 : u < 9223372036854775809) (w : World) : Calls Tryz.prog 161 #[.int .u64 u] w fun r w' => r = .returned (.int .u64 (((u + 1 + u / 4 % 2) / 4 : Nat) : Int)) ∧ w' = w := by
  have ha : bits .and .u64 ((u : Int) / 4) 1 = ((u / 4 % 2 : Nat) : Int) := and_one (u / 4) (by omega)
  go_enter Tryz.func161, Tryz.ntmps161
  go_wp2_with fail
  go_ret
  exact ⟨rfl, rfl⟩
theorem and63 (s : Nat) (h : s ≤ 63) : bits .and .i64 (s : Int) 63 = s := by
  have : ∀ s : Fin 64, bits .and .i64 (s.val : Int) 63 = s.val := by decide
  exact this ⟨s, by omega⟩
theorem bool2_u64 (b : Bool) (w : World) : Calls Tryz.prog 179 #[.bool b] w fun r w' => r = .returned (.int .u64 (if b then 1 else 0)) ∧ w' = w := by
  cases b
  all_goals go_enter Tryz.func179, Tryz.ntmps179
  all_goals go_wp2_with fail
  all_goals go_ret
  all_goals exact ⟨rfl, rfl⟩
/-- What 'uscale' gives, of the products' words. -/
def uscaleP (h mid m2 s : Nat) : Int :=
  if (IntKind.u64.wrap ((h : Int) / 2 ^ s * 2 ^ s) != (h : Int)) = true then bits .or .u64 ((h : Int) / 2 ^ s) 1
  else bits .or .u64 ((if mid < m2 then IntKind.u64.wrap ((h : Int) - 1) else (h : Int)) / 2 ^ s) (if 1 < IntKind.u64.wrap ((mid : Int) - (m2 : Int)) then 1 else 0)
set_option maxRecDepth 100000 in
set_option maxHeartbeats 1600000 in
theorem uscale_walk (x hi lo h mid m2 l2 s : Nat) (hh : h < 18446744073709551616) (hmid : mid < 18446744073709551616) (hm2 : m2 < 18446744073709551616) (s1 : s ≤ 63) (b : Nat) (w : World)
    (k1 : ∀ w, Calls Tryz.prog 178 #[.int .u64 x, .int .u64 hi] w fun e w' => e = .returned (.tuple #[.int .u64 h, .int .u64 mid]) ∧ w' = w)
    (k2 : ∀ w, Calls Tryz.prog 178 #[.int .u64 x, .int .u64 lo] w fun e w' => e = .returned (.tuple #[.int .u64 m2, .int .u64 l2]) ∧ w' = w)
    (c0 : w.cell? ⟨b, 0, none⟩ = some (.int .u64 hi)) (c1 : w.cell? ⟨b, 1, none⟩ = some (.int .u64 lo)) (c2 : w.cell? ⟨b, 2, none⟩ = some (.int .i64 s)) :
    Calls Tryz.prog 157 #[.int .u64 x, .pointer (some ⟨b, 0, none⟩)] w fun r w' => r = .returned (.int .u64 (uscaleP h mid m2 s)) ∧ ∃ n, w' = w.drewN n := by
  have hand := and63 s s1
  have K1 := Lib.hid k1
  have K2 := Lib.hid k2
  clear k1 k2
  go_enter Tryz.func157, Tryz.ntmps157
  go_wp2_with (first
    | (go_at_call_of 178 (Value.int IntKind.u64 (hi : Int)); refine (K1.out _).mono ?_; rintro e w1 ⟨rfl, rfl⟩)
    | (go_at_call_of 178 (Value.int IntKind.u64 (lo : Int)); refine (K2.out _).mono ?_; rintro e w1 ⟨rfl, rfl⟩)
    | (go_at_call 179; refine (bool2_u64 _ _).mono ?_; rintro e w1 ⟨rfl, rfl⟩))
  · rename _ = true => hne
    go_ret
    exact ⟨by rw [uscaleP, if_pos hne]; rfl, 0, rfl⟩
  · rename _ = false => hne
    rename mid < m2 => hlt
    rename World => w9
    have hne' : ¬ (IntKind.u64.wrap ((h : Int) / 2 ^ s * 2 ^ s) != (h : Int)) = true := by rw [hne]; decide
    go_quiet (refine Calls.quiet_of_same ((bool2_u64 _ _)))
    go_wp2_with fail
    · rename 1 < _ => h2
      go_ret
      exact ⟨by rw [uscaleP, if_neg hne', if_pos hlt, if_pos h2]; rfl, nq, rfl⟩
    · rename _ ≤ (1 : Int) => h2
      go_ret
      exact ⟨by rw [uscaleP, if_neg hne', if_pos hlt, if_neg (by omega)]; rfl, nq, rfl⟩
  · rename _ = false => hne
    rename ¬ mid < m2 => hlt
    rename World => w9
    have hne' : ¬ (IntKind.u64.wrap ((h : Int) / 2 ^ s * 2 ^ s) != (h : Int)) = true := by rw [hne]; decide
    have hw : IntKind.u64.wrap ((mid : Int) - (m2 : Int)) = (mid : Int) - m2 := by rw [IntKind.wrap_u64]; omega
    go_quiet (refine Calls.quiet_of_same ((bool2_u64 _ _)))
    go_wp2_with fail
    · rename 1 < _ => h2
      go_ret
      exact ⟨by rw [uscaleP, if_neg hne', if_neg (by omega), hw, if_pos h2]; rfl, nq, rfl⟩
    · rename _ ≤ (1 : Int) => h2
      go_ret
      exact ⟨by rw [uscaleP, if_neg hne', if_neg (by omega), hw, if_neg (by omega)]; rfl, nq, rfl⟩
theorem uscale_calls (x hi lo s : Nat) (hx : x < 18446744073709551616) (hhi : hi < 18446744073709551616) (hlo : lo < 18446744073709551616) (s1 : s ≤ 63) (b : Nat) (w : World)
    (c0 : w.cell? ⟨b, 0, none⟩ = some (.int .u64 hi)) (c1 : w.cell? ⟨b, 1, none⟩ = some (.int .u64 lo)) (c2 : w.cell? ⟨b, 2, none⟩ = some (.int .i64 s)) :
    Calls Tryz.prog 157 #[.int .u64 x, .pointer (some ⟨b, 0, none⟩)] w fun r w' => r = .returned (.int .u64 (uscaleP (x * hi / 18446744073709551616) (x * hi % 18446744073709551616) (x * lo / 18446744073709551616) s)) ∧ ∃ n, w' = w.drewN n := by
  refine uscale_walk x hi lo _ _ _ _ s ?_ ?_ ?_ s1 b w (Tryz.bits_Mul64 x hi hx hhi) (Tryz.bits_Mul64 x lo hx hlo) c0 c1 c2
  · rw [Nat.div_lt_iff_lt_mul (by decide)]
    exact Nat.mul_lt_mul_of_lt_of_lt hx hhi
  · exact Nat.mod_lt _ (by decide)
  · rw [Nat.div_lt_iff_lt_mul (by decide)]
    exact Nat.mul_lt_mul_of_lt_of_lt hx hlo
def p10 (i : Nat) : Nat × Nat := (Go.Pinned.pow10Rows[i]?).getD (0, 0)
theorem p10_ok (i : Nat) (h : i < 696) : 9223372036854775808 ≤ (p10 i).1 ∧ (p10 i).1 < 18446744073709551616 ∧ (p10 i).2 < 18446744073709551616 := by
  have hl : Go.Pinned.pow10Rows.length = 696 := by kernel_rfl
  have hall : (Go.Pinned.pow10Rows.all fun x => decide (9223372036854775808 ≤ x.1) && decide (x.1 < 18446744073709551616) && decide (x.2 < 18446744073709551616)) = true := by kernel_rfl
  have hlt : i < Go.Pinned.pow10Rows.length := by omega
  have := List.all_eq_true.1 hall _ (List.getElem_mem hlt)
  simp only [p10, List.getElem?_eq_getElem hlt, Option.getD_some]
  simp only [Bool.and_eq_true, decide_eq_true_eq] at this
  exact ⟨this.1.1, this.1.2, this.2⟩
/-- The table of powers of ten. -/
def Tab10 (w : World) : Prop := ∀ i, i < 696 → w.cell? ⟨9, i * 2, none⟩ = some (.int .u64 (p10 i).1) ∧ w.cell? ⟨9, i * 2 + 1, none⟩ = some (.int .u64 (p10 i).2)
def SclAt (w : World) (B : Nat) (a b c : Int) : Prop := w.heap[B]? = some (.cells #[.int .u64 a, .int .u64 b, .int .i64 c] 217 (0, 0))
theorem SclAt.cells {w : World} {b : Nat} {x y z : Int} (h : SclAt w b x y z) : (w.cell? ⟨b, 0, none⟩ = some (.int .u64 x) ∧ w.cell? ⟨b, 1, none⟩ = some (.int .u64 y) ∧ w.cell? ⟨b, 2, none⟩ = some (.int .i64 z)) ∧ (w.frozen? ⟨b, 0, none⟩ = false ∧ w.frozen? ⟨b, 1, none⟩ = false ∧ w.frozen? ⟨b, 2, none⟩ = false) := by
  unfold SclAt at h
  refine ⟨⟨?_, ?_, ?_⟩, ?_, ?_, ?_⟩
  all_goals first
    | (rw [cell_of_row _ _ _ _ _ _ h]; rfl)
    | simp [World.frozen?, h]
theorem row_setCell {w : World} {b : Nat} {cs : Array Value} {t : TypeId} {f : Nat × Nat} (h : w.heap[b]? = some (.cells cs t f)) (j : Nat) (v : Value) : (w.setCell ⟨b, j, none⟩ v).heap[b]? = some (.cells (cs.setIfInBounds j v) t f) := by
  have hlt := lt_of_block h
  have h' : w.heap[b] = .cells cs t f := by simpa [Array.getElem?_eq_getElem hlt] using h
  show (w.heap.modify b _)[b]? = _
  rw [Array.getElem?_eq_getElem (by simpa using hlt), Array.getElem_modify_self, h']
  rfl
theorem below_set3 (B : Nat) (w : World) (x y z : Value) : Below B w (((w.setCell ⟨B, 0, none⟩ x).setCell ⟨B, 1, none⟩ y).setCell ⟨B, 2, none⟩ z) := by
  have h0 : B ≤ (Addr.mk B 0 none).block := Nat.le_refl B
  have h1 : B ≤ (Addr.mk B 1 none).block := Nat.le_refl B
  have h2 : B ≤ (Addr.mk B 2 none).block := Nat.le_refl B
  exact (((Below.refl B w).setCell h0 x).setCell h1 y).setCell h2 z
theorem SclAt.set {w : World} {B : Nat} {a b c x y z : Int} (h : SclAt w B a b c) : SclAt (((w.setCell ⟨B, 0, none⟩ (.int .u64 x)).setCell ⟨B, 1, none⟩ (.int .u64 y)).setCell ⟨B, 2, none⟩ (.int .i64 z)) B x y z := by
  exact row_setCell (row_setCell (row_setCell h 0 _) 1 _) 2 _
set_option maxRecDepth 100000 in
set_option maxHeartbeats 1600000 in
theorem prescale_calls (e p lp : Int) (i B : Nat) (a b c : Int) (w : World) (hi : i < 696) (hp : p = (i : Int) - 348) (he0 : -100000 ≤ e) (he1 : e ≤ 100000) (hl0 : -100000 ≤ lp) (hl1 : lp ≤ 100000) (hT : Tab10 w) (hB : SclAt w B a b c) (h9 : B ≠ 9) :
    Calls Tryz.prog 155 #[.pointer (some ⟨B, 0, none⟩), .int .i64 e, .int .i64 p, .int .i64 lp] w fun r w' => r = .returned (.tuple #[]) ∧ SclAt w' B (p10 i).1 (p10 i).2 (-(e + lp + 3)) ∧ Below B w w' := by
  subst hp
  obtain ⟨⟨c0, c1, c2⟩, f0, f1, f2⟩ := hB.cells
  obtain ⟨t0, t1⟩ := hT i hi
  go_enter Tryz.func155, Tryz.ntmps155
  go_wp2_with fail
  refine bodyPost_end (results_none rfl _ _ _) rfl ?_
  exact ⟨rfl, hB.set, below_set3 B w _ _ _⟩
end Go.Proofs.YtjbpphomlmlmaaaGreatDoor
