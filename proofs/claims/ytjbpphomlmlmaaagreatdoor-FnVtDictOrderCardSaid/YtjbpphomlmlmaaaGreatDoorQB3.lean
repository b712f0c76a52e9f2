/- What 'vtPrints' tells: a good value. -/
import Derived.Test.YtjbpphomlmlmaaaGreatDoorQB2
namespace Go.Proofs.YtjbpphomlmlmaaaGreatDoor
open Go.RowKit
set_option linter.unusedVariables false
/-- A value of which the statements speak. -/
def Good (v : V) : Prop := TidTop v ∧ Steady v ∧ v.cnt ≤ 1000 ∧ v.txt ≤ 65536
theorem But2.below {p q B : Nat} {w w' : World} (h : But2 p q w w') (hB : B ≤ w.heap.size) (hp : B ≤ p) (hq : B ≤ q) : Below B w w' :=
  ⟨h.os, h.tape, h.output, h.size, fun k hk => h.block k (by omega) (by omega) (by omega)⟩
set_option maxRecDepth 100000 in
set_option maxHeartbeats 1600000 in
theorem fits_calls (v : V) (S : Nat → Prop) (x : Value) (w : World) (hr : Rep S w v x) : Calls Tryz.prog 7 #[x] w (Tells True w) := by
  obtain ⟨k, n, s, kids⟩ := v
  simp only [Rep] at hr
  obtain ⟨A, cap, rfl, hc1, hc2, hk, hn, hs, hkids⟩ := hr
  have hb0 : Below w.heap.size w (w.alloc (.cells #[.int .u8 k, .int .u64 n, .string s, .slice A kids.length cap] 25)) := (Below.refl _ _).alloc (Nat.le_refl _) _
  go_enter Tryz.func7, Tryz.ntmps7
  go_wp2_with fail
  all_goals go_ret
  all_goals exact ⟨_, rfl, fun _ => trivial, hb0⟩

theorem IntAt.new (w : World) (m : Int) : IntAt (w.alloc (.cells #[.int .i64 m] 3)) w.heap.size m := heap_alloc_new w _
set_option maxRecDepth 100000 in
set_option maxHeartbeats 1600000 in
theorem prints_calls (v : V) (S : Nat → Prop) (x : Value) (w : World) (hw : Base w) (hr : Rep S w v x) : Calls Tryz.prog 8 #[x] w (Tells (Good v) w) := by
  have hr1 : Rep (fun b => b < w.heap.size) w v x := hr.mono fun b hb _ => hb
  obtain ⟨k, n, s, kids⟩ := v
  simp only [Rep] at hr
  obtain ⟨A, cap, rfl, hc1, hc2, hk, hn, hs, hkids⟩ := hr
  have hb0 : Below w.heap.size w (((w.alloc (.cells #[.int .u8 k, .int .u64 n, .string s, .slice A kids.length cap] 25)).alloc (.cells #[.int .i64 0] 3)).alloc (.cells #[.int .i64 0] 3)) := (((Below.refl _ _).alloc (Nat.le_refl _) _).alloc (by simp) _).alloc (by simp; omega) _
  have XB : Box (((w.alloc (.cells #[.int .u8 k, .int .u64 n, .string s, .slice A kids.length cap] 25)).alloc (.cells #[.int .i64 0] 3)).alloc (.cells #[.int .i64 0] 3)) w.heap.size k n s A kids.length cap :=
    (Box.new w k n s A kids.length cap).keep (((Below.refl _ _).alloc (Nat.le_refl _) _).alloc (by simp) _)
  have hM : IntAt (((w.alloc (.cells #[.int .u8 k, .int .u64 n, .string s, .slice A kids.length cap] 25)).alloc (.cells #[.int .i64 0] 3)).alloc (.cells #[.int .i64 0] 3)) (w.heap.size + 1) 0 := by
    have := (IntAt.new (w.alloc (.cells #[.int .u8 k, .int .u64 n, .string s, .slice A kids.length cap] 25)) 0).alloc (.cells #[.int .i64 0] 3)
    simpa using this
  have hZ : IntAt (((w.alloc (.cells #[.int .u8 k, .int .u64 n, .string s, .slice A kids.length cap] 25)).alloc (.cells #[.int .i64 0] 3)).alloc (.cells #[.int .i64 0] 3)) (w.heap.size + 1 + 1) 0 := by
    have := IntAt.new ((w.alloc (.cells #[.int .u8 k, .int .u64 n, .string s, .slice A kids.length cap] 25)).alloc (.cells #[.int .i64 0] 3)) 0
    simpa using this
  go_enter Tryz.func8, Tryz.ntmps8
  go_wp2_with fail
  go_at_call 16
  refine (counted_calls (SizeOf.sizeOf (V.mk k n s kids) + 1) _ (Nat.lt_succ_self _) _ _ _ _ _ _ _ _ (by omega) (by omega) (by omega) (by omega) (by omega) (by omega) (by omega) hM hZ (fun b hb => ⟨by omega, by omega⟩) (hr1.below hb0)).mono ?_
  rintro e w1 ⟨ok, m', z', rfl, hM1, hZ1, hok, hB⟩
  have hbw : Below w.heap.size w w1 := hb0.trans (hB.below (by simp; omega) (by omega) (by omega))
  have XB1 : Box w1 w.heap.size k n s A kids.length cap := (hB.block _ (by simp; omega) (by omega) (by omega)).trans XB
  obtain ⟨x0, x1, x2, x3⟩ := XB1.cells
  have hbs := hbw.size
  cases ok
  · go_wp2_with fail
    go_ret
    exact Tells.no hbw
  · obtain ⟨h1, h2, h3, h4⟩ := hok rfl
    have hc : (V.mk k n s kids).cnt ≤ 1000 := by omega
    have ht : (V.mk k n s kids).txt ≤ 65536 := by omega
    have hwt : (V.mk k n s kids).wt < 1000000 := by rw [wt_eq]; omega
    have hG := Lib.hid (And.intro hc ht)
    clear h1 h2 h3 h4 hc ht hok
    go_wp2_with fail
    go_at_call 17
    refine (tidyTop_calls 1000000 (Nat.le_refl _) _ hwt _ _ _ (hw.below hbw) (hr1.below hbw)).mono ?_
    rintro e w2 ⟨t, rfl, hT, hb2⟩
    have hbw2 := hbw.trans (hb2.mono hbs)
    have XB2 := XB1.keep hb2
    obtain ⟨y0, y1, y2, y3⟩ := XB2.cells
    have hbs2 := hbw2.size
    cases t
    · go_wp2_with fail
      go_ret
      exact Tells.no hbw2
    · have HT := Lib.hid (hT rfl)
      clear hT
      go_wp2_with fail
      go_at_call 18
      refine (steady_calls (SizeOf.sizeOf (V.mk k n s kids) + 1) _ (Nat.lt_succ_self _) HT.out.2.2.2 _ _ _ (hr1.below hbw2)).mono ?_
      rintro e w3 ⟨t, rfl, hS, hb3⟩
      go_wp2_with fail
      go_ret
      exact Tells.yes (hbw2.trans (hb3.mono hbs2)) fun h => ⟨HT.out, hS h, hG.out.1, hG.out.2⟩
end Go.Proofs.YtjbpphomlmlmaaaGreatDoor
