/- The text of a value's variant; the law of the prefix. -/
import Derived.Test.YtjbpphomlmlmaaaGreatDoorQG5
import Derived.Test.YtjbpphomlmlmaaaGreatDoorQE13
import Derived.Test.YtjbpphomlmlmaaaGreatDoorQE17
import Derived.Recover
namespace Go.Proofs.YtjbpphomlmlmaaaGreatDoor
open Go.RowKit
set_option linter.unusedVariables false
set_option linter.unusedSimpArgs false
set_option maxRecDepth 100000 in
set_option maxHeartbeats 3200000 in
theorem str_calls (sg : List UInt8) (hsg : sg.length ≤ 255) (u : TypeId) (y : Value) (l : List UInt8) (hl : l.length ≤ 10000000) (b : Bool) (w : World)
    (h : ∀ w', Below w.heap.size w w' → Calls Tryz.prog 51 #[.agg #[.string (bs sg), .iface u y]] w' fun e w'' => e = .returned (.tuple #[.string ⟨l.toArray⟩, .bool b]) ∧ Below w'.heap.size w' w'') :
    Calls Tryz.prog 31 #[.agg #[.string (bs sg), .iface u y]] w fun e w' => e = .returned (.string ⟨(if b then l else 64 :: (sg ++ (32 :: l))).toArray⟩) ∧ Below w.heap.size w w' := by
  have hw : ∀ o, Below w.heap.size w (w.alloc o) := fun o => (Below.refl w.heap.size w).alloc (Nat.le_refl _) o
  have h2 := fun o => h _ (hw o)
  clear h
  cases b
  · go_enter Tryz.func31, Tryz.ntmps31
    go_wp2_with fail
    refine (h2 _).mono ?_
    rintro _ w1 ⟨rfl, hb1⟩
    have c1 : w1.cell? ⟨w.heap.size, 0, none⟩ = some (.string (bs sg)) := cell_keep hb1.block (by rw [cell_of_row _ _ _ _ _ _ (heap_alloc_new w _)]; rfl)
    go_wp2_with fail
    go_ret
    have hs : ({ data := #[64] } ++ bs sg ++ { data := #[32] } ++ { data := l.toArray } : ByteArray) = ⟨(64 :: (sg ++ (32 :: l))).toArray⟩ := ba_ext (by simp [bs])
    refine ⟨?_, (hw _).trans (hb1.mono (hw _).size)⟩
    show Ending.returned (.string ({ data := #[64] } ++ bs sg ++ { data := #[32] } ++ { data := l.toArray })) = _
    rw [hs]
    try rfl
  · go_enter Tryz.func31, Tryz.ntmps31
    go_wp2_with fail
    refine (h2 _).mono ?_
    rintro _ w1 ⟨rfl, hb1⟩
    go_wp2_with fail
    go_ret
    exact ⟨rfl, (hw _).trans (hb1.mono (hw _).size)⟩
/-- The deferred closure, where nothing panicked. -/
theorem catch_idle (p q : Addr) (w : World) :
    CallsD Tryz.prog 28 #[.pointer (some p), .pointer (some q)] .returning w fun e u' w' => e = .returned (.tuple #[]) ∧ u' = .returning ∧ w' = w := by
  refine callsD_of_wpS Tryz.func28 rfl fun c₀ cs hu => ?_
  apply wpS_seq
  apply wpS_region
  simp [wpOpsS, go_sem, recoverD, hu, Tryz.ntmps28, Exit.thenS]
  refine wpS_cond (t := false) (by simp [Act.eval, Array.replicate]) ?_
  simp only [Bool.false_eq_true, if_false]
  refine wpS_of_wp (wp_skip ?_)
  cases c₀
  simp_all [bodyPostS, results, Tryz.results28]
set_option maxRecDepth 100000 in
set_option maxHeartbeats 3200000 in
theorem door_calls (k n : Int) (s : ByteArray) (A : Option Addr) (m cap : Nat) (q : ByteArray) (w : World)
    (h : ∀ w', Below w.heap.size w w' → Calls Tryz.prog 30 #[.agg #[.int .u8 k, .int .u64 n, .string s, .slice A m cap]] w' fun e w1 => ∃ u y, e = .returned (.iface u y) ∧ Below w'.heap.size w' w1 ∧
      Calls Tryz.prog 29 #[.iface u y] w1 fun e w2 => ∃ sg, e = .returned (.agg #[.string sg, .iface u y]) ∧ Below w1.heap.size w1 w2 ∧
      Calls Tryz.prog 31 #[.agg #[.string sg, .iface u y]] w2 fun e w3 => e = .returned (.string q) ∧ Below w2.heap.size w2 w3) :
    Calls Tryz.prog 19 #[.agg #[.int .u8 k, .int .u64 n, .string s, .slice A m cap]] w fun e w' => e = .returned (.tuple #[.string q, .nilIface]) ∧ Below w.heap.size w w' := by
  have hmf : ∀ (fn : Fn) (first cap : Array Value) (w : World), (Instr.makeFunc fn first cap).run Tryz.prog w = .ok (.func fn first cap) w := fun _ _ _ _ => rfl
  go_enter_defers Tryz.func19, Tryz.ntmps19
  go_wp2_with fail
  have hw3 : ∀ o1 o2 o3, Below w.heap.size w (((w.alloc o1).alloc o2).alloc o3) := fun o1 o2 o3 => (((Below.refl w.heap.size w).alloc (Nat.le_refl _) o1).alloc (by simp) o2).alloc (by simp; omega) o3
  have hB := hw3 (.cells #[.int .u8 k, .int .u64 n, .string s, .slice A m cap] 44) (.cells #[.string { data := #[] }] 9) (.cells #[.nilIface] 39)
  have e1 : (((w.alloc (.cells #[.int .u8 k, .int .u64 n, .string s, .slice A m cap] 44)).alloc (.cells #[.string { data := #[] }] 9)).alloc (.cells #[.nilIface] 39)).heap[w.heap.size + 1]? = some (.cells #[.string { data := #[] }] 9 (0, 0)) := by
    have h0 := heap_alloc_new (w.alloc (.cells #[.int .u8 k, .int .u64 n, .string s, .slice A m cap] 44)) (.cells #[.string { data := #[] }] 9)
    have hz : (w.alloc (.cells #[.int .u8 k, .int .u64 n, .string s, .slice A m cap] 44)).heap.size = w.heap.size + 1 := by simp
    rw [hz] at h0
    exact (Below.heap_alloc _ _ _ (by simp)).trans h0
  have e2 : (((w.alloc (.cells #[.int .u8 k, .int .u64 n, .string s, .slice A m cap] 44)).alloc (.cells #[.string { data := #[] }] 9)).alloc (.cells #[.nilIface] 39)).heap[w.heap.size + 1 + 1]? = some (.cells #[.nilIface] 39 (0, 0)) := by
    have h0 := heap_alloc_new ((w.alloc (.cells #[.int .u8 k, .int .u64 n, .string s, .slice A m cap] 44)).alloc (.cells #[.string { data := #[] }] 9)) (.cells #[.nilIface] 39)
    have hz : ((w.alloc (.cells #[.int .u8 k, .int .u64 n, .string s, .slice A m cap] 44)).alloc (.cells #[.string { data := #[] }] 9)).heap.size = w.heap.size + 1 + 1 := by simp
    rw [hz] at h0
    exact h0
  refine (h _ hB).mono ?_
  clear h
  generalize (((w.alloc (.cells #[.int .u8 k, .int .u64 n, .string s, .slice A m cap] 44)).alloc (.cells #[.string { data := #[] }] 9)).alloc (.cells #[.nilIface] 39)) = wa at *
  rintro _ w1 ⟨u, y, rfl, hb1, h⟩
  go_wp2_with fail
  refine h.mono ?_
  clear h
  rintro _ w2 ⟨sg, rfl, hb2, h⟩
  go_wp2_with fail
  refine h.mono ?_
  clear h
  rintro _ w3 ⟨rfl, hb3⟩
  have hb : Below wa.heap.size wa w3 := hb1.trans ((hb2.trans (hb3.mono hb2.size)).mono hb1.size)
  have hs1 := (Array.getElem?_eq_some_iff.1 e1).1
  have hs2 := (Array.getElem?_eq_some_iff.1 e2).1
  have g1 := (hb.block _ hs1).trans e1
  have g2 := (hb.block _ hs2).trans e2
  have c1 : w3.cell? ⟨w.heap.size + 1, 0, none⟩ = some (.string { data := #[] }) := by rw [cell_of_row _ _ _ _ _ _ g1]; rfl
  have c2 : w3.cell? ⟨w.heap.size + 1 + 1, 0, none⟩ = some .nilIface := by rw [cell_of_row _ _ _ _ _ _ g2]; rfl
  have f1 := frozen_of_row w3 (w.heap.size + 1) 0 _ _ g1
  have f2 := frozen_of_row w3 (w.heap.size + 1 + 1) 0 _ _ g2
  go_wp2_with fail
  refine leaves_cons (f := 28) (args := #[.pointer (some ⟨w.heap.size + 1, 0, none⟩), .pointer (some ⟨w.heap.size + 1 + 1, 0, none⟩)]) (by simp) (by simp [go_sem]) ?_
  refine (catch_idle _ _ _).mono ?_
  rintro e u' w'' ⟨rfl, rfl, rfl⟩
  have d1 : ((w3.setCell ⟨w.heap.size + 1, 0, none⟩ (.string q)).setCell ⟨w.heap.size + 1 + 1, 0, none⟩ .nilIface).cell? ⟨w.heap.size + 1, 0, none⟩ = some (.string q) :=
    (World.cell?_setCell_other _ _ _ _ (by simp)).trans (World.cell?_setCell_same _ _ _ c1)
  have d2 : ((w3.setCell ⟨w.heap.size + 1, 0, none⟩ (.string q)).setCell ⟨w.heap.size + 1 + 1, 0, none⟩ .nilIface).cell? ⟨w.heap.size + 1 + 1, 0, none⟩ = some .nilIface :=
    World.cell?_setCell_same _ _ _ ((World.cell?_setCell_other _ _ _ _ (by simp)).trans c2)
  have hfin : Below w.heap.size w ((w3.setCell ⟨w.heap.size + 1, 0, none⟩ (.string q)).setCell ⟨w.heap.size + 1 + 1, 0, none⟩ .nilIface) :=
    ((hB.trans (hb.mono hB.size)).setCell (p := ⟨w.heap.size + 1, 0, none⟩) (by show w.heap.size ≤ w.heap.size + 1; omega) _).setCell (p := ⟨w.heap.size + 1 + 1, 0, none⟩) (by show w.heap.size ≤ w.heap.size + 1 + 1; omega) _
  simp [Leaves, settle, results, Tryz.results19, loadVar, asAddr, go_sem, d1, d2, hfin]
set_option maxRecDepth 100000 in
set_option maxHeartbeats 3200000 in
theorem vts_calls (k n : Int) (s : ByteArray) (A : Option Addr) (m cap : Nat) (q : ByteArray) (w : World)
    (h : ∀ w', Below w.heap.size w w' → Calls Tryz.prog 20 #[.agg #[.int .u8 k, .int .u64 n, .string s, .slice A m cap]] w' fun e w1 => ∃ y, e = .returned y ∧ Below w'.heap.size w' w1 ∧
      Calls Tryz.prog 19 #[y] w1 fun e w2 => e = .returned (.tuple #[.string q, .nilIface]) ∧ Below w1.heap.size w1 w2) :
    Calls Tryz.prog 9 #[.agg #[.int .u8 k, .int .u64 n, .string s, .slice A m cap]] w fun e w' => e = .returned (.tuple #[.string q, .bool true]) ∧ Below w.heap.size w w' := by
  have hw : ∀ o, Below w.heap.size w (w.alloc o) := fun o => (Below.refl w.heap.size w).alloc (Nat.le_refl _) o
  have h2 := fun o => h _ (hw o)
  clear h
  go_enter Tryz.func9, Tryz.ntmps9
  go_wp2_with fail
  refine (h2 _).mono ?_
  rintro _ w1 ⟨y, rfl, hb1, h⟩
  go_wp2_with fail
  refine h.mono ?_
  clear h
  rintro _ w2 ⟨rfl, hb2⟩
  go_wp2_with fail
  go_region
  go_wp2_with fail
  go_ret2
  exact ⟨rfl, ((hw _).trans ((hb1.trans (hb2.mono hb1.size)).mono (hw _).size)).drew⟩
theorem vtString_calls {F H : Nat → List UInt8} (hF : FH F H) {v : V} {t : Ty} (h : HT v t) (hok : t.ok 32 32 32) (h255 : t.sig.length ≤ 255) (ht : v.txt ≤ 65536) (hc : v.cnt ≤ 1000) (S : Nat → Prop) (x : Value) (w : World) (hw : Base2 w) (hr : Rep S w v x) :
    Calls Tryz.prog 9 #[x] w fun e w' => e = .returned (.tuple #[.string (bs (textOf v (writ F H v))), .bool true]) ∧ Below w.heap.size w w' := by
  have hfm := fmt_calls hF h hok h255 ht hc
  have hsg := h.facts.1
  have hlw := wl_of hF h ht hc
  have hvi := vi_calls h
  have hdi := di_calls h hok h255
  obtain ⟨k, n, s, kids⟩ := v
  have hr0 := hr
  simp only [Rep] at hr
  obtain ⟨A, cap, rfl, _⟩ := hr
  refine vts_calls k n s A kids.length cap _ w fun w1 hb1 => ?_
  refine (hvi S _ w1 (hr0.keep fun b hlt _ => hb1.block b hlt)).mono ?_
  rintro _ w2 ⟨y, rfl, hry, hb2⟩
  refine ⟨y, rfl, hb2, ?_⟩
  have hry0 := hry
  simp only [Rep] at hry
  obtain ⟨A', cap', rfl, _⟩ := hry
  have hB2 := hb1.trans (hb2.mono hb1.size)
  refine door_calls k n s A' kids.length cap' _ w2 fun w3 hb3 => ?_
  refine (hdi _ _ w3 (hry0.keep fun b hlt _ => hb3.block b hlt)).mono ?_
  rintro _ w4 ⟨z, rfl, hAz, hb4⟩
  obtain ⟨u, yy, rfl⟩ := hAz.iface h.kind
  refine ⟨u, yy, rfl, hb4, ?_⟩
  refine (makeVar_calls h hok h255 _ u yy w4 hAz).mono ?_
  rintro _ w5 ⟨rfl, hb5⟩
  refine ⟨_, rfl, hb5, ?_⟩
  have hB5 := hB2.trans ((hb3.trans ((hb4.trans (hb5.mono hb4.size)).mono hb3.size)).mono hB2.size)
  have := str_calls t.sig h255 u yy (writ F H (.mk k n s kids)) (by omega) (tells (.mk k n s kids)) w5 (fun w6 hb6 => hfm _ u yy w6 (hw.below (hB5.trans (hb6.mono hB5.size))) ((hAz.below hb5).below hb6))
  refine this.mono ?_
  rintro e w7 ⟨rfl, hb7⟩
  refine ⟨?_, hb7⟩
  unfold textOf
  rw [hsg]
  rfl
theorem take_ahead (sg r : List UInt8) : List.take (1 + sg.length) (sg ++ 32 :: r) = sg ++ [32] := by
  rw [show sg ++ 32 :: r = (sg ++ [32]) ++ r by simp, List.take_left' (by simp; omega)]
theorem ahead_list (sg : List UInt8) : ({ data := #[64] } ++ bs sg ++ { data := #[32] } : ByteArray).data.toList = 64 :: (sg ++ [32]) := by simp [bs]
theorem four_cells {w : World} {b : Nat} {x0 x1 x2 x3 : Value} {t : TypeId} (h : w.heap[b]? = some (.cells #[x0, x1, x2, x3] t (0, 0))) :
    w.cell? ⟨b, 0, none⟩ = some x0 ∧ w.cell? ⟨b, 1, none⟩ = some x1 ∧ w.cell? ⟨b, 2, none⟩ = some x2 ∧ w.cell? ⟨b, 3, none⟩ = some x3 := by
  refine ⟨?_, ?_, ?_, ?_⟩ <;> (rw [cell_of_row _ _ _ _ _ _ h]; rfl)
set_option maxRecDepth 100000 in
set_option maxHeartbeats 6400000 in
theorem prefix_walk (G : Prop) (k n : Int) (s : ByteArray) (A : Option Addr) (m cap : Nat) (q sg : List UInt8) (tl : Bool) (w : World)
    (h7 : ∀ w', Below w.heap.size w w' → Calls Tryz.prog 7 #[.agg #[.int .u8 k, .int .u64 n, .string s, .slice A m cap]] w' (Tells True w'))
    (h8 : ∀ w', Below w.heap.size w w' → Calls Tryz.prog 8 #[.agg #[.int .u8 k, .int .u64 n, .string s, .slice A m cap]] w' (Tells G w'))
    (h9 : G → ∀ w', Below w.heap.size w w' → Calls Tryz.prog 9 #[.agg #[.int .u8 k, .int .u64 n, .string s, .slice A m cap]] w' fun e w1 => e = .returned (.tuple #[.string (bs q), .bool true]) ∧ Below w'.heap.size w' w1)
    (h11 : G → ∀ w', Below w.heap.size w w' → Calls Tryz.prog 11 #[.agg #[.int .u8 k, .int .u64 n, .string s, .slice A m cap]] w' fun e w1 => e = .returned (.string (bs sg)) ∧ Below w'.heap.size w' w1)
    (h12 : G → ∀ w', Below w.heap.size w w' → Calls Tryz.prog 12 #[.agg #[.int .u8 k, .int .u64 n, .string s, .slice A m cap]] w' fun e w1 => e = .returned (.bool tl) ∧ Below w'.heap.size w' w1)
    (hq : G → sg.length ≤ 255 ∧ q.length ≤ 10000000 ∧ (tl = true → q.head? ≠ some 64) ∧ (tl = false → ∃ r, r ≠ [] ∧ q = 64 :: (sg ++ 32 :: r))) :
    Calls Tryz.prog 4 #[.agg #[.int .u8 k, .int .u64 n, .string s, .slice A m cap]] w fun e w' => e = .returned (.bool true) ∧ Below w.heap.size w w' := by
  have hB0 : Below w.heap.size w (w.alloc (.cells #[.int .u8 k, .int .u64 n, .string s, .slice A m cap] 25)) := (Below.refl w.heap.size w).alloc (Nat.le_refl _) _
  have hH0 := heap_alloc_new w (.cells #[.int .u8 k, .int .u64 n, .string s, .slice A m cap] 25)
  have hS0 : w.heap.size < (w.alloc (.cells #[.int .u8 k, .int .u64 n, .string s, .slice A m cap] 25)).heap.size := by simp
  go_enter Tryz.func4, Tryz.ntmps4
  go_wp2_with fail
  refine (h7 _ hB0).mono ?_
  rintro _ w1 ⟨b1, rfl, _, hb1⟩
  have hB1 := hB0.trans (hb1.mono hB0.size)
  have hH1 := (hb1.block _ hS0).trans hH0
  have hS1 := Nat.lt_of_lt_of_le hS0 hb1.size
  clear h7 hb1
  obtain ⟨p0, p1, p2, p3⟩ := four_cells hH1
  cases b1
  · go_wp2_with fail
    go_ret
    exact ⟨rfl, hB1⟩
  go_wp2_with fail
  refine (h8 _ hB1).mono ?_
  rintro _ w2 ⟨b2, rfl, hG, hb2⟩
  have hB2 := hB1.trans (hb2.mono hB1.size)
  have hH2 := (hb2.block _ hS1).trans hH1
  have hS2 := Nat.lt_of_lt_of_le hS1 hb2.size
  clear h8 hb2 p0 p1 p2 p3
  obtain ⟨p0, p1, p2, p3⟩ := four_cells hH2
  cases b2
  · go_wp2_with fail
    go_ret
    exact ⟨rfl, hB2⟩
  have hG' := hG rfl
  clear hG
  obtain ⟨hsg, hql, hq1, hq2⟩ := hq hG'
  go_wp2_with fail
  refine (h9 hG' _ hB2).mono ?_
  rintro _ w3 ⟨rfl, hb3⟩
  have hB3 := hB2.trans (hb3.mono hB2.size)
  have hH3 := (hb3.block _ hS2).trans hH2
  have hS3 := Nat.lt_of_lt_of_le hS2 hb3.size
  clear h9 hb3 p0 p1 p2 p3
  obtain ⟨p0, p1, p2, p3⟩ := four_cells hH3
  go_wp2_with fail
  refine (h11 hG' _ hB3).mono ?_
  rintro _ w4 ⟨rfl, hb4⟩
  have hB4 := hB3.trans (hb4.mono hB3.size)
  have hH4 := (hb4.block _ hS3).trans hH3
  have hS4 := Nat.lt_of_lt_of_le hS3 hb4.size
  clear h11 hb4 p0 p1 p2 p3
  obtain ⟨p0, p1, p2, p3⟩ := four_cells hH4
  have h12' := h12 hG' _ hB4
  clear h12 hq
  cases tl
  · obtain ⟨r, hr, rfl⟩ := hq2 rfl
    have hrl : 0 < r.length := List.length_pos_iff.2 hr
    have hx : ¬((sg.length : Int) + ((r.length : Int) + 1) ≤ 1 + (sg.length : Int)) := by omega
    clear hq1 hq2
    have heq : (64 :: List.take (1 + sg.length) (sg ++ 32 :: r) == ({ data := #[64] } ++ bs sg ++ { data := #[32] } : ByteArray).toList) = true := by
      rw [ByteArray.toList_eq, beq_iff_eq, take_ahead, ahead_list]
    go_wp2_with fail
    refine h12'.mono ?_
    rintro _ w5 ⟨rfl, hb5⟩
    go_wp2_with fail
    go_ret
    exact ⟨rfl, hB4.trans (hb5.mono hB4.size)⟩
  · have hq1 := hq1 rfl
    clear hq2
    by_cases hlt : (1 : Int) + sg.length + 1 < q.length
    · have heq : (List.take (1 + sg.length + 1) q == ({ data := #[64] } ++ bs sg ++ { data := #[32] } : ByteArray).toList) = false := by
        rw [ByteArray.toList_eq, beq_eq_false_iff_ne]
        intro hc
        have h0 := congrArg List.head? hc
        rw [List.head?_take, if_neg (by omega)] at h0
        rw [h0] at hq1
        rw [ahead_list] at hq1
        exact hq1 rfl
      go_wp2_with fail
      refine h12'.mono ?_
      rintro _ w5 ⟨rfl, hb5⟩
      go_wp2_with fail
      go_ret
      exact ⟨rfl, hB4.trans (hb5.mono hB4.size)⟩
    · go_wp2_with fail
      refine h12'.mono ?_
      rintro _ w5 ⟨rfl, hb5⟩
      go_wp2_with fail
      go_ret
      exact ⟨rfl, hB4.trans (hb5.mono hB4.size)⟩
mutual
theorem Rep.rng {S : Nat → Prop} {w : World} : ∀ {v : V} {x : Value}, Rep S w v x → Rng v
  | .mk k n s kids, x, hr => by
    simp only [Rep] at hr
    obtain ⟨A, cap, _, _, _, h4, h5, _, h7⟩ := hr
    simp only [Rng]
    exact ⟨h4, h5, Reps.rng h7⟩
theorem Reps.rng {S : Nat → Prop} {w : World} : ∀ {vs : List V} {A : Option Addr} {i : Nat}, Reps S w vs A i → Rngs vs
  | [], _, _, _ => trivial
  | v :: vs, A, i, hr => by
    simp only [Reps] at hr
    obtain ⟨⟨b, o, c0, c1, c2, c3, _, _, _, _, _, _, hv⟩, hrest⟩ := hr
    simp only [Rngs]
    exact ⟨Rep.rng hv, Reps.rng hrest⟩
end
/-- What a good value is of. -/
theorem good_of {v : V} {S : Nat → Prop} {w : World} {x : Value} (hr : Rep S w v x) (hg : Good v) : ∃ t : Ty, HT v t ∧ t.ok 32 32 32 ∧ t.sig.length ≤ 255 ∧ v.txt ≤ 65536 ∧ v.cnt ≤ 1000 := by
  obtain ⟨⟨hk, hl, ⟨ts, hoks, hs⟩, hT⟩, hSt, hc, ht⟩ := hg
  have hR : Rng v := Rep.rng hr
  obtain ⟨T, hp, he⟩ := Tid.typed (SizeOf.sizeOf v + 1) v (by omega) hR hT hk
  have h1 := sigs_one (ts := ts) (T := T) (Ty.oks_plains hoks) hp (by rw [← hs, he])
  subst h1
  simp only [Ty.oks] at hoks
  exact ⟨T, HT_of (SizeOf.sizeOf v + 1) v (by omega) hR hT hSt ht hc hk T hp he, hoks.1, by rw [← he]; exact hl, ht, hc⟩
/-- The law FnVtPrefix answers true. -/
theorem vtPrefix_calls (v : V) (S : Nat → Prop) (x : Value) (w : World) (hw : Base2 w) (hr : Rep S w v x) : Calls Tryz.prog 4 #[x] w fun e w' => e = .returned (.bool true) ∧ Below w.heap.size w w' := by
  obtain ⟨F, H, hF⟩ := fh_exists
  have hr0 := hr
  have hkeep : ∀ w', Below w.heap.size w w' → Rep S w' v x := fun w' hb => hr0.keep fun b hlt _ => hb.block b hlt
  have hx : ∃ k n s A m cap, x = .agg #[.int .u8 k, .int .u64 n, .string s, .slice A m cap] := by
    obtain ⟨k, n, s, kids⟩ := v
    simp only [Rep] at hr
    obtain ⟨A, cap, rfl, _⟩ := hr
    exact ⟨k, n, s, A, kids.length, cap, rfl⟩
  obtain ⟨k, n, s, A, m, cap, rfl⟩ := hx
  refine prefix_walk (Good v) k n s A m cap (textOf v (writ F H v)) (sigL v) (tells v) w (fun w' hb => fits_calls v S _ w' (hkeep w' hb)) (fun w' hb => prints_calls v S _ w' (hw.below hb).base (hkeep w' hb)) ?_ ?_ ?_ ?_
  · intro hg w' hb
    obtain ⟨t, h, hok, h255, ht, hc⟩ := good_of hr0 hg
    exact vtString_calls hF h hok h255 ht hc S _ w' (hw.below hb) (hkeep w' hb)
  · intro hg w' hb
    obtain ⟨t, h, hok, h255, ht, hc⟩ := good_of hr0 hg
    exact sigOf_calls 1000000 v (by rw [wt_eq]; omega) (Nat.le_refl _) S _ w' (hkeep w' hb)
  · intro _ w' hb
    exact vtTells_calls (SizeOf.sizeOf v + 1) v (by omega) S _ w' (hkeep w' hb)
  · intro hg
    obtain ⟨t, h, hok, h255, ht, hc⟩ := good_of hr0 hg
    have hsl := sigL_le255 h h255
    have hwl := wl_of hF h ht hc
    have htx := textOf_len v (writ F H v) hsl
    refine ⟨hsl, by omega, ?_, ?_⟩
    · intro htl
      unfold textOf
      rw [if_pos htl]
      exact writ_no_at h htl
    · intro htl
      refine ⟨writ F H v, writ_ne hF.fne h, ?_⟩
      unfold textOf
      rw [if_neg (by simp [htl])]
end Go.Proofs.YtjbpphomlmlmaaaGreatDoor
