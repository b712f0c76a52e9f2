/- The variant of a value. -/
import Derived.Test.YtjbpphomlmlmaaaGreatDoorQE4
namespace Go.Proofs.YtjbpphomlmlmaaaGreatDoor
open Go.RowKit
set_option linter.unusedVariables false
set_option maxRecDepth 100000 in
set_option maxHeartbeats 3200000 in
theorem sigOfAny_calls {v : V} {t : Ty} (h : HT v t) (hok : t.ok 32 32 32) (h255 : t.sig.length ≤ 255) (S : Nat → Prop) (u : TypeId) (y : Value) (b : Nat) (w : World) (hA : AR S w v (.iface u y)) (hc : w.cell? ⟨b, 0, none⟩ = some (.iface u y)) :
    Calls Tryz.prog 45 #[.slice (some ⟨b, 0, none⟩) 1 1] w fun e w' => e = .returned (.agg #[.string (bs t.sig)]) ∧ Below w.heap.size w w' := by
  have hf := h.facts
  have hb0 : Below w.heap.size w (w.alloc (.cells #[.string ByteArray.empty] 53)) := (Below.refl _ _).alloc (Nat.le_refl _) _
  have hT := typeOf_calls h h255 S _ _ (hA.below hb0)
  have hc0 := cell_keep hb0.block hc
  go_enter Tryz.func45, Tryz.ntmps45
  go_wp2_with fail
  go_loopw [3, 8] (fun s i wr => (i = .int .i64 0 ∧ s = .string ByteArray.empty ∧ wr = w.alloc (.cells #[.string ByteArray.empty] 53)) ∨ (i = .int .i64 1 ∧ s = .string (bs t.sig) ∧ Below w.heap.size w wr ∧ wr.heap[w.heap.size]? = some (.cells #[.string ByteArray.empty] 53 (0, 0)))) (fun _ i _ => 1 - (intOf i).toNat)
  case atStart => exact .inl ⟨rfl, rfl, rfl⟩
  case round =>
    rcases hrel with ⟨rfl, rfl, rfl⟩ | ⟨rfl, rfl, hb, hR⟩
    · have hes : (ByteArray.empty ++ bs t.sig) = bs t.sig := ba_ext (by simp [bs])
      have hcc : ¬ 9223372036854775807 < t.sig.length := by omega
      go_wp2_with fail
      refine hT.mono ?_
      rintro _ w1 ⟨rfl, hb1⟩
      go_wp2_with fail
      have hD : Depth (w1.alloc (.cells #[.int .i64 0, .int .i64 0, .int .i64 0] 110)) w1.heap.size 0 0 0 := heap_alloc_new w1 _
      refine (sig_calls (t.sig.length + 1) t hf.2.1 hf.2.2 (by omega) h255 w1.heap.size 0 0 0 (by omega) (by omega) (by omega) hok _ hD).mono ?_
      rintro _ w2 ⟨rfl, hb2⟩
      have hb3 := below_then hb1 hb1.size (below_then ((Below.refl _ w1).alloc (Nat.le_refl _) _) (by simp) hb2)
      have hR := (hb3.block w.heap.size (by simp)).trans (heap_alloc_new w _)
      go_wp2_with fail
      go_roundw
      case rel => exact .inr ⟨rfl, rfl, below_then hb0 hb0.size hb3, hR⟩
      case measure => simp [intOf]
    · have r0 : wr.cell? ⟨w.heap.size, 0, none⟩ = some (.string ByteArray.empty) := by rw [cell_of_row _ _ _ _ _ _ hR]; rfl
      have f0 := fun o => frozen_of_row wr w.heap.size o _ _ hR
      go_wp2_with fail
      have h3 := row_setC hR 0 (.string (bs t.sig))
      refine bodyPost_ret (results_cell_row rfl _ _ w.heap.size 53 #[.string (bs t.sig)] (0, 0) _ rfl h3 Tryz.underlying53 rfl (by kernel_rfl)) rfl ⟨rfl, ?_⟩
      exact hb.setCell (p := ⟨w.heap.size, 0, none⟩) (Nat.le_refl _) _
theorem below_set2' {B : Nat} {a w : World} (h : Below B a w) (x y : Value) : Below B a ((w.setCell ⟨B, 0, none⟩ x).setCell ⟨B, 1, none⟩ y) := by
  have h0 : B ≤ (Addr.mk B 0 none).block := Nat.le_refl B
  have h1 : B ≤ (Addr.mk B 1 none).block := Nat.le_refl B
  exact (h.setCell h0 x).setCell h1 y
set_option maxRecDepth 100000 in
set_option maxHeartbeats 1600000 in
theorem valueOf_calls {v : V} {t : Ty} (h : HT v t) (h255 : t.sig.length ≤ 255) (S : Nat → Prop) (u : TypeId) (y : Value) (w : World) (hA : AR S w v (.iface u y)) :
    Calls Tryz.prog 49 #[.iface u y] w fun e w' => e = .returned (.agg #[.iface u y, .string (bs (zty t))]) ∧ Below w.heap.size w w' := by
  have hb0 : Below w.heap.size w (w.alloc (.cells #[.nilIface, .string ByteArray.empty] 83)) := (Below.refl _ _).alloc (Nat.le_refl _) _
  have hT := typeOf_calls h h255 S _ _ (hA.below hb0)
  go_enter Tryz.func49, Tryz.ntmps49
  go_wp2_with fail
  refine hT.mono ?_
  rintro _ w1 ⟨rfl, hb⟩
  have hR := (hb.block w.heap.size (by simp)).trans (heap_alloc_new w _)
  have r0 : w1.cell? ⟨w.heap.size, 0, none⟩ = some .nilIface := by rw [cell_of_row _ _ _ _ _ _ hR]; rfl
  have r1 : w1.cell? ⟨w.heap.size, 1, none⟩ = some (.string ByteArray.empty) := by rw [cell_of_row _ _ _ _ _ _ hR]; rfl
  have f0 := fun o => frozen_of_row w1 w.heap.size o _ _ hR
  go_wp2_with fail
  have h3 := row_setC (row_setC hR 0 (.iface u y)) 1 (.string (bs (zty t)))
  refine bodyPost_ret (results_cell_row rfl _ _ w.heap.size 83 #[.iface u y, .string (bs (zty t))] (0, 0) _ rfl h3 Tryz.underlying83 rfl (by kernel_rfl)) rfl ⟨rfl, ?_⟩
  exact below_set2' (hb0.trans (hb.mono (by simp))) _ _
theorem iface_calls (u : TypeId) (y : Value) (l : List UInt8) (w : World) : Calls Tryz.prog 50 #[.agg #[.iface u y, .string (bs l)]] w fun e w' => e = .returned (.iface u y) ∧ Below w.heap.size w w' := by
  go_enter Tryz.func50, Tryz.ntmps50
  go_wp2_with fail
  go_ret
  exact ⟨rfl, (Below.refl _ _).alloc (Nat.le_refl _) _⟩
set_option maxRecDepth 100000 in
set_option maxHeartbeats 1600000 in
theorem mvws_calls (u : TypeId) (y : Value) (l : List UInt8) (w : World) : Calls Tryz.prog 44 #[.iface u y, .agg #[.string (bs l)]] w fun e w' => e = .returned (.agg #[.string (bs l), .iface u y]) ∧ Below w.heap.size w w' := by
  go_enter Tryz.func44, Tryz.ntmps44
  go_wp2_with fail
  have h3 : ((w.alloc (.cells #[.string (bs l)] 53)).alloc (.cells #[.string (bs l), .iface u y] 55)).heap[w.heap.size + 1]? = some (.cells #[.string (bs l), .iface u y] 55 (0, 0)) := by
    have := heap_alloc_new (w.alloc (.cells #[.string (bs l)] 53)) (.cells #[.string (bs l), .iface u y] 55)
    simpa using this
  refine bodyPost_ret (results_cell_row rfl _ _ (w.heap.size + 1) 55 #[.string (bs l), .iface u y] (0, 0) _ rfl h3 Tryz.underlying55 rfl (by kernel_rfl)) rfl ⟨rfl, ?_⟩
  exact ((Below.refl _ _).alloc (Nat.le_refl _) _).alloc (by simp) _
set_option maxRecDepth 100000 in
set_option maxHeartbeats 1600000 in
theorem makeVar_calls {v : V} {t : Ty} (h : HT v t) (hok : t.ok 32 32 32) (h255 : t.sig.length ≤ 255) (S : Nat → Prop) (u : TypeId) (y : Value) (w : World) (hA : AR S w v (.iface u y)) :
    Calls Tryz.prog 29 #[.iface u y] w fun e w' => e = .returned (.agg #[.string (bs t.sig), .iface u y]) ∧ Below w.heap.size w w' := by
  go_enter Tryz.func29, Tryz.ntmps29
  go_wp2_with fail
  have hb0 : Below w.heap.size w ((w.alloc (.cells #[.string ByteArray.empty, .nilIface] 55)).alloc (.cells #[.iface u y] 20)) := ((Below.refl _ _).alloc (Nat.le_refl _) _).alloc (by simp) _
  have hc : ((w.alloc (.cells #[.string ByteArray.empty, .nilIface] 55)).alloc (.cells #[.iface u y] 20)).cell? ⟨w.heap.size + 1, 0, none⟩ = some (.iface u y) := by
    simp
  refine (sigOfAny_calls h hok h255 S u y (w.heap.size + 1) _ (hA.below hb0) hc).mono ?_
  rintro _ w1 ⟨rfl, hb1⟩
  go_wp2_with fail
  refine (mvws_calls u y t.sig _).mono ?_
  rintro _ w2 ⟨rfl, hb2⟩
  have hb3 := below_then hb1 hb1.size hb2
  have h0 : ((w.alloc (.cells #[.string ByteArray.empty, .nilIface] 55)).alloc (.cells #[.iface u y] 20)).heap[w.heap.size]? = some (.cells #[.string ByteArray.empty, .nilIface] 55 (0, 0)) := (Below.heap_alloc _ _ _ (by simp)).trans (heap_alloc_new w _)
  have hR := (hb3.block w.heap.size (by simp; omega)).trans h0
  have r0 : w2.cell? ⟨w.heap.size, 0, none⟩ = some (.string ByteArray.empty) := by rw [cell_of_row _ _ _ _ _ _ hR]; rfl
  have r1 : w2.cell? ⟨w.heap.size, 1, none⟩ = some .nilIface := by rw [cell_of_row _ _ _ _ _ _ hR]; rfl
  have f0 := fun o => frozen_of_row w2 w.heap.size o _ _ hR
  go_wp2_with fail
  have h3 := row_setC (row_setC hR 0 (.string (bs t.sig))) 1 (.iface u y)
  refine bodyPost_ret (results_cell_row rfl _ _ w.heap.size 55 #[.string (bs t.sig), .iface u y] (0, 0) _ rfl h3 Tryz.underlying55 rfl (by kernel_rfl)) rfl ⟨rfl, ?_⟩
  exact below_set2' (below_then hb0 hb0.size hb3) _ _
end Go.Proofs.YtjbpphomlmlmaaaGreatDoor

/- The value that the door makes: numbers, texts, variants. -/
namespace Go.Proofs.YtjbpphomlmlmaaaGreatDoor
open Go.RowKit
set_option linter.unusedVariables false
set_option linter.unusedSimpArgs false
def DiR (v : V) (w : World) (e : Ending) (w' : World) : Prop := ∃ y, e = .returned y ∧ AR (fun b => w.heap.size ≤ b) w' v y ∧ Below w.heap.size w w'
set_option maxRecDepth 100000 in
set_option maxHeartbeats 6400000 in
theorem di_num (k n : Int) (s : ByteArray) (hk : k = 121 ∨ k = 98 ∨ k = 110 ∨ k = 113 ∨ k = 105 ∨ k = 117 ∨ k = 120 ∨ k = 116 ∨ k = 100 ∨ k = 104 ∨ k = 115 ∨ k = 111 ∨ k = 103) (z : Value) (w : World) (hz : ∃ A l c, z = .slice A l c) :
    Calls Tryz.prog 30 #[.agg #[.int .u8 k, .int .u64 n, .string s, z]] w fun e w' => e = .returned (numV k n s) ∧ Below w.heap.size w w' := by
  obtain ⟨A, l, c, rfl⟩ := hz
  rcases hk with rfl | rfl | rfl | rfl | rfl | rfl | rfl | rfl | rfl | rfl | rfl | rfl | rfl
  all_goals simp only [numV, if_pos, if_neg, reduceCtorEq, Int.reduceEq, ↓reduceIte]
  all_goals
    go_enter Tryz.func30, Tryz.ntmps30
    go_wp2_with fail
    go_ret
    exact ⟨rfl, (Below.refl _ _).alloc (Nat.le_refl _) _⟩
def DiOk (v : V) : Prop := ∀ (S : Nat → Prop) (x : Value) (w : World), Rep S w v x → Calls Tryz.prog 30 #[x] w (DiR v w)
set_option maxRecDepth 100000 in
set_option maxHeartbeats 6400000 in
theorem di_var (n : Int) (s : ByteArray) (c : V) (t : Ty) (hT : HT c t) (hok : t.ok 32 32 32) (h255 : t.sig.length ≤ 255) (ih : DiOk c) : DiOk (.mk 118 n s [c]) := by
  intro S x w hr
  simp only [Rep] at hr
  obtain ⟨A, cap, rfl, h1, h2, _, _, _, hkids⟩ := hr
  have hb0 : Below w.heap.size w (w.alloc (.cells #[.int .u8 118, .int .u64 n, .string s, .slice A [c].length cap] 44)) := (Below.refl _ _).alloc (Nat.le_refl _) _
  obtain ⟨b, o, A', cap', rfl, _, k0, k1, k2, k3, hv⟩ := (hkids.keep fun b hlt _ => hb0.block b hlt).kid 0 (by simp)
  simp only [List.getElem_cons_zero, Nat.zero_mul, Nat.add_zero] at k0 k1 k2 k3 hv
  have hcall := ih _ _ _ hv
  have hlen : ([c] : List V).length = 1 := rfl
  rw [hlen] at hcall k3 hv ⊢
  rw [hlen] at k0 k1 k2
  have hk := hT.kind
  go_enter Tryz.func30, Tryz.ntmps30
  go_wp2_with fail
  refine hcall.mono ?_
  rintro _ w1 ⟨y, rfl, hA, hb1⟩
  obtain ⟨u, yv, rfl⟩ := hA.iface hk
  have hmv := makeVar_calls hT hok h255 _ u yv w1 hA
  go_wp2_with fail
  refine hmv.mono ?_
  rintro _ w2 ⟨rfl, hb2⟩
  go_wp2_with fail
  go_ret
  have hb12 := below_then hb1 hb1.size hb2
  refine ⟨.iface 55 (.agg #[.string (bs t.sig), .iface u yv]), rfl, ?_, below_then hb0 hb0.size hb12⟩
  simp only [AR]
  rw [if_neg (by decide), if_pos trivial]
  refine ⟨.iface u yv, by simp only [List.headD_cons, hT.facts.1], ?_⟩
  refine ⟨_, [], rfl, (hA.below hb2).keep (fun b _ hb => ⟨rfl, ?_⟩) (Nat.le_refl _), rfl⟩
  have := hb0.size
  exact Nat.le_trans this hb
end Go.Proofs.YtjbpphomlmlmaaaGreatDoor
