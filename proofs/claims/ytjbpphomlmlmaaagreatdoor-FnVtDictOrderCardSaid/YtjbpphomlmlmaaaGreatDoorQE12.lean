/- The value that the door makes: dicts; all. -/
import Derived.Test.YtjbpphomlmlmaaaGreatDoorQE11
namespace Go.Proofs.YtjbpphomlmlmaaaGreatDoor
open Go.RowKit
set_option linter.unusedVariables false
set_option linter.unusedSimpArgs false
/-- A dict under way. -/
structure Dic (H B : Nat) (kb eb : ByteArray) (w wr : World) (vs : List V) (vk vv : Value) (ps : List Value) : Prop where
  ownK : wr.ownsRow H 20 1 vk (ps.map fstV).length (ps.map fstV)
  ownV : wr.ownsRow H 20 1 vv (ps.map fstV).length (ps.map sndV)
  ne : ∀ b, vk.ownBlock = some b → vv.ownBlock ≠ some b
  var : wr.heap[B]? = some (.cells #[.string kb, .string eb, vk, vv] 116 (0, 0))
  ars : ARl (fun b => H ≤ b ∧ vk.ownBlock ≠ some b ∧ vv.ownBlock ≠ some b) wr vs ps
  bel : Below w.heap.size w wr
  sz : H ≤ wr.heap.size
theorem AR.basic {S : Nat → Prop} {w : World} {a : V} {k : UInt8} {x : Value} (h : HT a (.basic k)) (hA : AR S w a x) : x = numV a.k a.n a.s := by
  cases h with
  | num c n s hk _ _ _ _ =>
    simp only [AR] at hA
    rw [if_neg (by omega), if_neg (by omega), if_neg (by omega), if_neg (by omega)] at hA
    exact hA
  | txt c n s hk _ =>
    simp only [AR] at hA
    rw [if_neg (by omega), if_neg (by omega), if_neg (by omega), if_neg (by omega)] at hA
    exact hA
theorem AR.pair {S : Nat → Prop} {w : World} {n : Int} {s : ByteArray} {a b : V} {x : Value} (h : AR S w (.mk 123 n s [a, b]) x) : ∃ y z, x = .agg #[y, z] ∧ AR S w a y ∧ AR S w b z := by
  simp only [AR] at h
  rw [if_pos trivial] at h
  obtain ⟨y, z, rfl, h⟩ := h
  simp only [ARl] at h
  obtain ⟨y', r, he, h1, z', r', he', h2, _⟩ := h
  simp only [List.cons.injEq] at he
  obtain ⟨rfl, he⟩ := he
  rw [← he] at he'
  simp only [List.cons.injEq] at he'
  obtain ⟨rfl, _⟩ := he'
  exact ⟨y, z, rfl, h1, h2⟩
theorem Dic.next {H B : Nat} {kb eb : ByteArray} {w wr w1 w5 w6 : World} {vs : List V} {vk vv : Value} {ps : List Value} {c : V} {k x : Value} (h : Dic H B kb eb w wr vs vk vv ps) (hb1 : Below wr.heap.size wr w1) (hb5 : Below w1.heap.size w1 w5)
    (hA : AR (fun b => w1.heap.size ≤ b) w5 c (.agg #[k, x])) (hS : SetR H B kb eb vk vv (ps.map fstV) (ps.map sndV) k x w5 w6) (hBH : B < H) (hBw : w.heap.size ≤ B) : ∃ vk' vv', Dic H B kb eb w w6 (vs ++ [c]) vk' vv' (ps ++ [.agg #[k, x]]) := by
  obtain ⟨vk', vv', o1, o2, o3, o4, o5, o6⟩ := hS.out
  have s1 := hb1.size
  have s5 := hb5.size
  have s6 := hS.bel.size
  have hsz := h.sz
  have hKl : ∀ b, vk.ownBlock = some b → b < wr.heap.size := fun b hb => own_lt h.ownK hb
  have hVl : ∀ b, vv.ownBlock = some b → b < wr.heap.size := fun b hb => own_lt h.ownV hb
  have far : ∀ b, b < w5.heap.size → (vk.ownBlock ≠ some b → vk'.ownBlock ≠ some b) ∧ (vv.ownBlock ≠ some b → vv'.ownBlock ≠ some b) := fun b hb => by
    refine ⟨fun hn hc => ?_, fun hn hc => ?_⟩
    · rcases o5 with h1 | ⟨g, h1, h2⟩
      · rw [h1] at hc; exact hn hc
      · rw [h1] at hc; have := Option.some.inj hc; omega
    · rcases o6 with h1 | ⟨g, h1, h2⟩
      · rw [h1] at hc; exact hn hc
      · rw [h1] at hc; have := Option.some.inj hc; omega
  have hb15 := below_then hb1 s1 hb5
  refine ⟨vk', vv', ?_, ?_, o3, o4, ?_, ?_, by omega⟩
  · simpa [fstV] using o1
  · simpa [sndV] using o2
  · refine (h.ars.keep (fun b hb hs => ⟨?_, hs.1, (far b (by omega)).1 hs.2.1, (far b (by omega)).2 hs.2.2⟩) (by omega)).snoc (hA.keep (fun b hb hs => ⟨?_, by omega, (far b hb).1 (fun hc => by have := hKl b hc; omega), (far b hb).2 (fun hc => by have := hVl b hc; omega)⟩) s6)
    · rw [hS.keep b (by omega) (by omega) hs.2.1 hs.2.2]
      exact hb15.block b hb
    · exact hS.keep b hb (by omega) (fun hc => by have := hKl b hc; omega) (fun hc => by have := hVl b hc; omega)
  · exact (h.bel.trans (hb15.mono h.bel.size)).trans (hS.bel.mono hBw)
theorem Dic.fresh {H B : Nat} {kb eb : ByteArray} {w wr : World} {kids : List V} {vk vv : Value} {ps : List Value} {j : Nat} {kc : UInt8} (h : Dic H B kb eb w wr (kids.take j) vk vv ps) (hlt : j < kids.length) (hfr : Fresh kids) (hkc : keyB kc.toNat = true) (hT : ∀ v ∈ kids, ∃ n' s' a b, v = .mk 123 n' s' [a, b] ∧ HT a (.basic kc))
    {n' : Int} {s' : ByteArray} {ka vb : V} (hkj : kids[j] = .mk 123 n' s' [ka, vb]) (hTa : HT ka (.basic kc)) {ku : TypeId} {ky : Value} (hku : numV ka.k ka.n ka.s = .iface ku ky) :
    ∀ q ∈ ps.map fstV, ∃ (u : TypeId) (y : Value), q = .iface u y ∧ ∀ w, (binOp .eql 20 (.iface u y) (.iface ku ky)).run Tryz.prog w = .ok (.bool false) w := by
  intro q hq
  obtain ⟨p, hp, rfl⟩ := List.mem_map.1 hq
  obtain ⟨i, hi, rfl⟩ := List.mem_iff_getElem.1 hp
  have hl := h.ars.length
  rw [List.length_take] at hl
  have hij : i < j := by omega
  have hti : (kids.take j)[i]? = some kids[i] := by rw [List.getElem?_take, if_pos hij, List.getElem?_eq_getElem]
  obtain ⟨x, hx, hA⟩ := h.ars.at_ i _ hti
  rw [List.getElem?_eq_getElem hi] at hx
  obtain rfl := Option.some.inj hx
  obtain ⟨m', t', a, b, hki, hTo⟩ := hT _ (List.getElem_mem (by omega : i < kids.length))
  rw [hki] at hA
  obtain ⟨y, z, he, h1, h2⟩ := hA.pair
  rw [he]
  have hy := AR.basic hTo h1
  have hs := hfr i j kids[i] kids[j] hij (List.getElem?_eq_getElem _) (List.getElem?_eq_getElem _) (by rw [hkj]; rfl) a ka (by rw [hki]; rfl) (by rw [hkj]; rfl)
  obtain ⟨t, y1, z1, e1, e2, e3⟩ := keys_differ hkc hTo hTa hs
  rw [hku] at e2
  simp only [Value.iface.injEq] at e2
  obtain ⟨rfl, rfl⟩ := e2
  refine ⟨ku, y1, ?_, e3⟩
  show y = _
  rw [hy, e1]
set_option maxRecDepth 100000 in
set_option maxHeartbeats 6400000 in
theorem di_dict (n : Int) (kc : UInt8) (e : Ty) (hkb : kc ∈ basicL) (hkc : keyB kc.toNat = true) (hp : e.plain) (hok : (Ty.dict kc e).ok 32 32 32) (h255 : (Ty.dict kc e).sig.length ≤ 255) (kids : List V) (hlen : kids.length ≤ 1000) (hfr : Fresh kids)
    (hent : ∀ v ∈ kids, ∃ n' s' a b, v = .mk 123 n' s' [a, b] ∧ HT a (.basic kc) ∧ HT b e ∧ DiOk a ∧ DiOk b) : DiOk (.mk 97 n (bs (123 :: kc :: (e.sig ++ [125]))) kids) := by
  intro S x w hr
  simp only [Rep] at hr
  obtain ⟨A, cap, rfl, h1, h2, _, _, _, hkids⟩ := hr
  have hdt := fun w => dt_calls ((Ty.dict kc e).sig.length + 1) (Ty.dict kc e) ⟨hkb, hp⟩ (by omega) h255 hok w
  have hcat : ({ data := #[97] } : ByteArray) ++ bs (123 :: kc :: (e.sig ++ [125])) = bs (Ty.dict kc e).sig := ba_ext (by simp [bs, Ty.sig])
  simp only [Ty.sig, List.length_cons, List.length_append, List.length_nil] at h255
  have hcc : ¬ 9223372036854775807 < 1 + (e.sig.length + 1 + 1 + 1) := by omega
  go_enter Tryz.func30, Tryz.ntmps30
  go_wp2_with fail
  refine (hdt _).mono ?_
  rintro _ w1 ⟨rfl, hb1⟩
  have hz : zty (Ty.dict kc e) = 123 :: kc :: zty e := rfl
  have hbw : Below w.heap.size w w1 := ((Below.refl _ w).alloc (Nat.le_refl _) _).trans (hb1.mono (by simp))
  have hX1 := (hb1.block w.heap.size (by simp)).trans (heap_alloc_new w (.cells #[.int .u8 97, .int .u64 n, .string (bs (123 :: kc :: (e.sig ++ [125]))), .slice A kids.length cap] 44))
  go_wp2_with fail
  refine (makeMap_calls kc (zty e) _).mono ?_
  rintro _ wm ⟨B, rfl, hBm, hvar, hbm⟩
  have hX2 := (hbm.block w.heap.size (Array.getElem?_eq_some_iff.1 hX1).1).trans hX1
  have hXl := (Array.getElem?_eq_some_iff.1 hX2).1
  have hX3 := (Below.heap_alloc wm (.cells #[.iface 113 (.pointer (some ⟨B, 0, none⟩)), .string (bs (123 :: kc :: zty e))] 83) _ hXl).trans hX2
  have u3 := (kid_cells hX3).2.2.2
  have hBlt := (Array.getElem?_eq_some_iff.1 hvar).1
  have hBw : w.heap.size ≤ B := by have := hbw.size; omega
  have hD0 : Dic (wm.heap.size + 1) B (bs [kc]) (bs (zty e)) w (wm.alloc (.cells #[.iface 113 (.pointer (some ⟨B, 0, none⟩)), .string (bs (123 :: kc :: zty e))] 83)) [] (.slice none 0 0) (.slice none 0 0) [] := by
    refine ⟨World.ownsRow_nil _ _ _ _, World.ownsRow_nil _ _ _ _, by simp [Value.ownBlock], (Below.heap_alloc _ _ _ hBlt).trans hvar, rfl, (below_then hbw hbw.size hbm).alloc (by have := hbw.size; have := hbm.size; omega) _, by simp⟩
  have t60 := heap_alloc_new wm (.cells #[.iface 113 (.pointer (some ⟨B, 0, none⟩)), .string (bs (123 :: kc :: zty e))] 83)
  go_wp2_with fail
  go_loopw [137] (fun i wr => ∃ (j : Nat) (vk vv : Value) (ps : List Value), j ≤ kids.length ∧ i = .int .i64 j ∧ Dic (wm.heap.size + 1) B (bs [kc]) (bs (zty e)) w wr (kids.take j) vk vv ps ∧ wr.heap[wm.heap.size]? = some (.cells #[.iface 113 (.pointer (some ⟨B, 0, none⟩)), .string (bs (123 :: kc :: zty e))] 83 (0, 0))) (fun i _ => kids.length - (intOf i).toNat)
  case atStart => exact ⟨0, _, _, _, Nat.zero_le _, rfl, by simpa using hD0, t60⟩
  case round =>
    clear hD0 t60 hX1 hX2 hX3 u3
    obtain ⟨j, vk, vv, ps, hj, rfl, hD, ht6⟩ := hrel
    have hyl := hD.ars.length
    by_cases hlt : j < kids.length
    · have hltk : decide (j < kids.length) = true := by simp; omega
      rw [List.length_take, Nat.min_eq_left hj] at hyl
      obtain ⟨b, o, A', cap', rfl, _, k0, k1, k2, k3, hv⟩ := hkids.kid j hlt
      have hin := List.getElem_mem hlt
      obtain ⟨n', s', ka, vb, hkj, hTa, hTb, hia, hib⟩ := hent _ hin
      rw [hkj] at k0 k1 k2 k3 hv
      simp only [V.k, V.n, V.s, V.kids, List.length_cons, List.length_nil, Nat.zero_add, Nat.reduceAdd] at k0 k1 k2 k3 hv
      have hvk : Reps S w [ka, vb] A' 0 := hv.kids_of
      obtain ⟨b2, o2, Ak, ck, hA', _, a0, a1, a2, a3, hva⟩ := hvk.kid 0 (by simp)
      obtain ⟨b3, o3, Av, cv, hA2, _, c0, c1, c2, c3, hvb⟩ := hvk.kid 1 (by simp)
      rw [hA'] at hA2
      simp only [Option.some.injEq, Addr.mk.injEq, and_true] at hA2
      obtain ⟨rfl, rfl⟩ := hA2
      subst hA'
      simp only [List.getElem_cons_zero, List.getElem_cons_succ, Nat.zero_mul, Nat.one_mul, Nat.add_zero] at a0 a1 a2 a3 hva c0 c1 c2 c3 hvb
      have hb2l : b2 < w.heap.size := World.block_lt_of_cell? w _ a0
      have hBH : B < wm.heap.size + 1 := by omega
      have hHw : w.heap.size ≤ wm.heap.size := by have := hbw.size; have := hbm.size; omega
      have hwr := hD.sz
      obtain ⟨ku, ky, hku⟩ := numV_iface ka.k ka.n ka.s
      have hfresh := hD.fresh hlt hfr hkc (fun v hv => by obtain ⟨n1, s1, a1, b1, h1, h2, _⟩ := hent v hv; exact ⟨n1, s1, a1, b1, h1, h2⟩) hkj hTa hku
      have k0' := cell_keep hD.bel.block k0
      have k1' := cell_keep hD.bel.block k1
      have k2' := cell_keep hD.bel.block k2
      have k3' := cell_keep hD.bel.block k3
      have hb1 : Below wr.heap.size wr (wr.alloc (.cells #[.int .u8 123, .int .u64 n', .string s', .slice (some ⟨b2, o2, none⟩) 2 cap'] 44)).drew := ((Below.refl _ _).alloc (Nat.le_refl _) _).drew
      have q1 : (wr.alloc (.cells #[.int .u8 123, .int .u64 n', .string s', .slice (some ⟨b2, o2, none⟩) 2 cap'] 44)).drew.heap[wr.heap.size]? = some (.cells #[.int .u8 123, .int .u64 n', .string s', .slice (some ⟨b2, o2, none⟩) 2 cap'] 44 (0, 0)) := heap_alloc_new wr _
      have s1 : wr.heap.size + 1 = (wr.alloc (.cells #[.int .u8 123, .int .u64 n', .string s', .slice (some ⟨b2, o2, none⟩) 2 cap'] 44)).drew.heap.size := by
        have : (wr.alloc (.cells #[.int .u8 123, .int .u64 n', .string s', .slice (some ⟨b2, o2, none⟩) 2 cap'] 44)).heap.size = wr.heap.size + 1 := by simp
        exact this.symm
      have hbw1 := below_then hD.bel hD.bel.size hb1
      have hra := hva.keep (w' := (wr.alloc (.cells #[.int .u8 123, .int .u64 n', .string s', .slice (some ⟨b2, o2, none⟩) 2 cap'] 44)).drew) (fun b hlt _ => hbw1.block b hlt)
      have hrb := hvb.keep (w' := (wr.alloc (.cells #[.int .u8 123, .int .u64 n', .string s', .slice (some ⟨b2, o2, none⟩) 2 cap'] 44)).drew) (fun b hlt _ => hbw1.block b hlt)
      generalize hW1 : (wr.alloc (.cells #[.int .u8 123, .int .u64 n', .string s', .slice (some ⟨b2, o2, none⟩) 2 cap'] 44)).drew = W1 at hb1 q1 s1 hbw1 hra hrb
      have FX : ∀ X : World, X.heap[wm.heap.size]? = W1.heap[wm.heap.size]? → X.heap[wr.heap.size]? = W1.heap[wr.heap.size]? → X.heap[b2]? = W1.heap[b2]? → (X.cell? ⟨wm.heap.size, 0, none⟩ = some (.iface 113 (.pointer (some ⟨B, 0, none⟩))) ∧ X.cell? ⟨wm.heap.size, 1, none⟩ = some (.string (bs (123 :: kc :: zty e))) ∧ X.cell? ⟨wr.heap.size, 3, none⟩ = some (.slice (some ⟨b2, o2, none⟩) 2 cap') ∧ X.cell? ⟨b2, o2, none⟩ = some (.int .u8 ka.k) ∧ X.cell? ⟨b2, o2 + 1, none⟩ = some (.int .u64 ka.n) ∧ X.cell? ⟨b2, o2 + 2, none⟩ = some (.string ka.s) ∧ X.cell? ⟨b2, o2 + 3, none⟩ = some (.slice Ak ka.kids.length ck) ∧ X.cell? ⟨b2, o2 + 4, none⟩ = some (.int .u8 vb.k) ∧ X.cell? ⟨b2, o2 + 4 + 1, none⟩ = some (.int .u64 vb.n) ∧ X.cell? ⟨b2, o2 + 4 + 2, none⟩ = some (.string vb.s) ∧ X.cell? ⟨b2, o2 + 4 + 3, none⟩ = some (.slice Av vb.kids.length cv)) := fun X x1 x2 x3 => by
        have y1 := x1.trans ((hb1.block wm.heap.size (by omega)).trans ht6)
        have y2 := x2.trans q1
        have y3 := x3.trans (hbw1.block b2 hb2l)
        refine ⟨?_, ?_, (kid_cells y2).2.2.2, ?_, ?_, ?_, ?_, ?_, ?_, ?_, ?_⟩
        · rw [cell_of_row _ _ _ _ _ _ y1]; rfl
        · rw [cell_of_row _ _ _ _ _ _ y1]; rfl
        · exact (World.cell?_of_block (a := ⟨b2, _, none⟩) y3).trans a0
        · exact (World.cell?_of_block (a := ⟨b2, _, none⟩) y3).trans a1
        · exact (World.cell?_of_block (a := ⟨b2, _, none⟩) y3).trans a2
        · exact (World.cell?_of_block (a := ⟨b2, _, none⟩) y3).trans a3
        · exact (World.cell?_of_block (a := ⟨b2, _, none⟩) y3).trans c0
        · exact (World.cell?_of_block (a := ⟨b2, _, none⟩) y3).trans c1
        · exact (World.cell?_of_block (a := ⟨b2, _, none⟩) y3).trans c2
        · exact (World.cell?_of_block (a := ⟨b2, _, none⟩) y3).trans c3
      have FB : ∀ X : World, Below W1.heap.size W1 X → (X.cell? ⟨wm.heap.size, 0, none⟩ = some (.iface 113 (.pointer (some ⟨B, 0, none⟩))) ∧ X.cell? ⟨wm.heap.size, 1, none⟩ = some (.string (bs (123 :: kc :: zty e))) ∧ X.cell? ⟨wr.heap.size, 3, none⟩ = some (.slice (some ⟨b2, o2, none⟩) 2 cap') ∧ X.cell? ⟨b2, o2, none⟩ = some (.int .u8 ka.k) ∧ X.cell? ⟨b2, o2 + 1, none⟩ = some (.int .u64 ka.n) ∧ X.cell? ⟨b2, o2 + 2, none⟩ = some (.string ka.s) ∧ X.cell? ⟨b2, o2 + 3, none⟩ = some (.slice Ak ka.kids.length ck) ∧ X.cell? ⟨b2, o2 + 4, none⟩ = some (.int .u8 vb.k) ∧ X.cell? ⟨b2, o2 + 4 + 1, none⟩ = some (.int .u64 vb.n) ∧ X.cell? ⟨b2, o2 + 4 + 2, none⟩ = some (.string vb.s) ∧ X.cell? ⟨b2, o2 + 4 + 3, none⟩ = some (.slice Av vb.kids.length cv)) := fun X hX => FX X (hX.block _ (by omega)) (hX.block _ (by omega)) (hX.block _ (by have := hbw1.size; omega))
      have hia' := hia _ _ _ hra
      have hib' := fun (X : World) (hX : Below W1.heap.size W1 X) => hib _ _ _ (hrb.below hX)
      have hx5 : e.sig.length ≤ 255 := by omega
      have hkb := hTb.kind
      have hK2 := hD.ownK
      have hV2 := hD.ownV
      have hN2 := hD.ne
      have hvr2 := hD.var
      have hBr := (Array.getElem?_eq_some_iff.1 hvr2).1
      have HKJ := Lib.hid hkj
      have hpl : (ps.map fstV).length ≤ 1000 := by rw [List.length_map]; omega
      have HYL := Lib.hid hyl
      clear k0 k1 k2 k3 hv hvk hkj hva hvb hfr hent hia hib hin a0 a1 a2 a3 c0 c1 c2 c3 hkids hra hrb hyl
      go_wp2_with fail
      refine wp_region_held_drew (S := fun w' => w'.cell? ⟨wm.heap.size, 0, none⟩ = some (.iface 113 (.pointer (some ⟨B, 0, none⟩))) ∧ w'.cell? ⟨wm.heap.size, 1, none⟩ = some (.string (bs (123 :: kc :: zty e))) ∧ w'.cell? ⟨wr.heap.size, 3, none⟩ = some (.slice (some ⟨b2, o2, none⟩) 2 cap') ∧ w'.cell? ⟨b2, o2, none⟩ = some (.int .u8 ka.k) ∧ w'.cell? ⟨b2, o2 + 1, none⟩ = some (.int .u64 ka.n) ∧ w'.cell? ⟨b2, o2 + 2, none⟩ = some (.string ka.s) ∧ w'.cell? ⟨b2, o2 + 3, none⟩ = some (.slice Ak ka.kids.length ck) ∧ w'.cell? ⟨b2, o2 + 4, none⟩ = some (.int .u8 vb.k) ∧ w'.cell? ⟨b2, o2 + 4 + 1, none⟩ = some (.int .u64 vb.n) ∧ w'.cell? ⟨b2, o2 + 4 + 2, none⟩ = some (.string vb.s) ∧ w'.cell? ⟨b2, o2 + 4 + 3, none⟩ = some (.slice Av vb.kids.length cv)) (by kernel_rfl) ?_ (fun hHeld => ?_)
      · rw [hW1]; exact FB _ (Below.refl _ _)
      rw [hW1] at hHeld ⊢
      refine wpAnyH_take (i := 0) (oi := _) (v := ?_) rfl (by kernel_rfl) (by kernel_rfl) (by kernel_rfl) (fun _ _ _ h => h) (Or.inl ⟨by rfl, ?_⟩) (by assumption) ?_
      rotate_left
      · intro w hSw
        (try dsimp only at hSw)
        go_simp
        all_goals (with_reducible rfl)
      try simp only [Act.put, List.setIfInBounds_toArray, List.set_cons_zero, List.set_cons_succ]
      refine wpAnyH_take (i := 1) (oi := _) (v := ?_) rfl (by kernel_rfl) (by kernel_rfl) (by kernel_rfl) (fun _ _ _ h => h) (Or.inl ⟨by rfl, ?_⟩) (by assumption) ?_
      rotate_left
      · intro w hSw
        (try dsimp only at hSw)
        go_simp
        all_goals (with_reducible rfl)
      try simp only [Act.put, List.setIfInBounds_toArray, List.set_cons_zero, List.set_cons_succ]
      refine wpAnyH_take (i := 2) (oi := _) (v := ?_) rfl (by kernel_rfl) (by kernel_rfl) (by kernel_rfl) (fun _ _ _ h => h) (Or.inl ⟨by rfl, ?_⟩) (by assumption) ?_
      rotate_left
      · intro w hSw
        (try dsimp only at hSw)
        go_simp
        all_goals (with_reducible rfl)
      try simp only [Act.put, List.setIfInBounds_toArray, List.set_cons_zero, List.set_cons_succ]
      refine wpAnyH_take (i := 3) (oi := _) (v := ?_) rfl (by kernel_rfl) (by kernel_rfl) (by kernel_rfl) (fun _ _ _ h => h) (Or.inl ⟨by rfl, ?_⟩) (by assumption) ?_
      rotate_left
      · intro w hSw
        (try dsimp only at hSw)
        go_simp
        all_goals (with_reducible rfl)
      try simp only [Act.put, List.setIfInBounds_toArray, List.set_cons_zero, List.set_cons_succ]
      refine wpAnyH_take (i := 4) (oi := _) (v := ?_) rfl (by kernel_rfl) (by kernel_rfl) (by kernel_rfl) (fun _ _ _ h => h) (Or.inl ⟨by rfl, ?_⟩) (by assumption) ?_
      rotate_left
      · intro w hSw
        (try dsimp only at hSw)
        go_simp
        all_goals (with_reducible rfl)
      try simp only [Act.put, List.setIfInBounds_toArray, List.set_cons_zero, List.set_cons_succ]
      refine wpAnyH_take (i := 7) (oi := _) (v := ?_) rfl (by kernel_rfl) (by kernel_rfl) (by kernel_rfl) (fun _ _ _ h => h) (Or.inl ⟨by rfl, ?_⟩) (by assumption) ?_
      rotate_left
      · intro w hSw
        (try dsimp only at hSw)
        go_simp
        all_goals (with_reducible rfl)
      try simp only [Act.put, List.setIfInBounds_toArray, List.set_cons_zero, List.set_cons_succ]
      refine wpAnyH_take (i := 8) (oi := _) (v := ?_) rfl (by kernel_rfl) (by kernel_rfl) (by kernel_rfl) (fun _ _ _ h => h) (Or.inl ⟨by rfl, ?_⟩) (by assumption) ?_
      rotate_left
      · intro w hSw
        (try dsimp only at hSw)
        go_simp
        all_goals (with_reducible rfl)
      try simp only [Act.put, List.setIfInBounds_toArray, List.set_cons_zero, List.set_cons_succ]
      refine wpAnyH_take (i := 9) (oi := _) (v := ?_) rfl (by kernel_rfl) (by kernel_rfl) (by kernel_rfl) (fun _ _ _ h => h) (Or.inl ⟨by rfl, ?_⟩) (by assumption) ?_
      rotate_left
      · intro w hSw
        (try dsimp only at hSw)
        go_simp
        all_goals (with_reducible rfl)
      try simp only [Act.put, List.setIfInBounds_toArray, List.set_cons_zero, List.set_cons_succ]
      refine wpAnyH_take (i := 10) (oi := _) (v := ?_) rfl (by kernel_rfl) (by kernel_rfl) (by kernel_rfl) (fun _ _ _ h => h) (Or.inl ⟨by rfl, ?_⟩) (by assumption) ?_
      rotate_left
      · intro w hSw
        (try dsimp only at hSw)
        go_simp
        all_goals (with_reducible rfl)
      try simp only [Act.put, List.setIfInBounds_toArray, List.set_cons_zero, List.set_cons_succ]
      refine wpAnyH_ready (rs := [5]) (by kernel_rfl) (by simp) (AllReadyH.cons (o := _) rfl (fun K hK => ?_) AllReadyH.nil)
      go_simp
      refine hia'.mono ?_
      rintro _ w2 ⟨yk, rfl, hAk, hb2⟩
      obtain rfl := AR.basic hTa hAk
      rw [hku] at hAk
      rw [hku]
      refine hK.out _ _ (FB _ hb2) (fun hHeld => ?_)
      clear hK K
      try simp only [Act.put, List.setIfInBounds_toArray, List.set_cons_zero, List.set_cons_succ]
      refine wpAnyH_ready (rs := [6]) (by kernel_rfl) (by simp) (AllReadyH.cons (o := _) rfl (fun K hK => ?_) AllReadyH.nil)
      go_simp
      refine (valueOf_calls hTa (by simp [Ty.sig]) _ ku ky _ hAk).mono ?_
      rintro _ w3 ⟨rfl, hb3⟩
      have hb13 := below_then hb2 hb2.size hb3
      refine hK.out _ _ (FB _ hb13) (fun hHeld => ?_)
      clear hK K
      try simp only [Act.put, List.setIfInBounds_toArray, List.set_cons_zero, List.set_cons_succ]
      refine wpAnyH_ready (rs := [11]) (by kernel_rfl) (by simp) (AllReadyH.cons (o := _) rfl (fun K hK => ?_) AllReadyH.nil)
      go_simp
      refine (hib' _ hb13).mono ?_
      rintro _ w4 ⟨yx, rfl, hAx, hb4⟩
      obtain ⟨xu, xy, rfl⟩ := hAx.iface hkb
      have hb14 := below_then hb13 hb13.size hb4
      refine hK.out _ _ (FB _ hb14) (fun hHeld => ?_)
      clear hK K
      try simp only [Act.put, List.setIfInBounds_toArray, List.set_cons_zero, List.set_cons_succ]
      refine wpAnyH_ready (rs := [12]) (by kernel_rfl) (by simp) (AllReadyH.cons (o := _) rfl (fun K hK => ?_) AllReadyH.nil)
      go_simp
      refine (valueOf_calls hTb hx5 _ xu xy _ hAx).mono ?_
      rintro _ w5 ⟨rfl, hb5⟩
      have hb15 := below_then hb14 hb14.size hb5
      have hbr5 := below_then hb1 hb1.size hb15
      have hs5 := hbr5.size
      refine hK.out _ _ (FB _ hb15) (fun hHeld => ?_)
      clear hK K
      try simp only [Act.put, List.setIfInBounds_toArray, List.set_cons_zero, List.set_cons_succ]
      refine wpAnyH_ready (rs := [13]) (by kernel_rfl) (by simp) (AllReadyH.cons (o := _) rfl (fun K hK => ?_) AllReadyH.nil)
      go_simp
      refine (setMap_calls (wm.heap.size + 1) B (bs [kc]) (bs (zty e)) vk vv (ps.map fstV) (ps.map sndV) ku xu ky xy _ _ _ w5 (own_keep hK2 hbr5.block) (own_keep hV2 hbr5.block) hN2 ((hbr5.block B hBr).trans hvr2) hBH (by omega) hpl hfresh).mono ?_
      rintro _ w6 ⟨rfl, hSR⟩
      have hKs : ∀ b, b < wm.heap.size + 1 ∨ wr.heap.size ≤ b → vk.ownBlock ≠ some b ∧ vv.ownBlock ≠ some b := fun b hb => ⟨fun hc => by have h1 := own_base' hK2 hc; have h2 := own_lt hK2 hc; omega, fun hc => by have h1 := own_base' hV2 hc; have h2 := own_lt hV2 hc; omega⟩
      have x1 := hSR.keep wm.heap.size (by omega) (by omega) (hKs _ (by omega)).1 (hKs _ (by omega)).2
      have x2 := hSR.keep wr.heap.size (by have := hb15.size; omega) (by omega) (hKs _ (by omega)).1 (hKs _ (by omega)).2
      have x3 := hSR.keep b2 (by omega) (by omega) (hKs _ (by omega)).1 (hKs _ (by omega)).2
      refine hK.out _ _ (FX _ (x1.trans (hb15.block _ (by omega))) (x2.trans (hb15.block _ (by omega))) (x3.trans (hb15.block _ (by have := hbw1.size; omega)))) (fun hHeld => ?_)
      clear hK K
      try simp only [Act.put, List.setIfInBounds_toArray, List.set_cons_zero, List.set_cons_succ]
      refine wpAnyH_done (by kernel_rfl) ?_ _
      have hAe : AR (fun b => W1.heap.size ≤ b) w5 (.mk 123 n' s' [ka, vb]) (.agg #[.iface ku ky, .iface xu xy]) := by
        simp only [AR]
        rw [if_pos trivial]
        refine ⟨_, _, rfl, ?_⟩
        have e1 := hAk.keep (S' := fun b => W1.heap.size ≤ b) (w' := w5) (fun b hb hs => ⟨(hb5.block b (by have := hb3.size; have := hb4.size; omega)).trans ((hb4.block b (by have := hb3.size; omega)).trans (hb3.block b hb)), hs⟩) (by have := hb3.size; have := hb4.size; have := hb5.size; omega)
        have e2 := hAx.keep (S' := fun b => W1.heap.size ≤ b) (w' := w5) (fun b hb hs => ⟨hb5.block b hb, by have := hb13.size; omega⟩) hb5.size
        exact ⟨_, _, rfl, e1, _, _, rfl, e2, rfl⟩
      obtain ⟨vk', vv', hD'⟩ := hD.next hb1 hb15 hAe hSR hBH hBw
      have ht6' := x1.trans ((hbr5.block wm.heap.size (by omega)).trans ht6)
      go_wp2_with fail
      go_roundw
      case rel => exact ⟨j + 1, vk', vv', _, by omega, by go_num, by rw [List.take_succ_eq_append_getElem hlt, HKJ.out]; exact hD', ht6'⟩
      case measure => simp [intOf]; omega
    · obtain rfl : kids.length = j := by omega
      have hltk : decide (kids.length < kids.length) = false := by simp
      rw [List.take_length] at hD hyl
      have d0 : wr.cell? ⟨wm.heap.size, 0, none⟩ = some (.iface 113 (.pointer (some ⟨B, 0, none⟩))) := by rw [cell_of_row _ _ _ _ _ _ ht6]; rfl
      have d1 : wr.cell? ⟨wm.heap.size, 1, none⟩ = some (.string (bs (123 :: kc :: zty e))) := by rw [cell_of_row _ _ _ _ _ _ ht6]; rfl
      obtain ⟨A2, cap2, rfl, g1, g2, g3⟩ := own_row hD.ownK
      obtain ⟨A3, cap3, rfl, g4, g5, g6⟩ := own_row hD.ownV
      have hHYL := Lib.hid hyl
      clear hyl
      go_wp2_with (go_at_call 50; refine (iface_calls _ _ _ _).mono ?_; rintro _ wz ⟨rfl, hbz⟩)
      go_ret
      have hyl := hHYL.out
      rw [List.length_map, hyl] at g1 g4
      have hvar := hD.var
      rw [List.length_map, hyl] at hvar
      have hsz := hD.sz
      refine ⟨.iface 113 (.pointer (some ⟨B, 0, none⟩)), rfl, ?_, below_then hD.bel hD.bel.size hbz⟩
      refine AR.below ?_ hbz
      simp only [AR]
      rw [if_neg (by decide), if_neg (by decide), if_neg (by decide), if_pos trivial]
      have hHw : w.heap.size ≤ wm.heap.size + 1 := by have := hbw.size; have := hbm.size; omega
      exact ⟨ps, B, hD.ars.keep (fun b _ hb => ⟨rfl, by have := hb.1; omega⟩) (Nat.le_refl _), hBw, .inr ⟨kc, e, A2, cap2, A3, cap3, rfl, hp, rfl, g1, g2, g4, g5, hvar, g3.keep (fun b _ hb => ⟨rfl, by omega⟩) (Nat.le_refl _), g6.keep (fun b _ hb => ⟨rfl, by omega⟩) (Nat.le_refl _)⟩⟩
end Go.Proofs.YtjbpphomlmlmaaaGreatDoor
