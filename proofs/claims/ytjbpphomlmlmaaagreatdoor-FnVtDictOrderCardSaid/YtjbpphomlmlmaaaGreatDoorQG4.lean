/- How a value is written: dicts. -/
import Derived.Test.YtjbpphomlmlmaaaGreatDoorQG4a
import Derived.Test.YtjbpphomlmlmaaaGreatDoorQK7
namespace Go.Proofs.YtjbpphomlmlmaaaGreatDoor
open Go.RowKit
set_option linter.unusedVariables false
set_option linter.unusedSimpArgs false
theorem dict_open {n : Int} {kc : UInt8} {e : Ty} {kids : List V} {S : Nat → Prop} {u : TypeId} {y : Value} {w : World} (hA : AR S w (.mk 97 n (bs (123 :: kc :: (e.sig ++ [125]))) kids) (.iface u y)) :
    ∃ (ys : List Value) (b : Nat) (kb eb : ByteArray) (A : Option Addr) (cap : Nat) (A2 : Option Addr) (cap2 : Nat), ARl S w kids ys ∧ u = 113 ∧ y = .pointer (some ⟨b, 0, none⟩) ∧ kids.length ≤ cap ∧ kids.length ≤ cap2 ∧
      w.heap[b]? = some (.cells #[.string kb, .string eb, .slice A kids.length cap, .slice A2 kids.length cap2] 116 (0, 0)) ∧ Row S w A (ys.map fstV) ∧ Row S w A2 (ys.map sndV) := by
  simp only [AR] at hA
  rw [if_neg (by decide), if_neg (by decide), if_neg (by decide), if_pos trivial] at hA
  obtain ⟨ys, b, hl, hS, hor⟩ := hA
  rcases hor with ⟨e', A, cap, hs, hp, _⟩ | ⟨kc', e', A, cap, B, cap2, hs, _, hx, h1, h2, h3, h4, h5, h6, h7⟩
  · obtain ⟨c, r, hc, _, _, h123⟩ := Ty.sig_head hp
    rw [show (bs (123 :: kc :: (e.sig ++ [125]))).data.toList = 123 :: kc :: (e.sig ++ [125]) from rfl, hc] at hs
    exact absurd (List.cons.inj hs).1.symm h123
  · cases hx
    exact ⟨ys, b, _, _, A, cap, B, cap2, hl, rfl, rfl, h1, h3, h5, h6, h7⟩
theorem keyCells_at (kb : ByteArray) : ∀ (ks : List Value) (j : Nat) (y : Value), ks[j]? = some y → (keyCells kb ks)[j * 2]? = some y ∧ (keyCells kb ks)[j * 2 + 1]? = some (.string kb)
  | k :: ks, 0, y, h => by
    obtain rfl : k = y := by simpa using h
    simp [keyCells]
  | k :: ks, j + 1, y, h => by
    have ih := keyCells_at kb ks j y (by simpa using h)
    have e1 : keyCells kb (k :: ks) = k :: .string kb :: keyCells kb ks := by simp [keyCells]
    rw [e1, show (j + 1) * 2 = (j * 2) + 1 + 1 by omega, show (j * 2) + 1 + 1 + 1 = (j * 2 + 1) + 1 + 1 by omega]
    simpa using ih
theorem LM.two {w0 w : World} {q : Nat} {M : List (Nat × Obj)} {acc : List UInt8} (h : LM w0 q M acc w) {p : Nat} {x z : Value} {t : TypeId} (hm : (p, Obj.cells #[x, z] t (0, 0)) ∈ M) : w.cell? ⟨p, 0, none⟩ = some x ∧ w.cell? ⟨p, 1, none⟩ = some z := by
  constructor <;> (rw [cell_of_row _ _ _ _ _ _ (h.rows _ _ hm)]; rfl)
theorem ent_open {S : Nat → Prop} {w : World} {kids : List V} {ys : List Value} (hl : ARl S w kids ys) {j : Nat} {n' : Int} {s' : ByteArray} {a b : V} (hj : kids[j]? = some (.mk 123 n' s' [a, b])) (ha : a.k ≠ 123) (hb : b.k ≠ 123) :
    ∃ (ku : TypeId) (kyv : Value) (xu : TypeId) (xyv : Value), ys[j]? = some (.agg #[.iface ku kyv, .iface xu xyv]) ∧ AR S w a (.iface ku kyv) ∧ AR S w b (.iface xu xyv) := by
  obtain ⟨y1, hy1, hA1⟩ := hl.at_ j _ hj
  simp only [AR] at hA1
  rw [if_pos trivial] at hA1
  obtain ⟨ky, xy, rfl, hAl⟩ := hA1
  simp only [ARl] at hAl
  obtain ⟨y2, r2, e2, hA2, y3, r3, e3, hA3, _⟩ := hAl
  obtain ⟨rfl, rfl⟩ := List.cons.inj e2
  obtain ⟨rfl, _⟩ := List.cons.inj e3
  obtain ⟨ku, kyv, rfl⟩ := hA2.iface ha
  obtain ⟨xu, xyv, rfl⟩ := hA3.iface hb
  exact ⟨ku, kyv, xu, xyv, hy1, hA2, hA3⟩
theorem key_num {S : Nat → Prop} {w : World} {a : V} {x : Value} {kc : UInt8} (hkb : keyB kc.toNat = true) (hT : HT a (.basic kc)) (hA : AR S w a x) : numV a.k a.n a.s = x := by
  obtain ⟨n, s, rfl, _⟩ := hT.basic_cases
  have hk : (kc.toNat : Int) ≠ 123 ∧ (kc.toNat : Int) ≠ 118 ∧ (kc.toNat : Int) ≠ 40 ∧ (kc.toNat : Int) ≠ 97 := by
    rcases keyB_cases hkb with rfl | rfl | rfl | rfl | rfl | rfl | rfl | rfl | rfl <;> decide
  simp only [AR] at hA
  rw [if_neg hk.1, if_neg hk.2.1, if_neg hk.2.2.1, if_neg hk.2.2.2] at hA
  exact hA.symm
/-- Which key is the one looked for. -/
theorem keys_eq {S : Nat → Prop} {w : World} {kids : List V} {ys : List Value} {kc : UInt8} (hkb : keyB kc.toNat = true) (hl : ARl S w kids ys) (hfr : Fresh kids)
    (hent : ∀ v ∈ kids, ∃ n' s' a b, v = V.mk 123 n' s' [a, b] ∧ HT a (.basic kc) ∧ b.k ≠ 123) {j : Nat} {ku : TypeId} {kyv xy : Value} (hj : ys[j]? = some (.agg #[.iface ku kyv, xy])) :
    ∀ i (hi : i < (ys.map fstV).length), i ≤ j → ∃ (u : TypeId) (y : Value), (ys.map fstV)[i] = .iface u y ∧ ∀ w, (binOp .eql 20 (.iface u y) (.iface ku kyv)).run Tryz.prog w = .ok (.bool (decide (i = j))) w := by
  intro i hi hij
  have hlen := hl.length
  have hjy := (List.getElem?_eq_some_iff.1 hj).1
  have hj2 : j < kids.length := by omega
  have hi2 : i < kids.length := by rw [List.length_map] at hi; omega
  obtain ⟨n1, s1, a1, b1, e1, hA1, hb1⟩ := hent _ (List.getElem_mem hi2)
  obtain ⟨n2, s2, a2, b2, e2, hA2, hb2⟩ := hent _ (List.getElem_mem hj2)
  have g1 : kids[i]? = some (.mk 123 n1 s1 [a1, b1]) := by rw [List.getElem?_eq_getElem hi2, e1]
  have g2 : kids[j]? = some (.mk 123 n2 s2 [a2, b2]) := by rw [List.getElem?_eq_getElem hj2, e2]
  obtain ⟨u1, y1, x1, z1, f1, r1, _⟩ := ent_open hl g1 hA1.kind hb1
  obtain ⟨u2, y2, x2, z2, f2, r2, _⟩ := ent_open hl g2 hA2.kind hb2
  have h2 : ku = u2 ∧ kyv = y2 := by
    rw [hj] at f2
    simp at f2
    exact f2.1
  obtain ⟨rfl, rfl⟩ := h2
  have hg : (ys.map fstV)[i] = .iface u1 y1 := by
    have h3 : (ys.map fstV)[i]? = some (.iface u1 y1) := by rw [List.getElem?_map, f1]; rfl
    rw [List.getElem?_eq_getElem hi] at h3
    simpa using h3
  refine ⟨u1, y1, hg, ?_⟩
  have k1 := key_num hkb hA1 r1
  have k2 := key_num hkb hA2 r2
  by_cases he : i = j
  · subst he
    rw [g1] at g2
    have ha : a1 = a2 := by simp at g2; exact g2.2.2.1
    subst ha
    obtain ⟨t, y, e, hq⟩ := key_same hkb hA1
    rw [k1] at e k2
    cases e
    cases k2
    intro w
    rw [hq w]; simp
  · have hlt : i < j := by omega
    have hs := hfr i j _ _ hlt g1 g2 rfl a1 a2 rfl rfl
    obtain ⟨t, y, z, e1, e2, hq⟩ := keys_differ hkb hA1 hA2 hs
    rw [k1] at e1
    rw [k2] at e2
    cases e1
    cases e2
    intro w
    rw [hq w]; simp [he]
theorem ifaceB_calls (u : TypeId) (y : Value) (kb : ByteArray) (w : World) : Calls Tryz.prog 50 #[.agg #[.iface u y, .string kb]] w fun e w' => e = .returned (.iface u y) ∧ Below w.heap.size w w' :=
  iface_calls u y kb.data.toList w
theorem info9d : (Tryz.prog.info? 9).map (fun i => (i.zero, i.size, i.bytes)) = some (some (.string ByteArray.empty), 1, 16) := by kernel_rfl
theorem ent_text (F H : Nat → List UInt8) (n : Int) (s : ByteArray) (a b : V) : writ F H (.mk 123 n s [a, b]) = writ F H a ++ [58, 32] ++ writ F H b := by rw [writ_ent]; simp
set_option maxRecDepth 100000 in
set_option maxHeartbeats 12800000 in
theorem fmt_dict {F H : Nat → List UInt8} (n : Int) (kc : UInt8) (e : Ty) (kids : List V) (hT : HT (.mk 97 n (bs (123 :: kc :: (e.sig ++ [125]))) kids) (.dict kc e)) (hkb : keyB kc.toNat = true) (hkc : kc ∈ basicL) (hoke : e.ok 32 32 32) (h255 : (Ty.dict kc e).sig.length ≤ 255) (hlen : kids.length ≤ 1000) (hfr : Fresh kids)
    (hent : ∀ v ∈ kids, ∃ n' s' a b, v = V.mk 123 n' s' [a, b] ∧ HT a (.basic kc) ∧ HT b e ∧ FmtV F H a (.basic kc) ∧ FmtV F H b e ∧ (writ F H a).length ≤ 2000000 ∧ (writ F H b).length ≤ 2000000) : FmtV F H (.mk 97 n (bs (123 :: kc :: (e.sig ++ [125]))) kids) (.dict kc e) := by
  intro S u y w hw hA
  have hA0 := hA
  obtain ⟨ys, b, kb, eb, A, cap, A2, cap2, hl, rfl, rfl, hc1, hc2, hvar, hrow, hrow2⟩ := dict_open hA
  clear hA
  have hbw : b < w.heap.size := (Array.getElem?_eq_some_iff.1 hvar).1
  have hx2 : w.cell? ⟨b, 2, none⟩ = some (.slice A kids.length cap) := by rw [cell_of_row _ _ _ _ _ _ hvar]; rfl
  rw [show bs (Ty.sig (.dict kc e)) = bs (97 :: 123 :: kc :: (e.sig ++ [125])) from rfl]
  obtain ⟨st, hst⟩ : ∃ st, 123 :: kc :: (e.sig ++ [125]) = st := ⟨_, rfl⟩
  rw [hst]
  have hwa : ∀ o, Below w.heap.size w (w.alloc o) := fun o => (Below.refl w.heap.size w).alloc (Nat.le_refl _) o
  have hV := fun o => valueOf_calls hT h255 S _ _ _ (hA0.below (hwa o))
  rw [show zty (.dict kc e) = 123 :: kc :: zty e from rfl] at hV
  generalize kc :: zty e = zt at hV
  rw [hst] at hT hA0
  go_enter Tryz.func51, Tryz.ntmps51
  go_wp2_with fail
  refine (hV _).mono ?_
  rintro _ w1 ⟨rfl, hb1⟩
  have hB1 := (hwa _).trans (hb1.mono (hwa _).size)
  clear hV hb1
  have hKd : ∀ w, Calls Tryz.prog 80 #[.agg #[.iface 113 (.pointer (some ⟨b, 0, none⟩)), .string (bs (123 :: zt))]] w fun e w' => e = .returned (.int .i64 14) ∧ Below w.heap.size w w' := fun w => vKind_calls 113 _ 123 (by decide) zt w
  go_wp2_with fail
  refine (hKd _).mono ?_
  rintro _ w2 ⟨rfl, hb2⟩
  have hP : (w1.alloc (.cells #[.iface 113 (.pointer (some ⟨b, 0, none⟩)), .string (bs (123 :: zt))] 83)).heap[w1.heap.size]? = _ := heap_alloc_new w1 _
  have hB1' : Below w.heap.size w (w1.alloc (.cells #[.iface 113 (.pointer (some ⟨b, 0, none⟩)), .string (bs (123 :: zt))] 83)) := hB1.alloc hB1.size _
  have hB2 := hB1'.trans (hb2.mono hB1'.size)
  have hP2 := (hb2.block _ (Array.getElem?_eq_some_iff.1 hP).1).trans hP
  clear hb2 hP hB1 hB1' hKd
  generalize w1.heap.size = p at *
  clear w1
  have q0 : w2.cell? ⟨p, 0, none⟩ = some (.iface 113 (.pointer (some ⟨b, 0, none⟩))) := by rw [cell_of_row _ _ _ _ _ _ hP2]; rfl
  have q1 : w2.cell? ⟨p, 1, none⟩ = some (.string (bs (123 :: zt))) := by rw [cell_of_row _ _ _ _ _ _ hP2]; rfl
  have hL : ∀ w', Below w.heap.size w w' → Calls Tryz.prog 81 #[.agg #[.iface 113 (.pointer (some ⟨b, 0, none⟩)), .string (bs (123 :: zt))]] w' fun e w'' => e = .returned (.int .i64 kids.length) ∧ Below w'.heap.size w' w'' :=
    fun w' hb => lenDict_calls b A kids.length cap (123 :: zt) w' (Nat.lt_of_lt_of_le hbw hb.size) (cell_keep hb.block hx2)
  go_wp2_with fail
  refine (hL _ hB2).mono ?_
  rintro _ w3 ⟨rfl, hb3⟩
  have hB3 := hB2.trans (hb3.mono hB2.size)
  have hP3 := (hb3.block _ (Array.getElem?_eq_some_iff.1 hP2).1).trans hP2
  clear hb3 q0 q1 hP2 hB2
  by_cases hk0 : kids = []
  · subst hk0
    go_wp2_with fail
    go_ret2
    refine ⟨?_, hB3⟩
    have e1 : writ F H (.mk 97 n (bs st) []) = [123, 125] := by
      rw [writ_arr, if_pos (by rw [← hst]; rfl)]
      simp [writs, joinT]
    rw [e1]; rfl
  have hkz : ((kids.length : Int) == 0) = false := by
    have := List.length_pos_iff.2 hk0
    rw [beq_eq_false_iff_ne]; omega
  have HK0 := Lib.hid hk0
  have HST := Lib.hid hst
  clear hk0 hst
  have hLM := LM.new hB3 hP3
  obtain ⟨q0, q1⟩ := hLM.two (List.mem_singleton.2 rfl)
  clear hP3 hB3
  go_wp2_with fail
  generalize w3.heap.size = q at *
  refine (hL _ hLM.bel).mono ?_
  rintro _ w5 ⟨rfl, hb5⟩
  have hM5 := hLM.below hb5
  clear hLM hb5 q0 q1
  obtain ⟨i9, hi9, hz9, hs9, hy9⟩ := info_parts info9d
  have hmk : (Instr.makeSlice 32 (.int .i64 kids.length) (.int .i64 kids.length)).run Tryz.prog w5 = .ok (.slice (some ⟨w5.heap.size, 0, none⟩) kids.length kids.length) (w5.alloc (.cells (madeCells (Value.string ByteArray.empty).cells kids.length) 9)) := by
    have h := run_makeSlice (P := Tryz.prog) w5 32 9 i9 (.string ByteArray.empty) Tryz.underlying32 hi9 hz9 .i64 .i64 kids.length kids.length (by omega) (by omega) (by rw [hs9]; simp; omega) (by rw [hy9]; omega) (by omega)
    rw [hs9] at h
    simpa using h
  have hM6 : LM w q [(w5.heap.size, .cells (madeCells (Value.string ByteArray.empty).cells kids.length) 9 (0, 0)), (p, .cells #[.iface 113 (.pointer (some ⟨b, 0, none⟩)), .string (bs (123 :: zt))] 83 (0, 0))] [] (w5.alloc (.cells (madeCells (Value.string ByteArray.empty).cells kids.length) 9)) :=
    LM.more (hM5.below ((Below.refl _ _).alloc (Nat.le_refl _) _)) (heap_alloc_new w5 _) (by decide) (by decide)
  have hr0 : w.heap.size ≤ w5.heap.size := hM5.bel.size
  obtain ⟨q0, q1⟩ := hM6.two (List.mem_cons_of_mem _ (List.mem_singleton.2 rfl))
  have hcs6 : (madeCells (Value.string ByteArray.empty).cells kids.length).size = kids.length := by simp [madeCells, Value.cells]
  have hks : (ys.map fstV).length = kids.length := by rw [List.length_map, hl.length]
  have hkeys : ∀ w', Below w.heap.size w w' → Calls Tryz.prog 87 #[.agg #[.iface 113 (.pointer (some ⟨b, 0, none⟩)), .string (bs (123 :: zt))]] w' fun e' w'' => ∃ v, e' = .returned v ∧ w''.ownsRow w'.heap.size 83 2 v kids.length (keyCells kb (ys.map fstV)) ∧ Below w'.heap.size w' w'' := fun w' hb => by
    have h := mapKeys_calls b kb eb A cap (.slice A2 kids.length cap2) (ys.map fstV) (123 :: zt) w' (by rw [hks]; exact (hb.block b hbw).trans hvar) (by rw [hks]; exact hc1) (by rw [hks]; exact hlen) S (hrow.keep (fun k hk hS => ⟨hb.block k hk, hS⟩) hb.size) (by
      intro k hk
      obtain ⟨y0, hy0, rfl⟩ := List.mem_map.1 hk
      obtain ⟨j, hj, rfl⟩ := List.mem_iff_getElem.1 hy0
      have hj2 : j < kids.length := by rw [← hl.length]; exact hj
      obtain ⟨y1, hy1, hA1⟩ := hl.at_ j _ (List.getElem?_eq_getElem hj2)
      obtain ⟨n', s', a, b', hv, hHa, _⟩ := hent _ (List.getElem_mem hj2)
      rw [hv] at hA1
      simp only [AR] at hA1
      rw [if_pos trivial] at hA1
      obtain ⟨ky, xy, rfl, hAl⟩ := hA1
      have : ys[j] = .agg #[ky, xy] := by rw [List.getElem?_eq_getElem hj] at hy1; simpa using hy1
      rw [this]
      simp only [ARl] at hAl
      obtain ⟨y2, r2, e2, hA2, _⟩ := hAl
      obtain ⟨rfl, _⟩ := List.cons.inj e2
      exact hA2.iface hHa.kind)
    rw [hks] at h
    exact h
  generalize madeCells (Value.string ByteArray.empty).cells kids.length = cs0 at *
  go_wp2_with fail
  clear hmk hi9 hz9 hs9 hy9
  refine (hkeys _ hM6.bel).mono ?_
  rintro _ w7 ⟨v, rfl, hown, hb7⟩
  have hk0 := List.length_pos_iff.2 HK0.out
  obtain ⟨gk, capk, cur, rfl, hgk, hck1, hck2, hck3, htk⟩ : ∃ gk capk cur, v = .slice (some ⟨gk, 0, none⟩) kids.length capk ∧ w7.heap[gk]? = some (.cells cur 83 (0, 0)) ∧ kids.length ≤ capk ∧ capk ≤ maxLen ∧ cur.size = capk * 2 ∧ cur.toList.take (kids.length * 2) = keyCells kb (ys.map fstV) := by
    rcases hown.2 with ⟨_, h0⟩ | ⟨g, cap', cur, rfl, _, hg, h1, h2, h3, h4⟩
    · omega
    · exact ⟨g, cap', cur, rfl, hg, h1, h2, h3, h4⟩
  have hM7 : LM w q [(w5.heap.size, .cells cs0 9 (0, 0)), (gk, .cells cur 83 (0, 0)), (p, .cells #[.iface 113 (.pointer (some ⟨b, 0, none⟩)), .string (bs (123 :: zt))] 83 (0, 0))] [] w7 :=
    ((hM6.below hb7).more hgk (by decide) (by decide)).less (by
      intro x hx
      simp only [List.mem_cons, List.not_mem_nil, or_false] at hx ⊢
      rcases hx with rfl | rfl | rfl <;> simp)
  have hnr : ∀ k o, (k, o) ∈ ([(gk, .cells cur 83 (0, 0)), (p, .cells #[.iface 113 (.pointer (some ⟨b, 0, none⟩)), .string (bs (123 :: zt))] 83 (0, 0))] : List (Nat × Obj)) → k ≠ w5.heap.size := by
    intro k o hko hc
    subst hc
    have h1 := hM7.rows _ _ (List.mem_cons_self ..)
    have h2 := hM7.rows _ _ (List.mem_cons_of_mem _ hko)
    rw [h1] at h2
    simp only [List.mem_cons, List.not_mem_nil, or_false, Prod.mk.injEq] at hko
    rcases hko with ⟨_, rfl⟩ | ⟨_, rfl⟩ <;> simp at h2
  obtain ⟨Mt, hMt⟩ : ∃ Mt : List (Nat × Obj), Mt = [(gk, .cells cur 83 (0, 0)), (p, .cells #[.iface 113 (.pointer (some ⟨b, 0, none⟩)), .string (bs (123 :: zt))] 83 (0, 0))] := ⟨_, rfl⟩
  have hgm : (gk, .cells cur 83 (0, 0)) ∈ Mt := by rw [hMt]; exact List.mem_cons_self ..
  have hpm : (p, .cells #[.iface 113 (.pointer (some ⟨b, 0, none⟩)), .string (bs (123 :: zt))] 83 (0, 0)) ∈ Mt := by rw [hMt]; exact List.mem_cons_of_mem _ (List.mem_cons_self ..)
  rw [← hMt] at hM7 hnr
  clear hkeys hown hgk hM6 hM5 hb7 q0 q1 hMt
  generalize w5.heap.size = r at *
  clear w5
  go_wp2_with fail
  go_loopw [12, 157] (fun un i wr => ∃ (j : Nat) (cs : Array Value) (acc : List UInt8), j ≤ kids.length ∧ un = .bool (tellsAll (kids.take j)) ∧ i = .int .i64 j ∧ cs.size = kids.length ∧ acc.length ≤ 5000000 ∧
    (∀ i (hi : i < kids.length), i < j → cs[i]? = some (.string ⟨(writ F H kids[i]).toArray⟩)) ∧
    LM w q ((r, .cells cs 9 (0, 0)) :: Mt) acc wr) (fun _ i _ => kids.length - (intOf i).toNat)
  case atStart => exact ⟨0, cs0, [], Nat.zero_le _, rfl, rfl, hcs6, by simp, fun i _ h => by omega, hM7⟩
  case round =>
    clear hM7 hcs6
    obtain ⟨j, cs, acc, hj, rfl, rfl, hcs, hacc, hdone, hK⟩ := hrel
    have hj63 : (j : Int) + 1 ≤ 1001 := by omega
    by_cases hlt : j < kids.length
    · have hltd : decide ((j : Int) < (kids.length : Int)) = true := by simp; omega
      obtain ⟨y0, hy0, hAy⟩ := hl.at_ j _ (List.getElem?_eq_getElem hlt)
      obtain ⟨n', s', ka, vb, hv, hHa, hHb, ihA, ihB, hla, hlb⟩ := hent _ (List.getElem_mem hlt)
      have hjk : kids[j]? = some (.mk 123 n' s' [ka, vb]) := by rw [List.getElem?_eq_getElem hlt, hv]
      obtain ⟨ku, kyv, xu, xyv, hyj, hAk, hAx⟩ := ent_open hl hjk hHa.kind hHb.kind
      have hkc2 := keyCells_at kb (ys.map fstV) j (.iface ku kyv) (by rw [List.getElem?_map, hyj]; rfl)
      rw [← htk] at hkc2
      rw [List.getElem?_take_of_lt (by omega), List.getElem?_take_of_lt (by omega)] at hkc2
      have hrw := hK.rows gk _ (List.mem_cons_of_mem _ hgm)
      have k0 : wr.cell? ⟨gk, j * 2, none⟩ = some (.iface ku kyv) := by rw [cell_of_row _ _ _ _ _ _ hrw, ← Array.getElem?_toList]; exact hkc2.1
      have k1 : wr.cell? ⟨gk, j * 2 + 1, none⟩ = some (.string kb) := by rw [cell_of_row _ _ _ _ _ _ hrw, ← Array.getElem?_toList]; exact hkc2.2
      clear hkc2 hrw hy0 hAy y0
      have hK1 := (hK.below ((Below.refl _ _).alloc (Nat.le_refl _) (.cells #[.iface ku kyv, .string kb] 83))).more (heap_alloc_new wr (.cells #[.iface ku kyv, .string kb] 83)) (by decide) (by decide)
      have hMK : ∀ w', Below w.heap.size w w' → Calls Tryz.prog 29 #[.iface ku kyv] w' _ := fun w' hb => makeVar_calls hHa ⟨hkc, by omega, by omega, by omega⟩ (by simp [Ty.sig]) S ku kyv w' (hAk.below hb)
      have hFK : ∀ w', Below w.heap.size w w' → Calls Tryz.prog 51 #[.agg #[.string (bs (Ty.basic kc).sig), .iface ku kyv]] w' (FmR F H ka w') := fun w' hb => ihA S ku kyv w' (hw.below hb) (hAk.below hb)
      have hMX : ∀ w', Below w.heap.size w w' → Calls Tryz.prog 29 #[.iface xu xyv] w' _ := fun w' hb => makeVar_calls hHb hoke (by simp [Ty.sig] at h255; omega) S xu xyv w' (hAx.below hb)
      have hFX : ∀ w', Below w.heap.size w w' → Calls Tryz.prog 51 #[.agg #[.string (bs e.sig), .iface xu xyv]] w' (FmR F H vb w') := fun w' hb => ihB S xu xyv w' (hw.below hb) (hAx.below hb)
      have hMI : ∀ w', Below w.heap.size w w' → Calls Tryz.prog 89 #[.agg #[.iface 113 (.pointer (some ⟨b, 0, none⟩)), .string (bs (123 :: zt))], .agg #[.iface ku kyv, .string kb]] w' fun e' w'' => e' = .returned (.agg #[.iface xu xyv, .string eb]) ∧ Below w'.heap.size w' w'' := fun w' hb =>
        mapIndex_calls b kb eb A A2 cap cap2 (ys.map fstV) (ys.map sndV) (123 :: zt) kb.data.toList w' (by rw [hks]; exact (hb.block b hbw).trans hvar) (by rw [hks]; exact hc1) (by rw [hks]; exact hc2) (by rw [hks]; exact hlen) S (hrow.keep (fun k hk hS => ⟨hb.block k hk, hS⟩) hb.size) (hrow2.keep (fun k hk hS => ⟨hb.block k hk, hS⟩) hb.size)
          j (by rw [hks]; exact hlt) ku xu kyv xyv (by rw [List.getElem?_map, hyj]; rfl) (keys_eq hkb hl hfr (fun v hv => by obtain ⟨n1, s1, a1, b1, e1, h1, h2, _⟩ := hent v hv; exact ⟨n1, s1, a1, b1, e1, h1, h2.kind⟩) hyj)
      go_wp2_with fail
      generalize wr.heap.size = pk at *
      refine (ifaceB_calls ku kyv kb _).mono ?_
      rintro _ wa ⟨rfl, hba⟩
      have hKa := hK1.below hba
      clear hK hK1 hba k0 k1
      go_wp2_with fail
      refine (hMK _ hKa.bel).mono ?_
      rintro _ wb ⟨rfl, hbb⟩
      have hKb := hKa.below hbb
      clear hKa hbb
      go_wp2_with fail
      refine (hFK _ hKb.bel).mono ?_
      rintro _ wc ⟨rfl, hbc⟩
      have hKc := hKb.below hbc
      clear hKb hbc hMK hFK
      have hTn : tellsAll (kids.take (j + 1)) = (tellsAll (kids.take j) && (tells ka && tells vb)) := by rw [tellsAll_take kids j hlt, hv]; simp [tells, tellsAll]
      have hWj : writ F H kids[j] = writ F H ka ++ 58 :: 32 :: writ F H vb := by rw [hv, ent_text]; simp
      have HWj := Lib.hid hWj
      clear hWj hjk hyj hv
      obtain ⟨ta, hta⟩ : ∃ ta, tellsAll (kids.take j) = ta := ⟨_, rfl⟩
      obtain ⟨tk, htk2⟩ : ∃ tk, tells ka = tk := ⟨_, rfl⟩
      rw [hta, htk2]
      rw [hta, htk2] at hTn
      have HTn := Lib.hid hTn
      clear hta htk2 hTn
      cases ta <;> cases tk
      all_goals
        go_wp2_with fail
        refine hKc.reset.mono ?_
        rintro _ wd ⟨rfl, hKd⟩
        clear hKc
        go_wp2_with fail
        refine (hKd.str (writ F H ka) (by simp; omega)).mono ?_
        rintro _ we ⟨⟨m1, rfl⟩, hKe⟩
        clear hKd
        go_wp2_with fail
        refine (hKe.str [58, 32] (by simp; omega)).mono ?_
        rintro _ wf ⟨⟨m2, rfl⟩, hKf⟩
        clear hKe
        obtain ⟨q0, q1⟩ := hKf.two (List.mem_cons_of_mem _ (List.mem_cons_of_mem _ hpm))
        obtain ⟨k0, k1⟩ := hKf.two (List.mem_cons_self ..)
        go_wp2_with fail
        refine (hMI _ hKf.bel).mono ?_
        rintro _ wg ⟨rfl, hbg⟩
        have hKg := hKf.below hbg
        clear hKf hbg q0 q1 k0 k1
        go_wp2_with fail
        refine (ifaceB_calls xu xyv eb _).mono ?_
        rintro _ wh ⟨rfl, hbh⟩
        have hKh := hKg.below hbh
        clear hKg hbh
        go_wp2_with fail
        refine (hMX _ hKh.bel).mono ?_
        rintro _ wi ⟨rfl, hbi⟩
        have hKi := hKh.below hbi
        clear hKh hbi
        go_wp2_with fail
        refine (hFX _ hKi.bel).mono ?_
        rintro _ wj ⟨rfl, hbj⟩
        have hKj := hKi.below hbj
        clear hKi hbj
        go_wp2_with fail
        refine (hKj.str (writ F H vb) (by simp; omega)).mono ?_
        rintro _ wk ⟨⟨m3, rfl⟩, hKk⟩
        clear hKj
        go_wp2_with fail
        refine hKk.text.mono ?_
        rintro _ wl ⟨rfl, hKl⟩
        clear hKk
        have hKm := hKl.less (M' := (r, .cells cs 9 (0, 0)) :: Mt) (fun x hx => List.mem_cons_of_mem _ hx)
        clear hKl
        have hrl := hKm.rows r _ (List.mem_cons_self ..)
        have cr : wl.cell? ⟨r, j, none⟩ = cs[j]? := cell_of_row _ _ _ _ _ _ hrl
        rw [Array.getElem?_eq_getElem (by omega)] at cr
        have fr := frozen_of_row wl r j _ _ hrl
        have hKn := hKm.put hr0 hnr j (.string ⟨(writ F H ka ++ 58 :: 32 :: writ F H vb).toArray⟩)
        go_wp2_with fail
        go_roundw
        case rel => 
          refine ⟨j + 1, _, _, hlt, ?_, by go_num, ?_, ?_, ?_, hKn⟩
          · rw [HTn.out]; first | rfl | simp
          · simpa using hcs
          · simp; omega
          · intro i hi hij
            rw [Array.getElem?_setIfInBounds]
            by_cases he : j = i
            · subst he
              rw [if_pos rfl, if_pos (by omega), HWj.out]
            · rw [if_neg he]
              exact hdone i hi (by omega)
        case measure => simp [intOf]; omega
    · obtain rfl : kids.length = j := by omega
      have hltd : decide ((kids.length : Int) < (kids.length : Int)) = false := by simp
      have hss : cs.toList.take (writs F H kids).length = (writs F H kids).map encStr := by
        rw [writs_length, List.take_of_length_le (by rw [Array.length_toList]; omega)]
        apply List.ext_getElem?
        intro i
        by_cases hi : i < kids.length
        · rw [Array.getElem?_toList, hdone i hi hi, writs_eq, List.getElem?_map, List.getElem?_map, List.getElem?_eq_getElem hi]
          rfl
        · rw [List.getElem?_eq_none (by rw [Array.length_toList]; omega), List.getElem?_eq_none (by rw [List.length_map, writs_length]; omega)]
      have hsl : (writs F H kids).length = kids.length := writs_length F H kids
      have hsM : ∀ s ∈ writs F H kids, s.length ≤ 4000002 := by
        intro s hs
        rw [writs_eq] at hs
        obtain ⟨v, hv, rfl⟩ := List.mem_map.1 hs
        obtain ⟨n', s', ka, vb, rfl, _, _, _, _, hla, hlb⟩ := hent v hv
        rw [ent_text]
        simp; omega
      have hwr : writ F H (.mk 97 n (bs st) kids) = 123 :: (joinT ((writs F H kids).mergeSort fun x y => decide (x ≤ y)) ++ [125]) := by
        rw [writ_arr, if_pos (by rw [← HST.out]; rfl)]
      have htl : tells (.mk 97 n (bs st) kids) = tellsAll kids := by simp [tells, hk0]
      have HWR := Lib.hid hwr
      have HTL := Lib.hid htl
      clear hwr htl hdone
      generalize writs F H kids = ss at *
      go_wp2_with fail
      refine hK.reset.mono ?_
      rintro _ wa ⟨rfl, hKa⟩
      clear hK
      go_wp2_with fail
      refine (hKa.chr 123 (by simp)).mono ?_
      rintro _ wb ⟨rfl, hKb⟩
      clear hKa
      have hrb := hKb.rows r _ (List.mem_cons_self ..)
      have hsort := Tryz.sort_Strings r 0 kids.length ss wb (holds_of_block hrb hss) (hKb.lt (List.mem_cons_self ..)) (by omega)
      rw [hsl] at hsort
      go_wp2_with fail
      refine hsort.mono ?_
      rintro _ wc ⟨rfl, n1, os1, hwc⟩
      have hKc := hKb.sorted hr0 hnr hwc
      have hdl : (ss.mergeSort fun x y => decide (x ≤ y)).length = kids.length := by rw [List.length_mergeSort]; exact hsl
      have htp := take_putCells cs (ss.mergeSort fun x y => decide (x ≤ y)) (by omega)
      have hsM2 : ∀ s ∈ (ss.mergeSort fun x y => decide (x ≤ y)), s.length ≤ 4000002 := fun s hs => hsM s ((List.mergeSort_perm ss _).mem_iff.1 hs)
      clear hKb hrb hsort hwc hsM hss hsl
      generalize (ss.mergeSort fun x y => decide (x ≤ y)) = dd at *
      generalize Sort.putCells encStr 0 dd.toArray cs = cs2 at *
      have hcell : ∀ i (hi : i < kids.length), cs2[i]? = some (.string ⟨(dd[i]'(by omega)).toArray⟩) := fun i hi => by
        have h1 : (cs2.toList.take dd.length)[i]? = (dd.map encStr)[i]? := by rw [htp]
        rw [List.getElem?_take_of_lt (by omega), Array.getElem?_toList, List.getElem?_map, List.getElem?_eq_getElem (by omega)] at h1
        exact h1
      have hjl := joinT_take_len dd 4000002 hsM2
      clear htp
      have hKc : LM w q ((r, .cells cs2 9 (0, 0)) :: Mt) (123 :: joinT (dd.take 0)) wc := by simpa [joinT] using hKc
      go_wp2_with fail
      go_loopw [203] (fun i wr => ∃ j : Nat, j ≤ kids.length ∧ i = .int .i64 j ∧ LM w q ((r, .cells cs2 9 (0, 0)) :: Mt) (123 :: joinT (dd.take j)) wr) (fun i _ => kids.length - (intOf i).toNat)
      case atStart => exact ⟨0, Nat.zero_le _, rfl, hKc⟩
      case round =>
        clear hKc
        obtain ⟨j, hj, rfl, hK⟩ := hrel
        have hj63 : (j : Int) + 1 ≤ 1001 := by omega
        have hjl1 := hjl j
        have hjl2 : j * (4000002 + 2) ≤ 1000 * (4000002 + 2) := Nat.mul_le_mul_right _ (by omega)
        by_cases hlt : j < kids.length
        · have hltd : decide ((j : Int) < (kids.length : Int)) = true := by simp; omega
          have hrw := hK.rows r _ (List.mem_cons_self ..)
          have k0 : wr.cell? ⟨r, j, none⟩ = some (.string ⟨(dd[j]'(by omega)).toArray⟩) := by rw [cell_of_row _ _ _ _ _ _ hrw]; exact hcell j hlt
          have hdj := hsM2 _ (List.getElem_mem (show j < dd.length by omega))
          have hsn : joinT (dd.take (j + 1)) = joinT (dd.take j) ++ ((if j = 0 then [] else [44, 32]) ++ dd[j]'(by omega)) := by
            rw [List.take_succ_eq_append_getElem (show j < dd.length by omega), joinT_snoc, List.length_take, Nat.min_eq_left (by omega)]
          have HSN := Lib.hid hsn
          clear hsn hrw
          generalize dd[j]'(by omega) = sj at *
          by_cases h0 : j = 0
          · subst h0
            have hz : (joinT (dd.take 0)).length = 0 := by simp [joinT]
            clear hjl1 hjl2
            go_wp2_with fail
            refine (hK.str sj (by rw [List.length_cons, hz]; omega)).mono ?_
            rintro _ wd ⟨⟨m1, rfl⟩, hKd⟩
            go_wp2_with fail
            go_roundw
            case rel =>
              refine ⟨1, by omega, rfl, ?_⟩
              have e1 : joinT (dd.take 1) = sj := by rw [HSN.out]; simp [joinT]
              rw [e1]
              simpa [joinT] using hKd
            case measure => simp [intOf]; omega
          · have hgt : decide ((j : Int) > 0) = true := by simp; omega
            have hgt2 : decide (0 < j) = true := by simp; omega
            have HSN := HSN.out
            rw [if_neg h0] at HSN
            have HSN := Lib.hid HSN
            go_wp2_with fail
            refine (hK.str [44, 32] (by simp only [List.length_cons, List.length_nil]; omega)).mono ?_
            rintro _ wd ⟨⟨m1, rfl⟩, hKd⟩
            clear hK
            go_wp2_with fail
            refine (hKd.str sj (by simp only [List.length_append, List.length_cons, List.length_nil]; omega)).mono ?_
            rintro _ we ⟨⟨m2, rfl⟩, hKe⟩
            go_wp2_with fail
            go_roundw
            case rel => exact ⟨j + 1, hlt, by go_num, by rw [HSN.out]; simpa using hKe⟩
            case measure => simp [intOf]; omega
        · obtain rfl : kids.length = j := by omega
          have hltd : decide ((kids.length : Int) < (kids.length : Int)) = false := by simp
          go_wp2_with fail
          refine (hK.chr 125 (by simp only [List.length_cons]; omega)).mono ?_
          rintro _ wd ⟨rfl, hKd⟩
          go_wp2_with fail
          refine hKd.text.mono ?_
          rintro _ we ⟨rfl, hKe⟩
          go_wp2_with fail
          go_ret2
          refine ⟨?_, hKe.bel⟩
          show Ending.returned (.tuple #[.string ⟨(123 :: joinT (dd.take kids.length) ++ [125]).toArray⟩, .bool (tellsAll kids)]) = _
          rw [List.take_of_length_le (by omega), HWR.out, HTL.out]
          rfl
end Go.Proofs.YtjbpphomlmlmaaaGreatDoor
