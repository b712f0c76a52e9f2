/- The law FnVtStringParts: the walk over the parts. -/
import Derived.Test.YtjbpphomlmlmaaaGreatDoorQK8
namespace Go.Proofs.YtjbpphomlmlmaaaGreatDoor
open Go.RowKit
set_option linter.unusedVariables false
set_option linter.unusedSimpArgs false
def BareOk (F H : Nat → List UInt8) (v : V) : Prop := ∀ (S : Nat → Prop) (x : Value) (w : World), Base2 w → Rep S w v x → Calls Tryz.prog 14 #[x] w fun e w' => e = .returned (.tuple #[.string (bs (writ F H v)), .bool (tells v), .bool true]) ∧ Below w.heap.size w w'
def colonT : List (List UInt8) → List UInt8
  | [] => []
  | [s] => s
  | s :: r => s ++ (58 :: 32 :: colonT r)
theorem colonT_snoc : ∀ (a : List (List UInt8)) (x : List UInt8), colonT (a ++ [x]) = colonT a ++ ((if a.length = 0 then [] else [58, 32]) ++ x)
  | [], x => by simp [colonT]
  | [s], x => by simp [colonT]
  | s :: r :: a, x => by
    have := colonT_snoc (r :: a) x
    simp only [List.cons_append] at this ⊢
    simp only [colonT]
    rw [this]
    simp
theorem colonT_take_len (l : List (List UInt8)) (M : Nat) (h : ∀ s ∈ l, s.length ≤ M) : ∀ j, (colonT (l.take j)).length ≤ j * (M + 2)
  | 0 => by simp [colonT]
  | j + 1 => by
    have ih := colonT_take_len l M h j
    by_cases hj : j < l.length
    · rw [List.take_succ_eq_append_getElem hj, colonT_snoc]
      have := h _ (List.getElem_mem hj)
      simp only [List.length_append]
      split <;> simp only [List.length_nil, List.length_cons] <;> (rw [Nat.add_mul]; omega)
    · rw [List.take_of_length_le (by omega)] at ih ⊢
      rw [Nat.add_mul]
      omega
def onesOf (v : V) : List V := if v.k = 123 then v.kids else [v]
/-- Values that stand in a row at some place. -/
def OneAt (S : Nat → Prop) (w : World) (one : List V) (b o : Nat) : Prop := ∀ (j : Nat) (hj : j < one.length), ∃ A' cap', w.cell? ⟨b, o + j * 4, none⟩ = some (.int .u8 one[j].k) ∧ w.cell? ⟨b, o + j * 4 + 1, none⟩ = some (.int .u64 one[j].n) ∧ w.cell? ⟨b, o + j * 4 + 2, none⟩ = some (.string one[j].s) ∧ w.cell? ⟨b, o + j * 4 + 3, none⟩ = some (.slice A' one[j].kids.length cap') ∧
  Rep S w one[j] (.agg #[.int .u8 one[j].k, .int .u64 one[j].n, .string one[j].s, .slice A' one[j].kids.length cap'])
theorem OneAt.keep {S : Nat → Prop} {w w' : World} {one : List V} {b o : Nat} (h : OneAt S w one b o) (hk : Below w.heap.size w w') : OneAt S w' one b o := by
  intro j hj
  obtain ⟨A', cap', h0, h1, h2, h3, hv⟩ := h j hj
  exact ⟨A', cap', cell_keep hk.block h0, cell_keep hk.block h1, cell_keep hk.block h2, cell_keep hk.block h3, hv.keep fun b hb _ => hk.block b hb⟩
theorem oneAt_new {S : Nat → Prop} {w : World} {v : V} {b : Nat} {A' : Option Addr} {cap' : Nat} (hb : w.heap[b]? = some (.cells #[.int .u8 v.k, .int .u64 v.n, .string v.s, .slice A' v.kids.length cap'] 25 (0, 0))) (hv : Rep S w v (.agg #[.int .u8 v.k, .int .u64 v.n, .string v.s, .slice A' v.kids.length cap'])) : OneAt S w [v] b 0 := by
  intro j hj
  obtain rfl : j = 0 := by simpa using hj
  obtain ⟨p0, p1, p2, p3⟩ := four_cells hb
  exact ⟨A', cap', p0, p1, p2, p3, hv⟩
theorem oneAt_kids {S : Nat → Prop} {w : World} {kids : List V} {b o : Nat} (h : Reps S w kids (some ⟨b, o, none⟩) 0) : OneAt S w kids b o := by
  intro j hj
  obtain ⟨b', o', A', cap', hbo, _, k0, k1, k2, k3, hv⟩ := h.kid j hj
  obtain ⟨rfl, rfl⟩ : b = b' ∧ o = o' := by simpa using hbo
  exact ⟨A', cap', k0, k1, k2, k3, hv⟩
theorem rep_kids {S : Nat → Prop} {w : World} {v : V} {x0 x1 x2 : Value} {A' : Option Addr} {m cap' : Nat} (hv : Rep S w v (.agg #[x0, x1, x2, .slice A' m cap'])) : Reps S w v.kids A' 0 := by
  obtain ⟨k, n, s, l⟩ := v
  simp only [Rep] at hv
  obtain ⟨A, cap, he, _, _, _, _, _, hrk⟩ := hv
  simp only [Value.agg.injEq, Array.mk.injEq, List.cons.injEq, and_true, Value.slice.injEq] at he
  obtain ⟨rfl, rfl, rfl, rfl, rfl, rfl⟩ := he
  exact hrk
set_option maxRecDepth 100000 in
set_option maxHeartbeats 25600000 in
theorem parts_lst {F H : Nat → List UInt8} (n : Int) (c : UInt8) (r : List UInt8) (hc : c ≠ 123) (kids : List V) (hne : kids ≠ []) (hlen : kids.length ≤ 1000) (hkk : ∀ v ∈ kids, v.k ≠ 123) (hwl : ∀ v ∈ kids, (writ F H v).length ≤ 5000000) (hol : ∀ v ∈ kids, (onesOf v).length ≤ 2 ∧ 0 < (onesOf v).length) (hcol : ∀ v ∈ kids, colonT (writs F H (onesOf v)) = writ F H v) (hct : ∀ v ∈ kids, tellsAll (onesOf v) = tells v) (hon : ∀ v ∈ kids, ∀ c ∈ onesOf v, (writ F H c).length ≤ 2000000 ∧ BareOk F H c) (hself : BareOk F H (.mk 97 n (bs (c :: r)) kids)) (S : Nat → Prop) (x : Value) (w : World) (hw : Base2 w) (hr : Rep S w (.mk 97 n (bs (c :: r)) kids) x)
    (h7 : ∀ w', Below w.heap.size w w' → Calls Tryz.prog 7 #[x] w' (Tells True w')) (h8 : ∀ w', Below w.heap.size w w' → Calls Tryz.prog 8 #[x] w' (Tells True w')) :
    Calls Tryz.prog 6 #[x] w fun e w' => e = .returned (.bool true) ∧ Below w.heap.size w w' := by
  have hr0 := hr
  have hself := fun w' (hb : Below w.heap.size w w') => hself S x w' (hw.below hb) (hr0.keep fun b hlt _ => hb.block b hlt)
  simp only [Rep] at hr
  obtain ⟨A, cap, rfl, h1, h2, _, _, _, hkids⟩ := hr
  clear hr0
  have hb0 : Below w.heap.size w (w.alloc (.cells #[.int .u8 97, .int .u64 n, .string (bs (c :: r)), .slice A kids.length cap] 25)) := (Below.refl _ _).alloc (Nat.le_refl _) _
  have hH0 : (w.alloc (.cells #[.int .u8 97, .int .u64 n, .string (bs (c :: r)), .slice A kids.length cap] 25)).heap[w.heap.size]? = _ := heap_alloc_new w _
  have hS0 : w.heap.size < (w.alloc (.cells #[.int .u8 97, .int .u64 n, .string (bs (c :: r)), .slice A kids.length cap] 25)).heap.size := by simp
  obtain ⟨i0, hi0, hz0, hz1, hz2⟩ := info_parts info9d
  have hk0 := List.length_pos_iff.2 hne
  have hkg : decide ((kids.length : Int) > 0) = true := by simp; omega
  have hkg2 : decide (0 < kids.length) = true := by simp; omega
  have hkz : ((kids.length : Int) == 0) = false := by rw [beq_eq_false_iff_ne]; omega
  obtain ⟨b, o, rfl⟩ : ∃ b o, A = some ⟨b, o, none⟩ := by
    obtain ⟨b, o, _, _, rfl, _⟩ := hkids.kid 0 hk0
    exact ⟨b, o, rfl⟩
  have HNE := Lib.hid hne
  clear hne
  have hcc : ((c.toNat : Int) == 123) = false := by rw [beq_eq_false_iff_ne]; intro hx; exact hc (UInt8.toNat_inj.1 (by show c.toNat = 123; omega))
  go_enter Tryz.func6, Tryz.ntmps6
  go_wp2_with fail
  refine (h7 _ hb0).mono ?_
  rintro _ w1 ⟨b1, rfl, _, hb1⟩
  have hB1 := hb0.trans (hb1.mono hb0.size)
  have hH1 := (hb1.block _ hS0).trans hH0
  have hS1 := Nat.lt_of_lt_of_le hS0 hb1.size
  clear h7 hb1 hb0 hH0 hS0
  obtain ⟨p0, p1, p2, p3⟩ := four_cells hH1
  cases b1
  · go_wp2_with fail
    go_ret
    exact ⟨rfl, hB1⟩
  go_wp2_with fail
  refine (h8 _ hB1).mono ?_
  rintro _ w2 ⟨b2, rfl, _, hb2⟩
  have hB2 := hB1.trans (hb2.mono hB1.size)
  have hH2 := (hb2.block _ hS1).trans hH1
  clear h8 hb2 p0 p1 p2 p3 hB1 hH1 hS1
  obtain ⟨p0, p1, p2, p3⟩ := four_cells hH2
  cases b2
  · go_wp2_with fail
    go_ret
    exact ⟨rfl, hB2⟩
  go_wp2_with fail
  go_loopw [3, 4, 46] (fun pv un i wo => ∃ j : Nat, j ≤ kids.length ∧ un = .bool (tellsAll (kids.take j)) ∧ i = .int .i64 j ∧ wo.ownsRow w.heap.size 9 1 pv j (((writs F H kids).take j).map encStr) ∧ Below w.heap.size w wo ∧ wo.heap[w.heap.size]? = some (.cells #[.int .u8 97, .int .u64 n, .string (bs (c :: r)), .slice (some ⟨b, o, none⟩) kids.length cap] 25 (0, 0)) ∧ pv.ownBlock ≠ some w.heap.size) (fun _ _ i _ => kids.length - (intOf i).toNat)
  case atStart => exact ⟨0, Nat.zero_le _, rfl, rfl, World.ownsRow_nil _ _ _ _, hB2, hH2, by simp [Value.ownBlock]⟩
  case round =>
    clear p0 p1 p2 p3 hB2 hH2
    rename World => wo
    obtain ⟨j, hj, hun, rfl, hown, hB, hH, hnb⟩ := hrel
    have hj63 : (j : Int) + 1 ≤ 1001 := by omega
    by_cases hlt : j < kids.length
    · have hltd : decide ((j : Int) < (kids.length : Int)) = true := by simp; omega
      obtain ⟨b', o', A', cap', hbo, _, k0, k1, k2, k3, hv⟩ := (hkids.keep fun b hlt _ => hB.block b hlt).kid j hlt
      obtain ⟨rfl, rfl⟩ : b = b' ∧ o = o' := by simpa using hbo
      clear hbo hself
      have hTn := tellsAll_take kids j hlt
      have HWN := Lib.hid (writs_at F H kids j hlt)
      have hmem := List.getElem_mem hlt
      have hkj := hkk _ hmem
      have hcj := hcol _ hmem
      have htj := hct _ hmem
      have hoj := hon _ hmem
      have hoj2 := hol _ hmem
      clear hkk hcol hct hon hmem hol
      generalize kids[j] = vj at *
      obtain ⟨ta, hta⟩ : ∃ ta, tellsAll (kids.take j) = ta := ⟨_, rfl⟩
      rw [hta] at hTn hun
      subst hun
      have HTN := Lib.hid hTn
      clear hta hTn
      have ho1 : onesOf vj = [vj] := if_neg hkj
      rw [ho1] at hcj htj hoj
      obtain ⟨one, hone⟩ : ∃ one, one = [vj] := ⟨_, rfl⟩
      rw [← hone] at hcj htj hoj
      have hol1 : one.length = 1 := by rw [hone]; rfl
      have hBk : ∀ (wo : World) (c c' : Obj), Below wo.heap.size wo ((wo.alloc c).alloc c') := fun wo c c' => ((Below.refl _ wo).alloc (Nat.le_refl _) c).alloc (by simp) c'
      have hOne : OneAt S ((wo.alloc (.cells #[.int .u8 vj.k, .int .u64 vj.n, .string vj.s, .slice A' vj.kids.length cap'] 25)).alloc (.cells #[.int .u8 vj.k, .int .u64 vj.n, .string vj.s, .slice A' vj.kids.length cap'] 25)) one (wo.heap.size + 1) 0 := by
        rw [hone]
        refine oneAt_new (by have := heap_alloc_new (wo.alloc (.cells #[.int .u8 vj.k, .int .u64 vj.n, .string vj.s, .slice A' vj.kids.length cap'] 25)) (.cells #[.int .u8 vj.k, .int .u64 vj.n, .string vj.s, .slice A' vj.kids.length cap'] 25); simpa using this) (hv.keep fun b hb _ => (hBk wo _ _).block b hb)
      have hBb := hB.trans ((hBk wo (.cells #[.int .u8 vj.k, .int .u64 vj.n, .string vj.s, .slice A' vj.kids.length cap'] 25) (.cells #[.int .u8 vj.k, .int .u64 vj.n, .string vj.s, .slice A' vj.kids.length cap'] 25)).mono hB.size)
      have hWb := hBk wo (.cells #[.int .u8 vj.k, .int .u64 vj.n, .string vj.s, .slice A' vj.kids.length cap'] 25) (.cells #[.int .u8 vj.k, .int .u64 vj.n, .string vj.s, .slice A' vj.kids.length cap'] 25)
      have hkj2 : (vj.k == 123) = false := by rw [beq_eq_false_iff_ne]; exact hkj
      clear hBk
      go_wp2_with fail
      generalize ((wo.alloc (.cells #[.int .u8 vj.k, .int .u64 vj.n, .string vj.s, .slice A' vj.kids.length cap'] 25)).alloc (.cells #[.int .u8 vj.k, .int .u64 vj.n, .string vj.s, .slice A' vj.kids.length cap'] 25)) = wb at *
      go_loopw [8, 4, 59] (fun part un i wq => ∃ jj : Nat, jj ≤ one.length ∧ un = .bool (ta && tellsAll (one.take jj)) ∧ i = .int .i64 jj ∧ part = .string (bs (colonT ((writs F H one).take jj))) ∧ Below wb.heap.size wb wq) (fun _ _ i _ => one.length - (intOf i).toNat)
      case atStart => exact ⟨0, Nat.zero_le _, by simp [tellsAll], rfl, rfl, Below.refl _ _⟩
      case round =>
        rename World => wq
        obtain ⟨jj, hjj, hun, rfl, hpa, hbq⟩ := hrel
        have hjj63 : (jj : Int) + 1 ≤ 3 := by omega
        by_cases hltj : jj < one.length
        · have hltjd : decide ((jj : Int) < 1) = true := by simp; omega
          obtain ⟨A2, cap2, k0, k1, k2, k3, hv⟩ := (hOne.keep hbq) jj hltj
          have hBq : Below w.heap.size w wq := hBb.trans (hbq.mono hBb.size)
          simp only [Nat.zero_add] at k0 k1 k2 k3
          have hltj2 : jj < 1 := by omega
          have hBa : Below w.heap.size w (wq.alloc (.cells #[.int .u8 one[jj].k, .int .u64 one[jj].n, .string one[jj].s, .slice A2 one[jj].kids.length cap2] 25)) := hBq.alloc hBq.size _
          have hBr : Below wq.heap.size wq (wq.alloc (.cells #[.int .u8 one[jj].k, .int .u64 one[jj].n, .string one[jj].s, .slice A2 one[jj].kids.length cap2] 25)) := (Below.refl _ wq).alloc (Nat.le_refl _) _
          have hcall := (hoj _ (List.getElem_mem hltj)).2 S _ _ (hw.below hBa) (hv.keep fun b hb _ => hBr.block b hb)
          have hl1 := (hoj _ (List.getElem_mem hltj)).1
          have hTo := tellsAll_take one jj hltj
          have hCo : colonT ((writs F H one).take (jj + 1)) = colonT ((writs F H one).take jj) ++ ((if jj = 0 then [] else [58, 32]) ++ writ F H one[jj]) := by
            rw [writs_at F H one jj hltj, colonT_snoc, List.length_take, writs_length, Nat.min_eq_left (by omega)]
          have hcl := colonT_take_len (writs F H one) 2000000 (by
            intro s hs
            rw [writs_eq] at hs
            obtain ⟨v, hv, rfl⟩ := List.mem_map.1 hs
            exact (hoj v hv).1) jj
          have hcl2 : (colonT ((writs F H one).take jj)).length ≤ 5000000 := by
            have : jj * (2000000 + 2) ≤ 2 * (2000000 + 2) := Nat.mul_le_mul_right _ (by omega)
            omega
          clear hcl
          obtain ⟨tb, htb⟩ : ∃ tb, (ta && tellsAll (one.take jj)) = tb := ⟨_, rfl⟩
          have HTO := Lib.hid (show (ta && tellsAll (one.take (jj + 1))) = (tb && tells one[jj]) by rw [hTo, ← Bool.and_assoc, htb])
          have HCO := Lib.hid hCo
          rw [htb] at hun
          subst hun hpa
          clear htb hTo hCo
          generalize one[jj] = vk at *
          generalize colonT ((writs F H one).take jj) = pt at *
          go_wp2_with fail
          refine hcall.mono ?_
          rintro _ w1 ⟨rfl, hb1⟩
          have hBn := hbq.trans ((hBr.trans (hb1.mono hBr.size)).mono hbq.size)
          clear hcall k0 k1 k2 k3 hv hb1 hBa
          by_cases h0 : jj = 0
          · subst h0
            cases tb
            all_goals
              go_wp2_with fail
              go_roundw
              case rel =>
                refine ⟨1, by omega, by rw [HTO.out]; first | rfl | simp, rfl, ?_, hBn⟩
                rw [HCO.out]
                (congr 1 <;> (refine ba_ext ?_) <;> simp [bs])
              case measure => simp [intOf]; omega
          · exfalso; omega
        · obtain rfl : one.length = jj := by omega
          have hltjd : decide ((one.length : Int) < 1) = false := by simp; try omega
          have hB1 : Below w.heap.size w wq := hBb.trans (hbq.mono hBb.size)
          have hWq : Below wo.heap.size wo wq := hWb.trans (hbq.mono hWb.size)
          have hown1 := own_keep' hown (fun k hk => hWq.block k (own_lt hown hk))
          have hH1 := (hWq.block _ (Array.getElem?_eq_some_iff.1 hH).1).trans hH
          have hpt : (writs F H one).take one.length = writs F H one := List.take_of_length_le (by rw [writs_length]; exact Nat.le_refl _)
          rw [hpt, hcj] at hpa
          rw [List.take_length, htj, ← HTN.out] at hun
          subst hun hpa
          clear hpt hcj htj hoj hWq hbq hOne hB hBb hWb hH hown
          go_wp2_with (at_builtin; refine Hid.out ?_)
          refine Lib.hid ?_
          refine wpList_append_own_at _ rfl _ _ 32 rfl w.heap.size 9 i0 (.string ByteArray.empty) 1 16 Tryz.underlying32 hi0 hz0 hz1 hz2 rfl (by decide) _ _ _ rfl (hown1.alloc _) ⟨_, 0, none⟩ 1 1 [.string (bs (writ F H vj))] rfl rfl (cell_one_new _ _ _) (by simp [Value.oneCell']) (by unfold maxLen; omega) (by omega) (by have := hB1.size; simp; omega) ?_
          intro v1 w2 ho hg _ ha
          have hB2 : Below w.heap.size w w2 := (hB1.alloc hB1.size _).grown hg (by have := hB1.size; simp; omega) (fun k hk => own_base' hown1 hk)
          have hH2 := (hg.block w.heap.size (by have := hB1.size; simp; omega) (fun hc => hnb hc.symm)).trans ((Below.heap_alloc wq (.cells #[.string (bs (writ F H vj))] 9) _ (Array.getElem?_eq_some_iff.1 hH1).1).trans hH1)
          go_wp2_with fail
          go_roundw
          case rel =>
            refine ⟨j + 1, hlt, rfl, by go_num, ?_, hB2, hH2, ?_⟩
            · rw [HWN.out, List.map_append]
              exact ho
            · rcases ha with ha | ha
              · rw [ha]; exact hnb
              · rw [ha]; intro hc; have := hB1.size; simp at hc; omega
          case measure => simp [intOf]; omega
    · obtain rfl : kids.length = j := by omega
      have hltd : decide ((kids.length : Int) < (kids.length : Int)) = false := by simp
      have hsl := writs_length F H kids
      rw [List.take_of_length_le (by omega)] at hown
      rw [List.take_length] at hun
      obtain ⟨p0, p1, p2, p3⟩ := four_cells hH
      have hwr := writ_arr F H n (bs (c :: r)) kids
      have htl : tells (.mk 97 n (bs (c :: r)) kids) = tellsAll kids := by simp [tells, hk0]
      have hsM : ∀ s ∈ writs F H kids, s.length ≤ 5000000 := by
        intro s hs
        rw [writs_eq] at hs
        obtain ⟨v, hv, rfl⟩ := List.mem_map.1 hs
        exact hwl v hv
      rw [← hsl] at hown
      obtain ⟨tt, htt⟩ : ∃ tt, tellsAll kids = tt := ⟨_, rfl⟩
      rw [htt] at hun htl
      subst hun
      have HWR := Lib.hid hwr
      have HTL := Lib.hid htl
      have HSL := Lib.hid hsl
      clear hwr htl hnb htt hkk hcol hct hon hol hwl
      obtain ⟨g, capg, cur, rfl, hgB, hgr, htk, hcs⟩ := strs_at hown (by omega)
      have HTK := Lib.hid htk
      clear htk
      have hgq := hgr
      have hHq := hH
      have hBq := hB
      have hwr2 : writ F H (.mk 97 n (bs (c :: r)) kids) = 91 :: (joinT (writs F H kids) ++ [93]) := by rw [HWR.out, if_neg (by simpa using hc)]
      have HWR := Lib.hid hwr2
      clear hwr2
      have htk2 := HTK.out
      have hsM2 := hsM
      rw [hsl]
      generalize writs F H kids = dd at *
      obtain ⟨cur2, hcu⟩ : ∃ c2, c2 = cur := ⟨_, rfl⟩
      rw [← hcu] at hgq htk2
      have hdl : dd.length = kids.length := hsl
      have hjl := joinT_take_len dd 5000000 hsM2
      have HDL := Lib.hid hdl
      have HTK2 := Lib.hid htk2
      clear hsl hcs htk2
      have htk2 := HTK2.out
      have HTKx := Lib.hid htk2
      clear htk2 hcu
      go_wp2_with fail
      go_loopw [14, 102] (fun out i wq => ∃ j : Nat, j ≤ kids.length ∧ i = .int .i64 j ∧ out = .string (bs (joinT (dd.take j))) ∧ Below w.heap.size w wq ∧ wq.heap[g]? = some (.cells cur2 9 (0, 0)) ∧ wq.heap[w.heap.size]? = some (.cells #[.int .u8 97, .int .u64 n, .string (bs (c :: r)), .slice (some ⟨b, o, none⟩) kids.length cap] 25 (0, 0))) (fun _ i _ => kids.length - (intOf i).toNat)
      case atStart => exact ⟨0, Nat.zero_le _, rfl, rfl, hBq, hgq, hHq⟩
      case round =>
        obtain ⟨j, hj, rfl, rfl, hB2, hg2, hH2⟩ := hrel
        have hj63 : (j : Int) + 1 ≤ 1001 := by omega
        have hjl1 := hjl j
        have hjl2 : j * (5000000 + 2) ≤ 1000 * (5000000 + 2) := Nat.mul_le_mul_right _ (by omega)
        have hjb : (joinT (dd.take j)).length ≤ 6000000000 := by omega
        clear hjl1 hjl2
        obtain ⟨p0, p1, p2, p3⟩ := four_cells hH2
        by_cases hlt : j < kids.length
        · have hltd : decide ((j : Int) < (kids.length : Int)) = true := by simp; omega
          have k0 := str_cell hg2 HTKx.out j (by rw [HDL.out]; exact hlt)
          have hdj := hsM2 _ (List.getElem_mem (show j < dd.length by rw [HDL.out]; exact hlt))
          have hsn : joinT (dd.take (j + 1)) = joinT (dd.take j) ++ ((if j = 0 then [] else [44, 32]) ++ dd[j]'(by rw [HDL.out]; exact hlt)) := by
            rw [List.take_succ_eq_append_getElem (show j < dd.length by rw [HDL.out]; exact hlt), joinT_snoc, List.length_take, Nat.min_eq_left (by have := HDL.out; omega)]
          have HSN := Lib.hid hsn
          clear hsn
          generalize dd[j]'(by rw [HDL.out]; exact hlt) = sj at *
          by_cases h0 : j = 0
          · subst h0
            have hz : (joinT ([] : List (List UInt8))).length = 0 := rfl
            go_wp2_with fail
            go_roundw
            case rel =>
              refine ⟨1, by omega, rfl, ?_, hB2, hg2, hH2⟩
              congr 1
              refine ba_ext ?_
              rw [HSN.out]
              simp [bs]
            case measure => simp [intOf]; omega
          · have hgt : decide ((j : Int) > 0) = true := by simp; omega
            have hgt2 : decide (0 < j) = true := by simp; omega
            have HSN := HSN.out
            rw [if_neg h0] at HSN
            have HSN := Lib.hid HSN
            go_wp2_with fail
            go_roundw
            case rel =>
              refine ⟨j + 1, hlt, by go_num, ?_, hB2, hg2, hH2⟩
              congr 1
              refine ba_ext ?_
              rw [HSN.out]
              simp [bs]
            case measure => simp [intOf]; omega
        · obtain rfl : kids.length = j := by omega
          have hltd : decide ((kids.length : Int) < (kids.length : Int)) = false := by simp
          have htk3 : dd.take kids.length = dd := List.take_of_length_le (by rw [HDL.out]; exact Nat.le_refl _)
          rw [htk3] at hjb ⊢
          have hx1 : ¬9223372036854775807 < 1 + (joinT dd).length := by omega
          have hx2 : ¬9223372036854775807 < 1 + (joinT dd).length + 1 := by omega
          clear htk3
          have hs2 := hself _ hB2
          rw [HWR.out, HTL.out] at hs2
          go_wp2_with fail
          refine hs2.mono ?_
          rintro _ w3 ⟨rfl, hb3⟩
          cases tt
          all_goals
            go_wp2_with fail
            refine wp_region_noPanic ?_
            refine wp_region_held_drew (S := fun _ => True) (by kernel_rfl) trivial (fun hHeld => ?_)
            refine wpAnyH_take (i := 0) (oi := _) (v := ?_) rfl (by kernel_rfl) (by kernel_rfl) (by kernel_rfl) (fun _ _ _ h => h) (Or.inl ⟨by rfl, ?_⟩) trivial ?_
            rotate_left
            · intro w hSw
              go_simp
              all_goals (with_reducible rfl)
            try simp only [Act.put, List.getElem_toArray, List.getElem_cons_succ, List.getElem_cons_zero, List.setIfInBounds_toArray, List.set_cons_zero, List.set_cons_succ]
            refine wpAnyH_take (i := 1) (oi := _) (v := ?_) rfl (by kernel_rfl) (by kernel_rfl) (by kernel_rfl) (fun _ _ _ h => h) (Or.inl ⟨by rfl, ?_⟩) trivial ?_
            rotate_left
            · intro w hSw
              go_simp
              all_goals (with_reducible rfl)
            try simp only [Act.put, List.getElem_toArray, List.getElem_cons_succ, List.getElem_cons_zero, List.setIfInBounds_toArray, List.set_cons_zero, List.set_cons_succ]
            refine wpAnyH_take (i := 2) (oi := _) (v := ?_) rfl (by kernel_rfl) (by kernel_rfl) (by kernel_rfl) (fun _ _ _ h => h) (Or.inl ⟨by rfl, ?_⟩) trivial ?_
            rotate_left
            · intro w hSw
              go_simp
              all_goals (with_reducible rfl)
            try simp only [Act.put, List.getElem_toArray, List.getElem_cons_succ, List.getElem_cons_zero, List.setIfInBounds_toArray, List.set_cons_zero, List.set_cons_succ]
            refine wpAnyH_take (i := 3) (oi := _) (v := ?_) rfl (by kernel_rfl) (by kernel_rfl) (by kernel_rfl) (fun _ _ _ h => h) (Or.inl ⟨by rfl, ?_⟩) trivial ?_
            rotate_left
            · intro w hSw
              go_simp
              all_goals (with_reducible rfl)
            try simp only [Act.put, List.getElem_toArray, List.getElem_cons_succ, List.getElem_cons_zero, List.setIfInBounds_toArray, List.set_cons_zero, List.set_cons_succ]
            refine wpAnyH_take (i := 4) (oi := _) (v := ?_) rfl (by kernel_rfl) (by kernel_rfl) (by kernel_rfl) (fun _ _ _ h => h) (Or.inl ⟨by rfl, ?_⟩) trivial ?_
            rotate_left
            · intro w hSw
              go_simp
              all_goals (with_reducible rfl)
            try simp only [Act.put, List.getElem_toArray, List.getElem_cons_succ, List.getElem_cons_zero, List.setIfInBounds_toArray, List.set_cons_zero, List.set_cons_succ]
            refine wpAnyH_take (i := 5) (oi := _) (v := ?_) rfl (by kernel_rfl) (by kernel_rfl) (by kernel_rfl) (fun _ _ _ h => h) (Or.inl ⟨by rfl, ?_⟩) trivial ?_
            rotate_left
            · intro w hSw
              go_simp
              all_goals (with_reducible rfl)
            try simp only [Act.put, List.getElem_toArray, List.getElem_cons_succ, List.getElem_cons_zero, List.setIfInBounds_toArray, List.set_cons_zero, List.set_cons_succ]
            refine wpAnyH_take (i := 6) (oi := _) (v := ?_) rfl (by kernel_rfl) (by kernel_rfl) (by kernel_rfl) (fun _ _ _ h => h) (Or.inl ⟨by rfl, ?_⟩) trivial ?_
            rotate_left
            · intro w hSw
              go_simp
              all_goals (with_reducible rfl)
            try simp only [Act.put, List.getElem_toArray, List.getElem_cons_succ, List.getElem_cons_zero, List.setIfInBounds_toArray, List.set_cons_zero, List.set_cons_succ]
            refine wpAnyH_take (i := 7) (oi := _) (v := ?_) rfl (by kernel_rfl) (by kernel_rfl) (by kernel_rfl) (fun _ _ _ h => h) (Or.inl ⟨by rfl, ?_⟩) trivial ?_
            rotate_left
            · intro w hSw
              go_simp
              all_goals (with_reducible rfl)
            try simp only [Act.put, List.getElem_toArray, List.getElem_cons_succ, List.getElem_cons_zero, List.setIfInBounds_toArray, List.set_cons_zero, List.set_cons_succ]
            refine wpAnyH_take (i := 8) (oi := _) (v := ?_) rfl (by kernel_rfl) (by kernel_rfl) (by kernel_rfl) (fun _ _ _ h => h) (Or.inl ⟨by rfl, ?_⟩) trivial ?_
            rotate_left
            · intro w hSw
              go_simp
              all_goals (with_reducible rfl)
            try simp only [Act.put, List.getElem_toArray, List.getElem_cons_succ, List.getElem_cons_zero, List.setIfInBounds_toArray, List.set_cons_zero, List.set_cons_succ]
            refine wpAnyH_take (i := 9) (oi := _) (v := ?_) rfl (by kernel_rfl) (by kernel_rfl) (by kernel_rfl) (fun _ _ _ h => h) (Or.inl ⟨by rfl, ?_⟩) trivial ?_
            rotate_left
            · intro w hSw
              go_simp
              all_goals (with_reducible rfl)
            try simp only [Act.put, List.getElem_toArray, List.getElem_cons_succ, List.getElem_cons_zero, List.setIfInBounds_toArray, List.set_cons_zero, List.set_cons_succ]
            refine wpAnyH_take (i := 10) (oi := _) (v := ?_) rfl (by kernel_rfl) (by kernel_rfl) (by kernel_rfl) (fun _ _ _ h => h) (Or.inl ⟨by rfl, ?_⟩) trivial ?_
            rotate_left
            · intro w hSw
              go_simp
              all_goals (with_reducible rfl)
            try simp only [Act.put, List.getElem_toArray, List.getElem_cons_succ, List.getElem_cons_zero, List.setIfInBounds_toArray, List.set_cons_zero, List.set_cons_succ]
            refine wpAnyH_take (i := 11) (oi := _) (v := ?_) rfl (by kernel_rfl) (by kernel_rfl) (by kernel_rfl) (fun _ _ _ h => h) (Or.inl ⟨by rfl, ?_⟩) trivial ?_
            rotate_left
            · intro w hSw
              go_simp
              all_goals (with_reducible rfl)
            try simp only [Act.put, List.getElem_toArray, List.getElem_cons_succ, List.getElem_cons_zero, List.setIfInBounds_toArray, List.set_cons_zero, List.set_cons_succ]
            refine wpAnyH_take (i := 12) (oi := _) (v := ?_) rfl (by kernel_rfl) (by kernel_rfl) (by kernel_rfl) (fun _ _ _ h => h) (Or.inl ⟨by rfl, ?_⟩) trivial ?_
            rotate_left
            · intro w hSw
              go_simp
              all_goals (with_reducible rfl)
            try simp only [Act.put, List.getElem_toArray, List.getElem_cons_succ, List.getElem_cons_zero, List.setIfInBounds_toArray, List.set_cons_zero, List.set_cons_succ]
            refine wpAnyH_take (i := 13) (oi := _) (v := ?_) rfl (by kernel_rfl) (by kernel_rfl) (by kernel_rfl) (fun _ _ _ h => h) (Or.inl ⟨by rfl, ?_⟩) trivial ?_
            rotate_left
            · intro w hSw
              go_simp
              all_goals (with_reducible rfl)
            try simp only [Act.put, List.getElem_toArray, List.getElem_cons_succ, List.getElem_cons_zero, List.setIfInBounds_toArray, List.set_cons_zero, List.set_cons_succ]
            refine wpAnyH_take (i := 14) (oi := _) (v := ?_) rfl (by kernel_rfl) (by kernel_rfl) (by kernel_rfl) (fun _ _ _ h => h) (Or.inl ⟨by rfl, ?_⟩) trivial ?_
            rotate_left
            · intro w hSw
              go_simp
              all_goals (with_reducible rfl)
            try simp only [Act.put, List.getElem_toArray, List.getElem_cons_succ, List.getElem_cons_zero, List.setIfInBounds_toArray, List.set_cons_zero, List.set_cons_succ]
            refine wpAnyH_take (i := 15) (oi := _) (v := ?_) rfl (by kernel_rfl) (by kernel_rfl) (by kernel_rfl) (fun _ _ _ h => h) (Or.inl ⟨by rfl, ?_⟩) trivial ?_
            rotate_left
            · intro w hSw
              go_simp
              all_goals (with_reducible rfl)
            try simp only [Act.put, List.getElem_toArray, List.getElem_cons_succ, List.getElem_cons_zero, List.setIfInBounds_toArray, List.set_cons_zero, List.set_cons_succ]
            refine wpAnyH_take (i := 16) (oi := _) (v := ?_) rfl (by kernel_rfl) (by kernel_rfl) (by kernel_rfl) (fun _ _ _ h => h) (Or.inl ⟨by rfl, ?_⟩) trivial ?_
            rotate_left
            · intro w hSw
              go_simp
              all_goals (with_reducible rfl)
            try simp only [Act.put, List.getElem_toArray, List.getElem_cons_succ, List.getElem_cons_zero, List.setIfInBounds_toArray, List.set_cons_zero, List.set_cons_succ]
            refine wpAnyH_take (i := 17) (oi := _) (v := ?_) rfl (by kernel_rfl) (by kernel_rfl) (by kernel_rfl) (fun _ _ _ h => h) (Or.inl ⟨by rfl, ?_⟩) trivial ?_
            rotate_left
            · intro w hSw
              go_simp
              all_goals (with_reducible rfl)
            try simp only [Act.put, List.getElem_toArray, List.getElem_cons_succ, List.getElem_cons_zero, List.setIfInBounds_toArray, List.set_cons_zero, List.set_cons_succ]
            refine wpAnyH_done (by kernel_rfl) ?_ _
            refine NoPanic.normal ?_
            go_wp2_with fail
            have heq : (91 :: (joinT dd ++ [93]) == (({ data := #[91, 93] } : ByteArray).extract 0 1 ++ bs (joinT dd) ++ ({ data := #[91, 93] } : ByteArray).extract 1 2).toList) = true := by
              have e1 : ({ data := #[91, 93] } : ByteArray).extract 0 1 = { data := #[91] } := by decide
              have e2 : ({ data := #[91, 93] } : ByteArray).extract 1 2 = { data := #[93] } := by decide
              rw [ByteArray.toList_eq, beq_iff_eq, e1, e2]
              simp [bs]
            go_ret
            refine ⟨?_, (hB2.trans (hb3.mono hB2.size)).drew⟩
            show Ending.returned (.bool (91 :: (joinT dd ++ [93]) == (({ data := #[91, 93] } : ByteArray).extract 0 1 ++ bs (joinT dd) ++ ({ data := #[91, 93] } : ByteArray).extract 1 2).toList)) = _
            rw [heq]
set_option maxRecDepth 100000 in
set_option maxHeartbeats 25600000 in
theorem parts_dct {F H : Nat → List UInt8} (n : Int) (r : List UInt8) (kids : List V) (hne : kids ≠ []) (hlen : kids.length ≤ 1000) (hkk : ∀ v ∈ kids, v.k = 123) (hwl : ∀ v ∈ kids, (writ F H v).length ≤ 5000000) (hol : ∀ v ∈ kids, (onesOf v).length ≤ 2 ∧ 0 < (onesOf v).length) (hcol : ∀ v ∈ kids, colonT (writs F H (onesOf v)) = writ F H v) (hct : ∀ v ∈ kids, tellsAll (onesOf v) = tells v) (hon : ∀ v ∈ kids, ∀ c ∈ onesOf v, (writ F H c).length ≤ 2000000 ∧ BareOk F H c) (hself : BareOk F H (.mk 97 n (bs (123 :: r)) kids)) (S : Nat → Prop) (x : Value) (w : World) (hw : Base2 w) (hr : Rep S w (.mk 97 n (bs (123 :: r)) kids) x)
    (h7 : ∀ w', Below w.heap.size w w' → Calls Tryz.prog 7 #[x] w' (Tells True w')) (h8 : ∀ w', Below w.heap.size w w' → Calls Tryz.prog 8 #[x] w' (Tells True w')) :
    Calls Tryz.prog 6 #[x] w fun e w' => e = .returned (.bool true) ∧ Below w.heap.size w w' := by
  have hr0 := hr
  have hself := fun w' (hb : Below w.heap.size w w') => hself S x w' (hw.below hb) (hr0.keep fun b hlt _ => hb.block b hlt)
  simp only [Rep] at hr
  obtain ⟨A, cap, rfl, h1, h2, _, _, _, hkids⟩ := hr
  clear hr0
  have hb0 : Below w.heap.size w (w.alloc (.cells #[.int .u8 97, .int .u64 n, .string (bs (123 :: r)), .slice A kids.length cap] 25)) := (Below.refl _ _).alloc (Nat.le_refl _) _
  have hH0 : (w.alloc (.cells #[.int .u8 97, .int .u64 n, .string (bs (123 :: r)), .slice A kids.length cap] 25)).heap[w.heap.size]? = _ := heap_alloc_new w _
  have hS0 : w.heap.size < (w.alloc (.cells #[.int .u8 97, .int .u64 n, .string (bs (123 :: r)), .slice A kids.length cap] 25)).heap.size := by simp
  obtain ⟨i0, hi0, hz0, hz1, hz2⟩ := info_parts info9d
  have hk0 := List.length_pos_iff.2 hne
  have hkg : decide ((kids.length : Int) > 0) = true := by simp; omega
  have hkg2 : decide (0 < kids.length) = true := by simp; omega
  have hkz : ((kids.length : Int) == 0) = false := by rw [beq_eq_false_iff_ne]; omega
  obtain ⟨b, o, rfl⟩ : ∃ b o, A = some ⟨b, o, none⟩ := by
    obtain ⟨b, o, _, _, rfl, _⟩ := hkids.kid 0 hk0
    exact ⟨b, o, rfl⟩
  have HNE := Lib.hid hne
  clear hne
  go_enter Tryz.func6, Tryz.ntmps6
  go_wp2_with fail
  refine (h7 _ hb0).mono ?_
  rintro _ w1 ⟨b1, rfl, _, hb1⟩
  have hB1 := hb0.trans (hb1.mono hb0.size)
  have hH1 := (hb1.block _ hS0).trans hH0
  have hS1 := Nat.lt_of_lt_of_le hS0 hb1.size
  clear h7 hb1 hb0 hH0 hS0
  obtain ⟨p0, p1, p2, p3⟩ := four_cells hH1
  cases b1
  · go_wp2_with fail
    go_ret
    exact ⟨rfl, hB1⟩
  go_wp2_with fail
  refine (h8 _ hB1).mono ?_
  rintro _ w2 ⟨b2, rfl, _, hb2⟩
  have hB2 := hB1.trans (hb2.mono hB1.size)
  have hH2 := (hb2.block _ hS1).trans hH1
  clear h8 hb2 p0 p1 p2 p3 hB1 hH1 hS1
  obtain ⟨p0, p1, p2, p3⟩ := four_cells hH2
  cases b2
  · go_wp2_with fail
    go_ret
    exact ⟨rfl, hB2⟩
  go_wp2_with fail
  go_loopw [3, 4, 46] (fun pv un i wo => ∃ j : Nat, j ≤ kids.length ∧ un = .bool (tellsAll (kids.take j)) ∧ i = .int .i64 j ∧ wo.ownsRow w.heap.size 9 1 pv j (((writs F H kids).take j).map encStr) ∧ Below w.heap.size w wo ∧ wo.heap[w.heap.size]? = some (.cells #[.int .u8 97, .int .u64 n, .string (bs (123 :: r)), .slice (some ⟨b, o, none⟩) kids.length cap] 25 (0, 0)) ∧ pv.ownBlock ≠ some w.heap.size) (fun _ _ i _ => kids.length - (intOf i).toNat)
  case atStart => exact ⟨0, Nat.zero_le _, rfl, rfl, World.ownsRow_nil _ _ _ _, hB2, hH2, by simp [Value.ownBlock]⟩
  case round =>
    clear p0 p1 p2 p3 hB2 hH2
    rename World => wo
    obtain ⟨j, hj, hun, rfl, hown, hB, hH, hnb⟩ := hrel
    have hj63 : (j : Int) + 1 ≤ 1001 := by omega
    by_cases hlt : j < kids.length
    · have hltd : decide ((j : Int) < (kids.length : Int)) = true := by simp; omega
      obtain ⟨b', o', A', cap', hbo, _, k0, k1, k2, k3, hv⟩ := (hkids.keep fun b hlt _ => hB.block b hlt).kid j hlt
      obtain ⟨rfl, rfl⟩ : b = b' ∧ o = o' := by simpa using hbo
      clear hbo hself
      have hTn := tellsAll_take kids j hlt
      have HWN := Lib.hid (writs_at F H kids j hlt)
      have hmem := List.getElem_mem hlt
      have hkj := hkk _ hmem
      have hcj := hcol _ hmem
      have htj := hct _ hmem
      have hoj := hon _ hmem
      have hoj2 := hol _ hmem
      clear hkk hcol hct hon hmem hol
      generalize kids[j] = vj at *
      obtain ⟨ta, hta⟩ : ∃ ta, tellsAll (kids.take j) = ta := ⟨_, rfl⟩
      rw [hta] at hTn hun
      subst hun
      have HTN := Lib.hid hTn
      clear hta hTn
      have hop1 : onesOf vj = vj.kids := if_pos hkj
      rw [hop1] at hcj htj hoj hoj2
      rw [hkj] at k0 hv
      have hrk := rep_kids hv
      clear hkj
      obtain ⟨b2, o2, rfl⟩ : ∃ b2 o2, A' = some ⟨b2, o2, none⟩ := by
        obtain ⟨b2, o2, _, _, rfl, _⟩ := hrk.kid 0 hoj2.2
        exact ⟨b2, o2, rfl⟩
      have hBk : ∀ (wr : World) (c c' : Obj), Below wr.heap.size wr ((wr.alloc c).alloc c') := fun wr c c' => ((Below.refl _ wr).alloc (Nat.le_refl _) c).alloc (by simp) c'
      obtain ⟨one, hone⟩ : ∃ one, vj.kids = one := ⟨_, rfl⟩
      rw [hone] at hcj htj hoj hoj2 hrk hv k3
      have hOne : OneAt S ((wo.alloc (.cells #[.int .u8 123, .int .u64 vj.n, .string vj.s, .slice (some ⟨b2, o2, none⟩) one.length cap'] 25)).alloc (.cells #[.int .u8 123, .int .u64 vj.n, .string vj.s, .slice (some ⟨b2, o2, none⟩) one.length cap'] 25)) one b2 o2 := oneAt_kids (hrk.keep fun b hb _ => (hBk wo _ _).block b hb)
      have hBb := hB.trans ((hBk wo (.cells #[.int .u8 123, .int .u64 vj.n, .string vj.s, .slice (some ⟨b2, o2, none⟩) one.length cap'] 25) (.cells #[.int .u8 123, .int .u64 vj.n, .string vj.s, .slice (some ⟨b2, o2, none⟩) one.length cap'] 25)).mono hB.size)
      have hWb := hBk wo (.cells #[.int .u8 123, .int .u64 vj.n, .string vj.s, .slice (some ⟨b2, o2, none⟩) one.length cap'] 25) (.cells #[.int .u8 123, .int .u64 vj.n, .string vj.s, .slice (some ⟨b2, o2, none⟩) one.length cap'] 25)
      clear hBk hrk
      go_wp2_with fail
      generalize ((wo.alloc (.cells #[.int .u8 123, .int .u64 vj.n, .string vj.s, .slice (some ⟨b2, o2, none⟩) one.length cap'] 25)).alloc (.cells #[.int .u8 123, .int .u64 vj.n, .string vj.s, .slice (some ⟨b2, o2, none⟩) one.length cap'] 25)) = wb at *
      go_loopw [8, 4, 59] (fun part un i wq => ∃ jj : Nat, jj ≤ one.length ∧ un = .bool (ta && tellsAll (one.take jj)) ∧ i = .int .i64 jj ∧ part = .string (bs (colonT ((writs F H one).take jj))) ∧ Below wb.heap.size wb wq) (fun _ _ i _ => one.length - (intOf i).toNat)
      case atStart => exact ⟨0, Nat.zero_le _, by simp [tellsAll], rfl, rfl, Below.refl _ _⟩
      case round =>
        rename World => wq
        obtain ⟨jj, hjj, hun, rfl, hpa, hbq⟩ := hrel
        have hjj63 : (jj : Int) + 1 ≤ 3 := by omega
        by_cases hltj : jj < one.length
        · have hltjd : decide ((jj : Int) < (one.length : Int)) = true := by simp; omega
          obtain ⟨A2, cap2, k0, k1, k2, k3, hv⟩ := (hOne.keep hbq) jj hltj
          have hBq : Below w.heap.size w wq := hBb.trans (hbq.mono hBb.size)
          skip
          have hltj2 : jj < one.length := by omega
          have hBa : Below w.heap.size w (wq.alloc (.cells #[.int .u8 one[jj].k, .int .u64 one[jj].n, .string one[jj].s, .slice A2 one[jj].kids.length cap2] 25)) := hBq.alloc hBq.size _
          have hBr : Below wq.heap.size wq (wq.alloc (.cells #[.int .u8 one[jj].k, .int .u64 one[jj].n, .string one[jj].s, .slice A2 one[jj].kids.length cap2] 25)) := (Below.refl _ wq).alloc (Nat.le_refl _) _
          have hcall := (hoj _ (List.getElem_mem hltj)).2 S _ _ (hw.below hBa) (hv.keep fun b hb _ => hBr.block b hb)
          have hl1 := (hoj _ (List.getElem_mem hltj)).1
          have hTo := tellsAll_take one jj hltj
          have hCo : colonT ((writs F H one).take (jj + 1)) = colonT ((writs F H one).take jj) ++ ((if jj = 0 then [] else [58, 32]) ++ writ F H one[jj]) := by
            rw [writs_at F H one jj hltj, colonT_snoc, List.length_take, writs_length, Nat.min_eq_left (by omega)]
          have hcl := colonT_take_len (writs F H one) 2000000 (by
            intro s hs
            rw [writs_eq] at hs
            obtain ⟨v, hv, rfl⟩ := List.mem_map.1 hs
            exact (hoj v hv).1) jj
          have hcl2 : (colonT ((writs F H one).take jj)).length ≤ 5000000 := by
            have : jj * (2000000 + 2) ≤ 2 * (2000000 + 2) := Nat.mul_le_mul_right _ (by omega)
            omega
          clear hcl
          obtain ⟨tb, htb⟩ : ∃ tb, (ta && tellsAll (one.take jj)) = tb := ⟨_, rfl⟩
          have HTO := Lib.hid (show (ta && tellsAll (one.take (jj + 1))) = (tb && tells one[jj]) by rw [hTo, ← Bool.and_assoc, htb])
          have HCO := Lib.hid hCo
          rw [htb] at hun
          subst hun hpa
          clear htb hTo hCo
          generalize one[jj] = vk at *
          generalize colonT ((writs F H one).take jj) = pt at *
          go_wp2_with fail
          refine hcall.mono ?_
          rintro _ w1 ⟨rfl, hb1⟩
          have hBn := hbq.trans ((hBr.trans (hb1.mono hBr.size)).mono hbq.size)
          clear hcall k0 k1 k2 k3 hv hb1 hBa
          by_cases h0 : jj = 0
          · subst h0
            cases tb
            all_goals
              go_wp2_with fail
              go_roundw
              case rel =>
                refine ⟨1, by omega, by rw [HTO.out]; first | rfl | simp, rfl, ?_, hBn⟩
                rw [HCO.out]
                (congr 1 <;> (refine ba_ext ?_) <;> simp [bs])
              case measure => simp [intOf]; omega
          · have hgt : decide ((jj : Int) > 0) = true := by simp; omega
            have hgt2 : decide (0 < jj) = true := by simp; omega
            have HCP := Lib.hid HCO.out
            rw [if_neg h0] at HCP
            cases tb
            all_goals
              go_wp2_with fail
              go_roundw
              case rel =>
                refine ⟨jj + 1, hltj, by rw [HTO.out]; first | rfl | simp, by go_num, ?_, hBn⟩
                rw [HCP.out]
                (congr 1 <;> (refine ba_ext ?_) <;> simp [bs])
              case measure => simp [intOf]; omega
        · obtain rfl : one.length = jj := by omega
          have hltjd : decide ((one.length : Int) < (one.length : Int)) = false := by simp; try omega
          have hB1 : Below w.heap.size w wq := hBb.trans (hbq.mono hBb.size)
          have hWq : Below wo.heap.size wo wq := hWb.trans (hbq.mono hWb.size)
          have hown1 := own_keep' hown (fun k hk => hWq.block k (own_lt hown hk))
          have hH1 := (hWq.block _ (Array.getElem?_eq_some_iff.1 hH).1).trans hH
          have hpt : (writs F H one).take one.length = writs F H one := List.take_of_length_le (by rw [writs_length]; exact Nat.le_refl _)
          rw [hpt, hcj] at hpa
          rw [List.take_length, htj, ← HTN.out] at hun
          subst hun hpa
          clear hpt hcj htj hoj hWq hbq hOne hB hBb hWb hH hown
          go_wp2_with (at_builtin; refine Hid.out ?_)
          refine Lib.hid ?_
          refine wpList_append_own_at _ rfl _ _ 32 rfl w.heap.size 9 i0 (.string ByteArray.empty) 1 16 Tryz.underlying32 hi0 hz0 hz1 hz2 rfl (by decide) _ _ _ rfl (hown1.alloc _) ⟨_, 0, none⟩ 1 1 [.string (bs (writ F H vj))] rfl rfl (cell_one_new _ _ _) (by simp [Value.oneCell']) (by unfold maxLen; omega) (by omega) (by have := hB1.size; simp; omega) ?_
          intro v1 w2 ho hg _ ha
          have hB2 : Below w.heap.size w w2 := (hB1.alloc hB1.size _).grown hg (by have := hB1.size; simp; omega) (fun k hk => own_base' hown1 hk)
          have hH2 := (hg.block w.heap.size (by have := hB1.size; simp; omega) (fun hc => hnb hc.symm)).trans ((Below.heap_alloc wq (.cells #[.string (bs (writ F H vj))] 9) _ (Array.getElem?_eq_some_iff.1 hH1).1).trans hH1)
          go_wp2_with fail
          go_roundw
          case rel =>
            refine ⟨j + 1, hlt, rfl, by go_num, ?_, hB2, hH2, ?_⟩
            · rw [HWN.out, List.map_append]
              exact ho
            · rcases ha with ha | ha
              · rw [ha]; exact hnb
              · rw [ha]; intro hc; have := hB1.size; simp at hc; omega
          case measure => simp [intOf]; omega
    · obtain rfl : kids.length = j := by omega
      have hltd : decide ((kids.length : Int) < (kids.length : Int)) = false := by simp
      have hsl := writs_length F H kids
      rw [List.take_of_length_le (by omega)] at hown
      rw [List.take_length] at hun
      obtain ⟨p0, p1, p2, p3⟩ := four_cells hH
      have hwr := writ_arr F H n (bs (123 :: r)) kids
      have htl : tells (.mk 97 n (bs (123 :: r)) kids) = tellsAll kids := by simp [tells, hk0]
      have hsM : ∀ s ∈ writs F H kids, s.length ≤ 5000000 := by
        intro s hs
        rw [writs_eq] at hs
        obtain ⟨v, hv, rfl⟩ := List.mem_map.1 hs
        exact hwl v hv
      rw [← hsl] at hown
      obtain ⟨tt, htt⟩ : ∃ tt, tellsAll kids = tt := ⟨_, rfl⟩
      rw [htt] at hun htl
      subst hun
      have HWR := Lib.hid hwr
      have HTL := Lib.hid htl
      have HSL := Lib.hid hsl
      clear hwr htl hnb htt hkk hcol hct hon hol hwl
      obtain ⟨g, capg, cur, rfl, hgB, hgr, htk, hcs⟩ := strs_at hown (by omega)
      have HTK := Lib.hid htk
      clear htk
      have hrn : g ≠ w.heap.size := by
        intro hc
        rw [hc, hH] at hgr
        simp at hgr
      have hsort := Tryz.sort_Strings g 0 capg (writs F H kids) wo (holds_of_block hgr HTK.out) (Array.getElem?_eq_some_iff.1 hgr).1 (by omega)
      have hwr2 : writ F H (.mk 97 n (bs (123 :: r)) kids) = 123 :: (joinT ((writs F H kids).mergeSort fun x y => decide (x ≤ y)) ++ [125]) := by rw [HWR.out, if_pos (show (bs (123 :: r)).data.toList.head? = some 123 from rfl)]
      have HWR := Lib.hid hwr2
      clear hwr2
      rw [hsl] at hsort ⊢
      go_wp2_with fail
      refine hsort.mono ?_
      rintro _ wq ⟨rfl, n1, os1, hwq⟩
      have hgq : wq.heap[g]? = some (.cells (Sort.putCells encStr 0 ((writs F H kids).mergeSort fun x y => decide (x ≤ y)).toArray cur) 9 (0, 0)) := by rw [hwq]; exact heap_sorted _ hgr
      have hgw : wo.grownBy wq (some g) := by rw [hwq]; exact grownBy_sorted _
      have hBq : Below w.heap.size w wq := hB.grown hgw hB.size (by intro k hk; cases hk; exact hgB)
      have hHq := (hgw.block w.heap.size (Array.getElem?_eq_some_iff.1 hH).1 (fun hc => hrn (by simpa using hc.symm))).trans hH
      have htk2 := take_putCells cur ((writs F H kids).mergeSort fun x y => decide (x ≤ y)) (by rw [List.length_mergeSort]; exact hcs)
      have hsM2 : ∀ s ∈ ((writs F H kids).mergeSort fun x y => decide (x ≤ y)), s.length ≤ 5000000 := fun s hs => hsM s ((List.mergeSort_perm _ _).mem_iff.1 hs)
      have hdl : ((writs F H kids).mergeSort fun x y => decide (x ≤ y)).length = kids.length := by rw [List.length_mergeSort]; exact hsl
      clear hsort hwq hgw hsM HTK hsl hcs hH hB hgr
      generalize ((writs F H kids).mergeSort fun x y => decide (x ≤ y)) = dd at *
      generalize Sort.putCells encStr 0 dd.toArray cur = cur2 at *
      have hjl := joinT_take_len dd 5000000 hsM2
      have HDL := Lib.hid hdl
      have HTKx := Lib.hid htk2
      clear htk2 hdl
      go_wp2_with fail
      go_loopw [14, 102] (fun out i wq => ∃ j : Nat, j ≤ kids.length ∧ i = .int .i64 j ∧ out = .string (bs (joinT (dd.take j))) ∧ Below w.heap.size w wq ∧ wq.heap[g]? = some (.cells cur2 9 (0, 0)) ∧ wq.heap[w.heap.size]? = some (.cells #[.int .u8 97, .int .u64 n, .string (bs (123 :: r)), .slice (some ⟨b, o, none⟩) kids.length cap] 25 (0, 0))) (fun _ i _ => kids.length - (intOf i).toNat)
      case atStart => exact ⟨0, Nat.zero_le _, rfl, rfl, hBq, hgq, hHq⟩
      case round =>
        obtain ⟨j, hj, rfl, rfl, hB2, hg2, hH2⟩ := hrel
        have hj63 : (j : Int) + 1 ≤ 1001 := by omega
        have hjl1 := hjl j
        have hjl2 : j * (5000000 + 2) ≤ 1000 * (5000000 + 2) := Nat.mul_le_mul_right _ (by omega)
        have hjb : (joinT (dd.take j)).length ≤ 6000000000 := by omega
        clear hjl1 hjl2
        obtain ⟨p0, p1, p2, p3⟩ := four_cells hH2
        by_cases hlt : j < kids.length
        · have hltd : decide ((j : Int) < (kids.length : Int)) = true := by simp; omega
          have k0 := str_cell hg2 HTKx.out j (by rw [HDL.out]; exact hlt)
          have hdj := hsM2 _ (List.getElem_mem (show j < dd.length by rw [HDL.out]; exact hlt))
          have hsn : joinT (dd.take (j + 1)) = joinT (dd.take j) ++ ((if j = 0 then [] else [44, 32]) ++ dd[j]'(by rw [HDL.out]; exact hlt)) := by
            rw [List.take_succ_eq_append_getElem (show j < dd.length by rw [HDL.out]; exact hlt), joinT_snoc, List.length_take, Nat.min_eq_left (by have := HDL.out; omega)]
          have HSN := Lib.hid hsn
          clear hsn
          generalize dd[j]'(by rw [HDL.out]; exact hlt) = sj at *
          by_cases h0 : j = 0
          · subst h0
            have hz : (joinT ([] : List (List UInt8))).length = 0 := rfl
            go_wp2_with fail
            go_roundw
            case rel =>
              refine ⟨1, by omega, rfl, ?_, hB2, hg2, hH2⟩
              congr 1
              refine ba_ext ?_
              rw [HSN.out]
              simp [bs]
            case measure => simp [intOf]; omega
          · have hgt : decide ((j : Int) > 0) = true := by simp; omega
            have hgt2 : decide (0 < j) = true := by simp; omega
            have HSN := HSN.out
            rw [if_neg h0] at HSN
            have HSN := Lib.hid HSN
            go_wp2_with fail
            go_roundw
            case rel =>
              refine ⟨j + 1, hlt, by go_num, ?_, hB2, hg2, hH2⟩
              congr 1
              refine ba_ext ?_
              rw [HSN.out]
              simp [bs]
            case measure => simp [intOf]; omega
        · obtain rfl : kids.length = j := by omega
          have hltd : decide ((kids.length : Int) < (kids.length : Int)) = false := by simp
          have htk3 : dd.take kids.length = dd := List.take_of_length_le (by rw [HDL.out]; exact Nat.le_refl _)
          rw [htk3] at hjb ⊢
          have hx1 : ¬9223372036854775807 < 1 + (joinT dd).length := by omega
          have hx2 : ¬9223372036854775807 < 1 + (joinT dd).length + 1 := by omega
          clear htk3
          have hs2 := hself _ hB2
          rw [HWR.out, HTL.out] at hs2
          go_wp2_with fail
          refine hs2.mono ?_
          rintro _ w3 ⟨rfl, hb3⟩
          cases tt
          all_goals
            go_wp2_with fail
            refine wp_region_noPanic ?_
            refine wp_region_held_drew (S := fun _ => True) (by kernel_rfl) trivial (fun hHeld => ?_)
            refine wpAnyH_take (i := 0) (oi := _) (v := ?_) rfl (by kernel_rfl) (by kernel_rfl) (by kernel_rfl) (fun _ _ _ h => h) (Or.inl ⟨by rfl, ?_⟩) trivial ?_
            rotate_left
            · intro w hSw
              go_simp
              all_goals (with_reducible rfl)
            try simp only [Act.put, List.getElem_toArray, List.getElem_cons_succ, List.getElem_cons_zero, List.setIfInBounds_toArray, List.set_cons_zero, List.set_cons_succ]
            refine wpAnyH_take (i := 1) (oi := _) (v := ?_) rfl (by kernel_rfl) (by kernel_rfl) (by kernel_rfl) (fun _ _ _ h => h) (Or.inl ⟨by rfl, ?_⟩) trivial ?_
            rotate_left
            · intro w hSw
              go_simp
              all_goals (with_reducible rfl)
            try simp only [Act.put, List.getElem_toArray, List.getElem_cons_succ, List.getElem_cons_zero, List.setIfInBounds_toArray, List.set_cons_zero, List.set_cons_succ]
            refine wpAnyH_take (i := 2) (oi := _) (v := ?_) rfl (by kernel_rfl) (by kernel_rfl) (by kernel_rfl) (fun _ _ _ h => h) (Or.inl ⟨by rfl, ?_⟩) trivial ?_
            rotate_left
            · intro w hSw
              go_simp
              all_goals (with_reducible rfl)
            try simp only [Act.put, List.getElem_toArray, List.getElem_cons_succ, List.getElem_cons_zero, List.setIfInBounds_toArray, List.set_cons_zero, List.set_cons_succ]
            refine wpAnyH_take (i := 3) (oi := _) (v := ?_) rfl (by kernel_rfl) (by kernel_rfl) (by kernel_rfl) (fun _ _ _ h => h) (Or.inl ⟨by rfl, ?_⟩) trivial ?_
            rotate_left
            · intro w hSw
              go_simp
              all_goals (with_reducible rfl)
            try simp only [Act.put, List.getElem_toArray, List.getElem_cons_succ, List.getElem_cons_zero, List.setIfInBounds_toArray, List.set_cons_zero, List.set_cons_succ]
            refine wpAnyH_take (i := 4) (oi := _) (v := ?_) rfl (by kernel_rfl) (by kernel_rfl) (by kernel_rfl) (fun _ _ _ h => h) (Or.inl ⟨by rfl, ?_⟩) trivial ?_
            rotate_left
            · intro w hSw
              go_simp
              all_goals (with_reducible rfl)
            try simp only [Act.put, List.getElem_toArray, List.getElem_cons_succ, List.getElem_cons_zero, List.setIfInBounds_toArray, List.set_cons_zero, List.set_cons_succ]
            refine wpAnyH_take (i := 5) (oi := _) (v := ?_) rfl (by kernel_rfl) (by kernel_rfl) (by kernel_rfl) (fun _ _ _ h => h) (Or.inl ⟨by rfl, ?_⟩) trivial ?_
            rotate_left
            · intro w hSw
              go_simp
              all_goals (with_reducible rfl)
            try simp only [Act.put, List.getElem_toArray, List.getElem_cons_succ, List.getElem_cons_zero, List.setIfInBounds_toArray, List.set_cons_zero, List.set_cons_succ]
            refine wpAnyH_take (i := 6) (oi := _) (v := ?_) rfl (by kernel_rfl) (by kernel_rfl) (by kernel_rfl) (fun _ _ _ h => h) (Or.inl ⟨by rfl, ?_⟩) trivial ?_
            rotate_left
            · intro w hSw
              go_simp
              all_goals (with_reducible rfl)
            try simp only [Act.put, List.getElem_toArray, List.getElem_cons_succ, List.getElem_cons_zero, List.setIfInBounds_toArray, List.set_cons_zero, List.set_cons_succ]
            refine wpAnyH_take (i := 7) (oi := _) (v := ?_) rfl (by kernel_rfl) (by kernel_rfl) (by kernel_rfl) (fun _ _ _ h => h) (Or.inl ⟨by rfl, ?_⟩) trivial ?_
            rotate_left
            · intro w hSw
              go_simp
              all_goals (with_reducible rfl)
            try simp only [Act.put, List.getElem_toArray, List.getElem_cons_succ, List.getElem_cons_zero, List.setIfInBounds_toArray, List.set_cons_zero, List.set_cons_succ]
            refine wpAnyH_take (i := 8) (oi := _) (v := ?_) rfl (by kernel_rfl) (by kernel_rfl) (by kernel_rfl) (fun _ _ _ h => h) (Or.inl ⟨by rfl, ?_⟩) trivial ?_
            rotate_left
            · intro w hSw
              go_simp
              all_goals (with_reducible rfl)
            try simp only [Act.put, List.getElem_toArray, List.getElem_cons_succ, List.getElem_cons_zero, List.setIfInBounds_toArray, List.set_cons_zero, List.set_cons_succ]
            refine wpAnyH_take (i := 9) (oi := _) (v := ?_) rfl (by kernel_rfl) (by kernel_rfl) (by kernel_rfl) (fun _ _ _ h => h) (Or.inl ⟨by rfl, ?_⟩) trivial ?_
            rotate_left
            · intro w hSw
              go_simp
              all_goals (with_reducible rfl)
            try simp only [Act.put, List.getElem_toArray, List.getElem_cons_succ, List.getElem_cons_zero, List.setIfInBounds_toArray, List.set_cons_zero, List.set_cons_succ]
            refine wpAnyH_take (i := 10) (oi := _) (v := ?_) rfl (by kernel_rfl) (by kernel_rfl) (by kernel_rfl) (fun _ _ _ h => h) (Or.inl ⟨by rfl, ?_⟩) trivial ?_
            rotate_left
            · intro w hSw
              go_simp
              all_goals (with_reducible rfl)
            try simp only [Act.put, List.getElem_toArray, List.getElem_cons_succ, List.getElem_cons_zero, List.setIfInBounds_toArray, List.set_cons_zero, List.set_cons_succ]
            refine wpAnyH_take (i := 11) (oi := _) (v := ?_) rfl (by kernel_rfl) (by kernel_rfl) (by kernel_rfl) (fun _ _ _ h => h) (Or.inl ⟨by rfl, ?_⟩) trivial ?_
            rotate_left
            · intro w hSw
              go_simp
              all_goals (with_reducible rfl)
            try simp only [Act.put, List.getElem_toArray, List.getElem_cons_succ, List.getElem_cons_zero, List.setIfInBounds_toArray, List.set_cons_zero, List.set_cons_succ]
            refine wpAnyH_take (i := 12) (oi := _) (v := ?_) rfl (by kernel_rfl) (by kernel_rfl) (by kernel_rfl) (fun _ _ _ h => h) (Or.inl ⟨by rfl, ?_⟩) trivial ?_
            rotate_left
            · intro w hSw
              go_simp
              all_goals (with_reducible rfl)
            try simp only [Act.put, List.getElem_toArray, List.getElem_cons_succ, List.getElem_cons_zero, List.setIfInBounds_toArray, List.set_cons_zero, List.set_cons_succ]
            refine wpAnyH_take (i := 13) (oi := _) (v := ?_) rfl (by kernel_rfl) (by kernel_rfl) (by kernel_rfl) (fun _ _ _ h => h) (Or.inl ⟨by rfl, ?_⟩) trivial ?_
            rotate_left
            · intro w hSw
              go_simp
              all_goals (with_reducible rfl)
            try simp only [Act.put, List.getElem_toArray, List.getElem_cons_succ, List.getElem_cons_zero, List.setIfInBounds_toArray, List.set_cons_zero, List.set_cons_succ]
            refine wpAnyH_take (i := 14) (oi := _) (v := ?_) rfl (by kernel_rfl) (by kernel_rfl) (by kernel_rfl) (fun _ _ _ h => h) (Or.inl ⟨by rfl, ?_⟩) trivial ?_
            rotate_left
            · intro w hSw
              go_simp
              all_goals (with_reducible rfl)
            try simp only [Act.put, List.getElem_toArray, List.getElem_cons_succ, List.getElem_cons_zero, List.setIfInBounds_toArray, List.set_cons_zero, List.set_cons_succ]
            refine wpAnyH_take (i := 15) (oi := _) (v := ?_) rfl (by kernel_rfl) (by kernel_rfl) (by kernel_rfl) (fun _ _ _ h => h) (Or.inl ⟨by rfl, ?_⟩) trivial ?_
            rotate_left
            · intro w hSw
              go_simp
              all_goals (with_reducible rfl)
            try simp only [Act.put, List.getElem_toArray, List.getElem_cons_succ, List.getElem_cons_zero, List.setIfInBounds_toArray, List.set_cons_zero, List.set_cons_succ]
            refine wpAnyH_take (i := 16) (oi := _) (v := ?_) rfl (by kernel_rfl) (by kernel_rfl) (by kernel_rfl) (fun _ _ _ h => h) (Or.inl ⟨by rfl, ?_⟩) trivial ?_
            rotate_left
            · intro w hSw
              go_simp
              all_goals (with_reducible rfl)
            try simp only [Act.put, List.getElem_toArray, List.getElem_cons_succ, List.getElem_cons_zero, List.setIfInBounds_toArray, List.set_cons_zero, List.set_cons_succ]
            refine wpAnyH_take (i := 17) (oi := _) (v := ?_) rfl (by kernel_rfl) (by kernel_rfl) (by kernel_rfl) (fun _ _ _ h => h) (Or.inl ⟨by rfl, ?_⟩) trivial ?_
            rotate_left
            · intro w hSw
              go_simp
              all_goals (with_reducible rfl)
            try simp only [Act.put, List.getElem_toArray, List.getElem_cons_succ, List.getElem_cons_zero, List.setIfInBounds_toArray, List.set_cons_zero, List.set_cons_succ]
            refine wpAnyH_done (by kernel_rfl) ?_ _
            refine NoPanic.normal ?_
            go_wp2_with fail
            have heq : (123 :: (joinT dd ++ [125]) == (({ data := #[123, 125] } : ByteArray).extract 0 1 ++ bs (joinT dd) ++ ({ data := #[123, 125] } : ByteArray).extract 1 2).toList) = true := by
              have e1 : ({ data := #[123, 125] } : ByteArray).extract 0 1 = { data := #[123] } := by decide
              have e2 : ({ data := #[123, 125] } : ByteArray).extract 1 2 = { data := #[125] } := by decide
              rw [ByteArray.toList_eq, beq_iff_eq, e1, e2]
              simp [bs]
            go_ret
            refine ⟨?_, (hB2.trans (hb3.mono hB2.size)).drew⟩
            show Ending.returned (.bool (123 :: (joinT dd ++ [125]) == (({ data := #[123, 125] } : ByteArray).extract 0 1 ++ bs (joinT dd) ++ ({ data := #[123, 125] } : ByteArray).extract 1 2).toList)) = _
            rw [heq]
set_option maxRecDepth 100000 in
set_option maxHeartbeats 25600000 in
theorem parts_str {F H : Nat → List UInt8} (n : Int) (s0 : ByteArray) (kids : List V) (hne : kids ≠ []) (hlen : kids.length ≤ 1000) (hkk : ∀ v ∈ kids, v.k ≠ 123) (hwl : ∀ v ∈ kids, (writ F H v).length ≤ 5000000) (hol : ∀ v ∈ kids, (onesOf v).length ≤ 2 ∧ 0 < (onesOf v).length) (hcol : ∀ v ∈ kids, colonT (writs F H (onesOf v)) = writ F H v) (hct : ∀ v ∈ kids, tellsAll (onesOf v) = tells v) (hon : ∀ v ∈ kids, ∀ c ∈ onesOf v, (writ F H c).length ≤ 2000000 ∧ BareOk F H c) (hself : BareOk F H (.mk 40 n s0 kids)) (S : Nat → Prop) (x : Value) (w : World) (hw : Base2 w) (hr : Rep S w (.mk 40 n s0 kids) x)
    (h7 : ∀ w', Below w.heap.size w w' → Calls Tryz.prog 7 #[x] w' (Tells True w')) (h8 : ∀ w', Below w.heap.size w w' → Calls Tryz.prog 8 #[x] w' (Tells True w')) :
    Calls Tryz.prog 6 #[x] w fun e w' => e = .returned (.bool true) ∧ Below w.heap.size w w' := by
  have hr0 := hr
  have hself := fun w' (hb : Below w.heap.size w w') => hself S x w' (hw.below hb) (hr0.keep fun b hlt _ => hb.block b hlt)
  simp only [Rep] at hr
  obtain ⟨A, cap, rfl, h1, h2, _, _, _, hkids⟩ := hr
  clear hr0
  have hb0 : Below w.heap.size w (w.alloc (.cells #[.int .u8 40, .int .u64 n, .string s0, .slice A kids.length cap] 25)) := (Below.refl _ _).alloc (Nat.le_refl _) _
  have hH0 : (w.alloc (.cells #[.int .u8 40, .int .u64 n, .string s0, .slice A kids.length cap] 25)).heap[w.heap.size]? = _ := heap_alloc_new w _
  have hS0 : w.heap.size < (w.alloc (.cells #[.int .u8 40, .int .u64 n, .string s0, .slice A kids.length cap] 25)).heap.size := by simp
  obtain ⟨i0, hi0, hz0, hz1, hz2⟩ := info_parts info9d
  have hk0 := List.length_pos_iff.2 hne
  have hkg : decide ((kids.length : Int) > 0) = true := by simp; omega
  have hkg2 : decide (0 < kids.length) = true := by simp; omega
  have hkz : ((kids.length : Int) == 0) = false := by rw [beq_eq_false_iff_ne]; omega
  obtain ⟨b, o, rfl⟩ : ∃ b o, A = some ⟨b, o, none⟩ := by
    obtain ⟨b, o, _, _, rfl, _⟩ := hkids.kid 0 hk0
    exact ⟨b, o, rfl⟩
  have HNE := Lib.hid hne
  clear hne
  go_enter Tryz.func6, Tryz.ntmps6
  go_wp2_with fail
  refine (h7 _ hb0).mono ?_
  rintro _ w1 ⟨b1, rfl, _, hb1⟩
  have hB1 := hb0.trans (hb1.mono hb0.size)
  have hH1 := (hb1.block _ hS0).trans hH0
  have hS1 := Nat.lt_of_lt_of_le hS0 hb1.size
  clear h7 hb1 hb0 hH0 hS0
  obtain ⟨p0, p1, p2, p3⟩ := four_cells hH1
  cases b1
  · go_wp2_with fail
    go_ret
    exact ⟨rfl, hB1⟩
  go_wp2_with fail
  refine (h8 _ hB1).mono ?_
  rintro _ w2 ⟨b2, rfl, _, hb2⟩
  have hB2 := hB1.trans (hb2.mono hB1.size)
  have hH2 := (hb2.block _ hS1).trans hH1
  clear h8 hb2 p0 p1 p2 p3 hB1 hH1 hS1
  obtain ⟨p0, p1, p2, p3⟩ := four_cells hH2
  cases b2
  · go_wp2_with fail
    go_ret
    exact ⟨rfl, hB2⟩
  go_wp2_with fail
  go_loopw [3, 4, 46] (fun pv un i wo => ∃ j : Nat, j ≤ kids.length ∧ un = .bool (tellsAll (kids.take j)) ∧ i = .int .i64 j ∧ wo.ownsRow w.heap.size 9 1 pv j (((writs F H kids).take j).map encStr) ∧ Below w.heap.size w wo ∧ wo.heap[w.heap.size]? = some (.cells #[.int .u8 40, .int .u64 n, .string s0, .slice (some ⟨b, o, none⟩) kids.length cap] 25 (0, 0)) ∧ pv.ownBlock ≠ some w.heap.size) (fun _ _ i _ => kids.length - (intOf i).toNat)
  case atStart => exact ⟨0, Nat.zero_le _, rfl, rfl, World.ownsRow_nil _ _ _ _, hB2, hH2, by simp [Value.ownBlock]⟩
  case round =>
    clear p0 p1 p2 p3 hB2 hH2
    rename World => wo
    obtain ⟨j, hj, hun, rfl, hown, hB, hH, hnb⟩ := hrel
    have hj63 : (j : Int) + 1 ≤ 1001 := by omega
    by_cases hlt : j < kids.length
    · have hltd : decide ((j : Int) < (kids.length : Int)) = true := by simp; omega
      obtain ⟨b', o', A', cap', hbo, _, k0, k1, k2, k3, hv⟩ := (hkids.keep fun b hlt _ => hB.block b hlt).kid j hlt
      obtain ⟨rfl, rfl⟩ : b = b' ∧ o = o' := by simpa using hbo
      clear hbo hself
      have hTn := tellsAll_take kids j hlt
      have HWN := Lib.hid (writs_at F H kids j hlt)
      have hmem := List.getElem_mem hlt
      have hkj := hkk _ hmem
      have hcj := hcol _ hmem
      have htj := hct _ hmem
      have hoj := hon _ hmem
      have hoj2 := hol _ hmem
      clear hkk hcol hct hon hmem hol
      generalize kids[j] = vj at *
      obtain ⟨ta, hta⟩ : ∃ ta, tellsAll (kids.take j) = ta := ⟨_, rfl⟩
      rw [hta] at hTn hun
      subst hun
      have HTN := Lib.hid hTn
      clear hta hTn
      have ho1 : onesOf vj = [vj] := if_neg hkj
      rw [ho1] at hcj htj hoj
      obtain ⟨one, hone⟩ : ∃ one, one = [vj] := ⟨_, rfl⟩
      rw [← hone] at hcj htj hoj
      have hol1 : one.length = 1 := by rw [hone]; rfl
      have hBk : ∀ (wo : World) (c c' : Obj), Below wo.heap.size wo ((wo.alloc c).alloc c') := fun wo c c' => ((Below.refl _ wo).alloc (Nat.le_refl _) c).alloc (by simp) c'
      have hOne : OneAt S ((wo.alloc (.cells #[.int .u8 vj.k, .int .u64 vj.n, .string vj.s, .slice A' vj.kids.length cap'] 25)).alloc (.cells #[.int .u8 vj.k, .int .u64 vj.n, .string vj.s, .slice A' vj.kids.length cap'] 25)) one (wo.heap.size + 1) 0 := by
        rw [hone]
        refine oneAt_new (by have := heap_alloc_new (wo.alloc (.cells #[.int .u8 vj.k, .int .u64 vj.n, .string vj.s, .slice A' vj.kids.length cap'] 25)) (.cells #[.int .u8 vj.k, .int .u64 vj.n, .string vj.s, .slice A' vj.kids.length cap'] 25); simpa using this) (hv.keep fun b hb _ => (hBk wo _ _).block b hb)
      have hBb := hB.trans ((hBk wo (.cells #[.int .u8 vj.k, .int .u64 vj.n, .string vj.s, .slice A' vj.kids.length cap'] 25) (.cells #[.int .u8 vj.k, .int .u64 vj.n, .string vj.s, .slice A' vj.kids.length cap'] 25)).mono hB.size)
      have hWb := hBk wo (.cells #[.int .u8 vj.k, .int .u64 vj.n, .string vj.s, .slice A' vj.kids.length cap'] 25) (.cells #[.int .u8 vj.k, .int .u64 vj.n, .string vj.s, .slice A' vj.kids.length cap'] 25)
      have hkj2 : (vj.k == 123) = false := by rw [beq_eq_false_iff_ne]; exact hkj
      clear hBk
      go_wp2_with fail
      generalize ((wo.alloc (.cells #[.int .u8 vj.k, .int .u64 vj.n, .string vj.s, .slice A' vj.kids.length cap'] 25)).alloc (.cells #[.int .u8 vj.k, .int .u64 vj.n, .string vj.s, .slice A' vj.kids.length cap'] 25)) = wb at *
      go_loopw [8, 4, 59] (fun part un i wq => ∃ jj : Nat, jj ≤ one.length ∧ un = .bool (ta && tellsAll (one.take jj)) ∧ i = .int .i64 jj ∧ part = .string (bs (colonT ((writs F H one).take jj))) ∧ Below wb.heap.size wb wq) (fun _ _ i _ => one.length - (intOf i).toNat)
      case atStart => exact ⟨0, Nat.zero_le _, by simp [tellsAll], rfl, rfl, Below.refl _ _⟩
      case round =>
        rename World => wq
        obtain ⟨jj, hjj, hun, rfl, hpa, hbq⟩ := hrel
        have hjj63 : (jj : Int) + 1 ≤ 3 := by omega
        by_cases hltj : jj < one.length
        · have hltjd : decide ((jj : Int) < 1) = true := by simp; omega
          obtain ⟨A2, cap2, k0, k1, k2, k3, hv⟩ := (hOne.keep hbq) jj hltj
          have hBq : Below w.heap.size w wq := hBb.trans (hbq.mono hBb.size)
          simp only [Nat.zero_add] at k0 k1 k2 k3
          have hltj2 : jj < 1 := by omega
          have hBa : Below w.heap.size w (wq.alloc (.cells #[.int .u8 one[jj].k, .int .u64 one[jj].n, .string one[jj].s, .slice A2 one[jj].kids.length cap2] 25)) := hBq.alloc hBq.size _
          have hBr : Below wq.heap.size wq (wq.alloc (.cells #[.int .u8 one[jj].k, .int .u64 one[jj].n, .string one[jj].s, .slice A2 one[jj].kids.length cap2] 25)) := (Below.refl _ wq).alloc (Nat.le_refl _) _
          have hcall := (hoj _ (List.getElem_mem hltj)).2 S _ _ (hw.below hBa) (hv.keep fun b hb _ => hBr.block b hb)
          have hl1 := (hoj _ (List.getElem_mem hltj)).1
          have hTo := tellsAll_take one jj hltj
          have hCo : colonT ((writs F H one).take (jj + 1)) = colonT ((writs F H one).take jj) ++ ((if jj = 0 then [] else [58, 32]) ++ writ F H one[jj]) := by
            rw [writs_at F H one jj hltj, colonT_snoc, List.length_take, writs_length, Nat.min_eq_left (by omega)]
          have hcl := colonT_take_len (writs F H one) 2000000 (by
            intro s hs
            rw [writs_eq] at hs
            obtain ⟨v, hv, rfl⟩ := List.mem_map.1 hs
            exact (hoj v hv).1) jj
          have hcl2 : (colonT ((writs F H one).take jj)).length ≤ 5000000 := by
            have : jj * (2000000 + 2) ≤ 2 * (2000000 + 2) := Nat.mul_le_mul_right _ (by omega)
            omega
          clear hcl
          obtain ⟨tb, htb⟩ : ∃ tb, (ta && tellsAll (one.take jj)) = tb := ⟨_, rfl⟩
          have HTO := Lib.hid (show (ta && tellsAll (one.take (jj + 1))) = (tb && tells one[jj]) by rw [hTo, ← Bool.and_assoc, htb])
          have HCO := Lib.hid hCo
          rw [htb] at hun
          subst hun hpa
          clear htb hTo hCo
          generalize one[jj] = vk at *
          generalize colonT ((writs F H one).take jj) = pt at *
          go_wp2_with fail
          refine hcall.mono ?_
          rintro _ w1 ⟨rfl, hb1⟩
          have hBn := hbq.trans ((hBr.trans (hb1.mono hBr.size)).mono hbq.size)
          clear hcall k0 k1 k2 k3 hv hb1 hBa
          by_cases h0 : jj = 0
          · subst h0
            cases tb
            all_goals
              go_wp2_with fail
              go_roundw
              case rel =>
                refine ⟨1, by omega, by rw [HTO.out]; first | rfl | simp, rfl, ?_, hBn⟩
                rw [HCO.out]
                (congr 1 <;> (refine ba_ext ?_) <;> simp [bs])
              case measure => simp [intOf]; omega
          · exfalso; omega
        · obtain rfl : one.length = jj := by omega
          have hltjd : decide ((one.length : Int) < 1) = false := by simp; try omega
          have hB1 : Below w.heap.size w wq := hBb.trans (hbq.mono hBb.size)
          have hWq : Below wo.heap.size wo wq := hWb.trans (hbq.mono hWb.size)
          have hown1 := own_keep' hown (fun k hk => hWq.block k (own_lt hown hk))
          have hH1 := (hWq.block _ (Array.getElem?_eq_some_iff.1 hH).1).trans hH
          have hpt : (writs F H one).take one.length = writs F H one := List.take_of_length_le (by rw [writs_length]; exact Nat.le_refl _)
          rw [hpt, hcj] at hpa
          rw [List.take_length, htj, ← HTN.out] at hun
          subst hun hpa
          clear hpt hcj htj hoj hWq hbq hOne hB hBb hWb hH hown
          go_wp2_with (at_builtin; refine Hid.out ?_)
          refine Lib.hid ?_
          refine wpList_append_own_at _ rfl _ _ 32 rfl w.heap.size 9 i0 (.string ByteArray.empty) 1 16 Tryz.underlying32 hi0 hz0 hz1 hz2 rfl (by decide) _ _ _ rfl (hown1.alloc _) ⟨_, 0, none⟩ 1 1 [.string (bs (writ F H vj))] rfl rfl (cell_one_new _ _ _) (by simp [Value.oneCell']) (by unfold maxLen; omega) (by omega) (by have := hB1.size; simp; omega) ?_
          intro v1 w2 ho hg _ ha
          have hB2 : Below w.heap.size w w2 := (hB1.alloc hB1.size _).grown hg (by have := hB1.size; simp; omega) (fun k hk => own_base' hown1 hk)
          have hH2 := (hg.block w.heap.size (by have := hB1.size; simp; omega) (fun hc => hnb hc.symm)).trans ((Below.heap_alloc wq (.cells #[.string (bs (writ F H vj))] 9) _ (Array.getElem?_eq_some_iff.1 hH1).1).trans hH1)
          go_wp2_with fail
          go_roundw
          case rel =>
            refine ⟨j + 1, hlt, rfl, by go_num, ?_, hB2, hH2, ?_⟩
            · rw [HWN.out, List.map_append]
              exact ho
            · rcases ha with ha | ha
              · rw [ha]; exact hnb
              · rw [ha]; intro hc; have := hB1.size; simp at hc; omega
          case measure => simp [intOf]; omega
    · obtain rfl : kids.length = j := by omega
      have hltd : decide ((kids.length : Int) < (kids.length : Int)) = false := by simp
      have hsl := writs_length F H kids
      rw [List.take_of_length_le (by omega)] at hown
      rw [List.take_length] at hun
      obtain ⟨p0, p1, p2, p3⟩ := four_cells hH
      have hwr := writ_str F H n s0 kids
      have htl : tells (.mk 40 n s0 kids) = tellsAll kids := by simp [tells, hk0]
      have hsM : ∀ s ∈ writs F H kids, s.length ≤ 5000000 := by
        intro s hs
        rw [writs_eq] at hs
        obtain ⟨v, hv, rfl⟩ := List.mem_map.1 hs
        exact hwl v hv
      rw [← hsl] at hown
      obtain ⟨tt, htt⟩ : ∃ tt, tellsAll kids = tt := ⟨_, rfl⟩
      rw [htt] at hun htl
      subst hun
      have HWR := Lib.hid hwr
      have HTL := Lib.hid htl
      have HSL := Lib.hid hsl
      clear hwr htl hnb htt hkk hcol hct hon hol hwl
      obtain ⟨g, capg, cur, rfl, hgB, hgr, htk, hcs⟩ := strs_at hown (by omega)
      have HTK := Lib.hid htk
      clear htk
      have hgq := hgr
      have hHq := hH
      have hBq := hB
      have hwr2 : writ F H (.mk 40 n s0 kids) = 40 :: (fieldsT (writs F H kids) ++ [41]) := HWR.out
      have HWR := Lib.hid hwr2
      clear hwr2
      have htk2 := HTK.out
      have hsM2 := hsM
      rw [hsl]
      generalize writs F H kids = dd at *
      obtain ⟨cur2, hcu⟩ : ∃ c2, c2 = cur := ⟨_, rfl⟩
      rw [← hcu] at hgq htk2
      have hdl : dd.length = kids.length := hsl
      have hjl := fieldsT_take_len dd 5000000 hsM2
      have HDL := Lib.hid hdl
      have HTK2 := Lib.hid htk2
      clear hsl hcs htk2
      have htk2 := HTK2.out
      have HTKx := Lib.hid htk2
      clear htk2 hcu
      go_wp2_with fail
      go_loopw [14, 102] (fun out i wq => ∃ j : Nat, j ≤ kids.length ∧ i = .int .i64 j ∧ out = .string (bs (fieldsT (dd.take j))) ∧ Below w.heap.size w wq ∧ wq.heap[g]? = some (.cells cur2 9 (0, 0)) ∧ wq.heap[w.heap.size]? = some (.cells #[.int .u8 40, .int .u64 n, .string s0, .slice (some ⟨b, o, none⟩) kids.length cap] 25 (0, 0))) (fun _ i _ => kids.length - (intOf i).toNat)
      case atStart => exact ⟨0, Nat.zero_le _, rfl, rfl, hBq, hgq, hHq⟩
      case round =>
        obtain ⟨j, hj, rfl, rfl, hB2, hg2, hH2⟩ := hrel
        have hj63 : (j : Int) + 1 ≤ 1001 := by omega
        have hjl1 := hjl j
        have hjl2 : j * (5000000 + 2) ≤ 1000 * (5000000 + 2) := Nat.mul_le_mul_right _ (by omega)
        have hjb : (fieldsT (dd.take j)).length ≤ 6000000000 := by omega
        clear hjl1 hjl2
        obtain ⟨p0, p1, p2, p3⟩ := four_cells hH2
        by_cases hlt : j < kids.length
        · have hltd : decide ((j : Int) < (kids.length : Int)) = true := by simp; omega
          have k0 := str_cell hg2 HTKx.out j (by rw [HDL.out]; exact hlt)
          have hdj := hsM2 _ (List.getElem_mem (show j < dd.length by rw [HDL.out]; exact hlt))
          have hsn : fieldsT (dd.take (j + 1)) = fieldsT (dd.take j) ++ ((if j = 0 then [] else [32]) ++ (dd[j]'(by rw [HDL.out]; exact hlt) ++ [44])) := by
            rw [List.take_succ_eq_append_getElem (show j < dd.length by rw [HDL.out]; exact hlt), fieldsT_snoc, List.length_take, Nat.min_eq_left (by have := HDL.out; omega)]
          have HSN := Lib.hid hsn
          clear hsn
          generalize dd[j]'(by rw [HDL.out]; exact hlt) = sj at *
          by_cases h0 : j = 0
          · subst h0
            have hz : (fieldsT ([] : List (List UInt8))).length = 0 := rfl
            go_wp2_with fail
            go_roundw
            case rel =>
              refine ⟨1, by omega, rfl, ?_, hB2, hg2, hH2⟩
              congr 1
              refine ba_ext ?_
              rw [HSN.out]
              simp [bs]
            case measure => simp [intOf]; omega
          · have hgt : decide ((j : Int) > 0) = true := by simp; omega
            have hgt2 : decide (0 < j) = true := by simp; omega
            have HSN := HSN.out
            rw [if_neg h0] at HSN
            have HSN := Lib.hid HSN
            go_wp2_with fail
            go_roundw
            case rel =>
              refine ⟨j + 1, hlt, by go_num, ?_, hB2, hg2, hH2⟩
              congr 1
              refine ba_ext ?_
              rw [HSN.out]
              simp [bs]
            case measure => simp [intOf]; omega
        · obtain rfl : kids.length = j := by omega
          have hltd : decide ((kids.length : Int) < (kids.length : Int)) = false := by simp
          have htk3 : dd.take kids.length = dd := List.take_of_length_le (by rw [HDL.out]; exact Nat.le_refl _)
          rw [htk3] at hjb ⊢
          have hx1 : ¬9223372036854775807 < 1 + (fieldsT dd).length := by omega
          have hx2 : ¬9223372036854775807 < 1 + (fieldsT dd).length + 1 := by omega
          clear htk3
          have hs2 := hself _ hB2
          rw [HWR.out, HTL.out] at hs2
          go_wp2_with fail
          refine hs2.mono ?_
          rintro _ w3 ⟨rfl, hb3⟩
          cases tt
          all_goals
            go_wp2_with fail
            refine wp_region_noPanic ?_
            refine wp_region_held_drew (S := fun _ => True) (by kernel_rfl) trivial (fun hHeld => ?_)
            refine wpAnyH_take (i := 0) (oi := _) (v := ?_) rfl (by kernel_rfl) (by kernel_rfl) (by kernel_rfl) (fun _ _ _ h => h) (Or.inl ⟨by rfl, ?_⟩) trivial ?_
            rotate_left
            · intro w hSw
              go_simp
              all_goals (with_reducible rfl)
            try simp only [Act.put, List.getElem_toArray, List.getElem_cons_succ, List.getElem_cons_zero, List.setIfInBounds_toArray, List.set_cons_zero, List.set_cons_succ]
            refine wpAnyH_take (i := 1) (oi := _) (v := ?_) rfl (by kernel_rfl) (by kernel_rfl) (by kernel_rfl) (fun _ _ _ h => h) (Or.inl ⟨by rfl, ?_⟩) trivial ?_
            rotate_left
            · intro w hSw
              go_simp
              all_goals (with_reducible rfl)
            try simp only [Act.put, List.getElem_toArray, List.getElem_cons_succ, List.getElem_cons_zero, List.setIfInBounds_toArray, List.set_cons_zero, List.set_cons_succ]
            refine wpAnyH_take (i := 2) (oi := _) (v := ?_) rfl (by kernel_rfl) (by kernel_rfl) (by kernel_rfl) (fun _ _ _ h => h) (Or.inl ⟨by rfl, ?_⟩) trivial ?_
            rotate_left
            · intro w hSw
              go_simp
              all_goals (with_reducible rfl)
            try simp only [Act.put, List.getElem_toArray, List.getElem_cons_succ, List.getElem_cons_zero, List.setIfInBounds_toArray, List.set_cons_zero, List.set_cons_succ]
            refine wpAnyH_take (i := 3) (oi := _) (v := ?_) rfl (by kernel_rfl) (by kernel_rfl) (by kernel_rfl) (fun _ _ _ h => h) (Or.inl ⟨by rfl, ?_⟩) trivial ?_
            rotate_left
            · intro w hSw
              go_simp
              all_goals (with_reducible rfl)
            try simp only [Act.put, List.getElem_toArray, List.getElem_cons_succ, List.getElem_cons_zero, List.setIfInBounds_toArray, List.set_cons_zero, List.set_cons_succ]
            refine wpAnyH_take (i := 4) (oi := _) (v := ?_) rfl (by kernel_rfl) (by kernel_rfl) (by kernel_rfl) (fun _ _ _ h => h) (Or.inl ⟨by rfl, ?_⟩) trivial ?_
            rotate_left
            · intro w hSw
              go_simp
              all_goals (with_reducible rfl)
            try simp only [Act.put, List.getElem_toArray, List.getElem_cons_succ, List.getElem_cons_zero, List.setIfInBounds_toArray, List.set_cons_zero, List.set_cons_succ]
            refine wpAnyH_take (i := 5) (oi := _) (v := ?_) rfl (by kernel_rfl) (by kernel_rfl) (by kernel_rfl) (fun _ _ _ h => h) (Or.inl ⟨by rfl, ?_⟩) trivial ?_
            rotate_left
            · intro w hSw
              go_simp
              all_goals (with_reducible rfl)
            try simp only [Act.put, List.getElem_toArray, List.getElem_cons_succ, List.getElem_cons_zero, List.setIfInBounds_toArray, List.set_cons_zero, List.set_cons_succ]
            refine wpAnyH_take (i := 6) (oi := _) (v := ?_) rfl (by kernel_rfl) (by kernel_rfl) (by kernel_rfl) (fun _ _ _ h => h) (Or.inl ⟨by rfl, ?_⟩) trivial ?_
            rotate_left
            · intro w hSw
              go_simp
              all_goals (with_reducible rfl)
            try simp only [Act.put, List.getElem_toArray, List.getElem_cons_succ, List.getElem_cons_zero, List.setIfInBounds_toArray, List.set_cons_zero, List.set_cons_succ]
            refine wpAnyH_take (i := 7) (oi := _) (v := ?_) rfl (by kernel_rfl) (by kernel_rfl) (by kernel_rfl) (fun _ _ _ h => h) (Or.inl ⟨by rfl, ?_⟩) trivial ?_
            rotate_left
            · intro w hSw
              go_simp
              all_goals (with_reducible rfl)
            try simp only [Act.put, List.getElem_toArray, List.getElem_cons_succ, List.getElem_cons_zero, List.setIfInBounds_toArray, List.set_cons_zero, List.set_cons_succ]
            refine wpAnyH_take (i := 8) (oi := _) (v := ?_) rfl (by kernel_rfl) (by kernel_rfl) (by kernel_rfl) (fun _ _ _ h => h) (Or.inl ⟨by rfl, ?_⟩) trivial ?_
            rotate_left
            · intro w hSw
              go_simp
              all_goals (with_reducible rfl)
            try simp only [Act.put, List.getElem_toArray, List.getElem_cons_succ, List.getElem_cons_zero, List.setIfInBounds_toArray, List.set_cons_zero, List.set_cons_succ]
            refine wpAnyH_take (i := 9) (oi := _) (v := ?_) rfl (by kernel_rfl) (by kernel_rfl) (by kernel_rfl) (fun _ _ _ h => h) (Or.inl ⟨by rfl, ?_⟩) trivial ?_
            rotate_left
            · intro w hSw
              go_simp
              all_goals (with_reducible rfl)
            try simp only [Act.put, List.getElem_toArray, List.getElem_cons_succ, List.getElem_cons_zero, List.setIfInBounds_toArray, List.set_cons_zero, List.set_cons_succ]
            refine wpAnyH_take (i := 10) (oi := _) (v := ?_) rfl (by kernel_rfl) (by kernel_rfl) (by kernel_rfl) (fun _ _ _ h => h) (Or.inl ⟨by rfl, ?_⟩) trivial ?_
            rotate_left
            · intro w hSw
              go_simp
              all_goals (with_reducible rfl)
            try simp only [Act.put, List.getElem_toArray, List.getElem_cons_succ, List.getElem_cons_zero, List.setIfInBounds_toArray, List.set_cons_zero, List.set_cons_succ]
            refine wpAnyH_take (i := 11) (oi := _) (v := ?_) rfl (by kernel_rfl) (by kernel_rfl) (by kernel_rfl) (fun _ _ _ h => h) (Or.inl ⟨by rfl, ?_⟩) trivial ?_
            rotate_left
            · intro w hSw
              go_simp
              all_goals (with_reducible rfl)
            try simp only [Act.put, List.getElem_toArray, List.getElem_cons_succ, List.getElem_cons_zero, List.setIfInBounds_toArray, List.set_cons_zero, List.set_cons_succ]
            refine wpAnyH_take (i := 12) (oi := _) (v := ?_) rfl (by kernel_rfl) (by kernel_rfl) (by kernel_rfl) (fun _ _ _ h => h) (Or.inl ⟨by rfl, ?_⟩) trivial ?_
            rotate_left
            · intro w hSw
              go_simp
              all_goals (with_reducible rfl)
            try simp only [Act.put, List.getElem_toArray, List.getElem_cons_succ, List.getElem_cons_zero, List.setIfInBounds_toArray, List.set_cons_zero, List.set_cons_succ]
            refine wpAnyH_take (i := 13) (oi := _) (v := ?_) rfl (by kernel_rfl) (by kernel_rfl) (by kernel_rfl) (fun _ _ _ h => h) (Or.inl ⟨by rfl, ?_⟩) trivial ?_
            rotate_left
            · intro w hSw
              go_simp
              all_goals (with_reducible rfl)
            try simp only [Act.put, List.getElem_toArray, List.getElem_cons_succ, List.getElem_cons_zero, List.setIfInBounds_toArray, List.set_cons_zero, List.set_cons_succ]
            refine wpAnyH_take (i := 14) (oi := _) (v := ?_) rfl (by kernel_rfl) (by kernel_rfl) (by kernel_rfl) (fun _ _ _ h => h) (Or.inl ⟨by rfl, ?_⟩) trivial ?_
            rotate_left
            · intro w hSw
              go_simp
              all_goals (with_reducible rfl)
            try simp only [Act.put, List.getElem_toArray, List.getElem_cons_succ, List.getElem_cons_zero, List.setIfInBounds_toArray, List.set_cons_zero, List.set_cons_succ]
            refine wpAnyH_take (i := 15) (oi := _) (v := ?_) rfl (by kernel_rfl) (by kernel_rfl) (by kernel_rfl) (fun _ _ _ h => h) (Or.inl ⟨by rfl, ?_⟩) trivial ?_
            rotate_left
            · intro w hSw
              go_simp
              all_goals (with_reducible rfl)
            try simp only [Act.put, List.getElem_toArray, List.getElem_cons_succ, List.getElem_cons_zero, List.setIfInBounds_toArray, List.set_cons_zero, List.set_cons_succ]
            refine wpAnyH_take (i := 16) (oi := _) (v := ?_) rfl (by kernel_rfl) (by kernel_rfl) (by kernel_rfl) (fun _ _ _ h => h) (Or.inl ⟨by rfl, ?_⟩) trivial ?_
            rotate_left
            · intro w hSw
              go_simp
              all_goals (with_reducible rfl)
            try simp only [Act.put, List.getElem_toArray, List.getElem_cons_succ, List.getElem_cons_zero, List.setIfInBounds_toArray, List.set_cons_zero, List.set_cons_succ]
            refine wpAnyH_take (i := 17) (oi := _) (v := ?_) rfl (by kernel_rfl) (by kernel_rfl) (by kernel_rfl) (fun _ _ _ h => h) (Or.inl ⟨by rfl, ?_⟩) trivial ?_
            rotate_left
            · intro w hSw
              go_simp
              all_goals (with_reducible rfl)
            try simp only [Act.put, List.getElem_toArray, List.getElem_cons_succ, List.getElem_cons_zero, List.setIfInBounds_toArray, List.set_cons_zero, List.set_cons_succ]
            refine wpAnyH_done (by kernel_rfl) ?_ _
            refine NoPanic.normal ?_
            go_wp2_with fail
            have heq : (40 :: (fieldsT dd ++ [41]) == (({ data := #[40, 41] } : ByteArray).extract 0 1 ++ bs (fieldsT dd) ++ ({ data := #[40, 41] } : ByteArray).extract 1 2).toList) = true := by
              have e1 : ({ data := #[40, 41] } : ByteArray).extract 0 1 = { data := #[40] } := by decide
              have e2 : ({ data := #[40, 41] } : ByteArray).extract 1 2 = { data := #[41] } := by decide
              rw [ByteArray.toList_eq, beq_iff_eq, e1, e2]
              simp [bs]
            go_ret
            refine ⟨?_, (hB2.trans (hb3.mono hB2.size)).drew⟩
            show Ending.returned (.bool (40 :: (fieldsT dd ++ [41]) == (({ data := #[40, 41] } : ByteArray).extract 0 1 ++ bs (fieldsT dd) ++ ({ data := #[40, 41] } : ByteArray).extract 1 2).toList)) = _
            rw [heq]
end Go.Proofs.YtjbpphomlmlmaaaGreatDoor
