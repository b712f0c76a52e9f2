/- How a value is written: structs. -/
import Derived.Test.YtjbpphomlmlmaaaGreatDoorQG2
namespace Go.Proofs.YtjbpphomlmlmaaaGreatDoor
open Go.RowKit
set_option linter.unusedVariables false
set_option linter.unusedSimpArgs false
theorem li_new {w0 w3 : World} {p : Nat} {x z : Value} (hB : Below w0.heap.size w0 w3) (hP : w3.heap[p]? = some (.cells #[x, z] 83 (0, 0))) :
    LI w0 p w3.heap.size x z [] (w3.alloc (.cells #[.slice none 0 0, .int .i64 0, .int .i8 0] 134)) :=
  ⟨hB.alloc hB.size _, (Below.heap_alloc _ _ _ (Array.getElem?_eq_some_iff.1 hP).1).trans hP, ⟨hB.size, .slice none 0 0, 0, heap_alloc_new w3 _, World.ownsRow_nil _ _ _ _, by simp [Value.ownBlock]⟩⟩
/-- What is written of a struct ahead of its j-th field. -/
def structAt (F H : Nat → List UInt8) (l : List V) (j : Nat) : List UInt8 := 40 :: (fieldsT ((writs F H l).take j) ++ (if 0 < j ∧ j < l.length then [32] else []))
theorem structAt_next (F H : Nat → List UInt8) (l : List V) (j : Nat) (h : j < l.length) : structAt F H l j ++ writ F H l[j] ++ [44] ++ (if j + 1 < l.length then [32] else []) = structAt F H l (j + 1) := by
  unfold structAt
  rw [writs_at F H l j h, fieldsT_snoc]
  have hlen : ((writs F H l).take j).length = j := by rw [List.length_take, writs_length]; omega
  rw [hlen]
  by_cases h0 : j = 0
  · subst h0
    simp [fieldsT]
  · have h1 : 0 < j ∧ j < l.length := by omega
    rw [if_pos h1, if_neg h0]
    by_cases h2 : j + 1 < l.length
    · rw [if_pos h2, if_pos (by omega)]; simp
    · rw [if_neg h2, if_neg (by omega)]; simp
theorem fieldsT_take_len (l : List (List UInt8)) (M : Nat) (h : ∀ s ∈ l, s.length ≤ M) : ∀ j, (fieldsT (l.take j)).length ≤ j * (M + 2)
  | 0 => by simp [fieldsT]
  | j + 1 => by
    have ih := fieldsT_take_len l M h j
    by_cases hj : j < l.length
    · rw [List.take_succ_eq_append_getElem hj, fieldsT_snoc]
      have := h l[j] (List.getElem_mem hj)
      simp only [List.length_append, List.length_cons, List.length_nil]
      have h2 : (if (List.take j l).length = 0 then ([] : List UInt8) else [32]).length ≤ 1 := by split <;> simp
      rw [Nat.succ_mul]; omega
    · rw [List.take_of_length_le (by omega)] at ih ⊢
      rw [Nat.succ_mul]; omega
theorem structAt_len {F H : Nat → List UInt8} {l : List V} (hl : l.length ≤ 1000) (hwl : ∀ v ∈ l, (writ F H v).length ≤ 2000000) (j : Nat) (hj : j ≤ l.length) : (structAt F H l j).length ≤ 3000000000 := by
  have := fieldsT_take_len (writs F H l) 2000000 (by
    intro s hs
    rw [writs_eq] at hs
    obtain ⟨v, hv, rfl⟩ := List.mem_map.1 hs
    exact hwl v hv) j
  unfold structAt
  simp only [List.length_cons, List.length_append]
  have h2 : (if 0 < j ∧ j < l.length then ([32] : List UInt8) else []).length ≤ 1 := by split <;> simp
  have : j * (2000000 + 2) ≤ 1000 * (2000000 + 2) := Nat.mul_le_mul_right _ (by omega)
  omega
set_option maxRecDepth 100000 in
set_option maxHeartbeats 6400000 in
theorem fmt_struct {F H : Nat → List UInt8} (n : Int) (s : ByteArray) (ts : List Ty) (kids : List V) (hT : HT (.mk 40 n s kids) (.str ts)) (hok : Ty.oks ts 32 32 32) (h254 : (Ty.str ts).sig.length ≤ 255) (hne : kids ≠ []) (hlen : kids.length ≤ 1000) (hlts : kids.length = ts.length) (hk : ∀ (j : Nat) (v : V) (t : Ty), kids[j]? = some v → ts[j]? = some t → HT v t)
    (hwl : ∀ v ∈ kids, (writ F H v).length ≤ 2000000) (ih : ∀ (j : Nat) (v : V) (t : Ty), kids[j]? = some v → ts[j]? = some t → FmtV F H v t) : FmtV F H (.mk 40 n s kids) (.str ts) := by
  intro S u y w hw hA
  have hA0 := hA
  simp only [AR] at hA
  rw [if_neg (by decide), if_neg (by decide), if_pos trivial] at hA
  obtain ⟨ys, A, cap, hx, hc1, hc2, hl, hrow⟩ := hA
  obtain ⟨rfl, rfl⟩ : u = 80 ∧ y = .agg #[.slice A kids.length cap] := by cases hx; exact ⟨rfl, rfl⟩
  clear hx
  obtain ⟨g, rfl, hgw, hys⟩ : ∃ g, A = some ⟨g, 0, none⟩ ∧ g < w.heap.size ∧ ∀ (j : Nat) (y : Value), ys[j]? = some y → w.cell? ⟨g, j, none⟩ = some y := by
    rcases hrow with h0 | ⟨g, h1, _, h2, h3⟩
    · have := hl.length; rw [h0] at this; exact absurd (List.eq_nil_of_length_eq_zero this.symm) hne
    · exact ⟨g, h1, h2, h3⟩
  clear hrow
  obtain ⟨zt, hzt⟩ : ∃ zt, zty (.str ts) = 40 :: zt := ⟨_, rfl⟩
  obtain ⟨st, hst⟩ : ∃ st, (Ty.str ts).sig = 40 :: st := ⟨_, rfl⟩
  rw [hst]
  have hwa : ∀ o, Below w.heap.size w (w.alloc o) := fun o => (Below.refl w.heap.size w).alloc (Nat.le_refl _) o
  have hV := fun o => valueOf_calls hT h254 S _ _ _ (hA0.below (hwa o))
  rw [hzt] at hV
  have hkz : ((kids.length : Int) == 0) = false := by
    have := List.length_pos_iff.2 hne
    rw [beq_eq_false_iff_ne]; omega
  have HK0 := Lib.hid hne
  have HLT := Lib.hid hlts
  clear hne hst hzt hlts
  go_enter Tryz.func51, Tryz.ntmps51
  go_wp2_with fail
  refine (hV _).mono ?_
  rintro _ w1 ⟨rfl, hb1⟩
  have hB1 := (hwa _).trans (hb1.mono (hwa _).size)
  clear hV hb1
  have hKd : ∀ w, Calls Tryz.prog 80 #[.agg #[.iface 80 (.agg #[.slice (some ⟨g, 0, none⟩) kids.length cap]), .string (bs (40 :: zt))]] w fun e w' => e = .returned (.int .i64 18) ∧ Below w.heap.size w w' := fun w => vKind_calls 80 _ 40 (by decide) zt w
  go_wp2_with fail
  refine (hKd _).mono ?_
  rintro _ w2 ⟨rfl, hb2⟩
  have hP : (w1.alloc (.cells #[.iface 80 (.agg #[.slice (some ⟨g, 0, none⟩) kids.length cap]), .string (bs (40 :: zt))] 83)).heap[w1.heap.size]? = _ := heap_alloc_new w1 _
  have hB1' : Below w.heap.size w (w1.alloc (.cells #[.iface 80 (.agg #[.slice (some ⟨g, 0, none⟩) kids.length cap]), .string (bs (40 :: zt))] 83)) := hB1.alloc hB1.size _
  have hB2 := hB1'.trans (hb2.mono hB1'.size)
  have hP2 := (hb2.block _ (Array.getElem?_eq_some_iff.1 hP).1).trans hP
  clear hb2 hP hB1 hB1' hKd
  generalize w1.heap.size = p at *
  clear w1
  have q0 : w2.cell? ⟨p, 0, none⟩ = some (.iface 80 (.agg #[.slice (some ⟨g, 0, none⟩) kids.length cap])) := by rw [cell_of_row _ _ _ _ _ _ hP2]; rfl
  have q1 : w2.cell? ⟨p, 1, none⟩ = some (.string (bs (40 :: zt))) := by rw [cell_of_row _ _ _ _ _ _ hP2]; rfl
  have hL : ∀ w', Calls Tryz.prog 90 #[.agg #[.iface 80 (.agg #[.slice (some ⟨g, 0, none⟩) kids.length cap]), .string (bs (40 :: zt))]] w' fun e w'' => e = .returned (.int .i64 kids.length) ∧ Below w'.heap.size w' w'' := fun w' => numFld_calls _ kids.length cap (40 :: zt) w'
  go_wp2_with fail
  refine (hL _).mono ?_
  rintro _ w3 ⟨rfl, hb3⟩
  have hB3 := hB2.trans (hb3.mono hB2.size)
  have hP3 := (hb3.block _ (Array.getElem?_eq_some_iff.1 hP2).1).trans hP2
  clear hb3 q0 q1 hP2 hB2
  have hLI := li_new hB3 hP3
  go_wp2_with fail
  refine (hLI.chr 40 (by simp)).mono ?_
  rintro _ w4 ⟨rfl, hL0⟩
  have hL1 : LI w p w3.heap.size (.iface 80 (.agg #[.slice (some ⟨g, 0, none⟩) kids.length cap])) (.string (bs (40 :: zt))) (structAt F H kids 0) w4 := by
    have e0 : structAt F H kids 0 = [] ++ [40] := by simp [structAt, fieldsT]
    rw [e0]; exact hL0
  clear hLI hL0 hP3 hB3
  generalize w3.heap.size = q at *
  clear w3
  go_wp2_with fail
  go_loopw [21, 23] (fun un i wr => ∃ j : Nat, j ≤ kids.length ∧ un = .bool (tellsAll (kids.take j)) ∧ i = .int .i64 j ∧ LI w p q (.iface 80 (.agg #[.slice (some ⟨g, 0, none⟩) kids.length cap])) (.string (bs (40 :: zt))) (structAt F H kids j) wr) (fun _ i _ => kids.length - (intOf i).toNat)
  case atStart => exact ⟨0, Nat.zero_le _, rfl, rfl, hL1⟩
  case round =>
    clear hL1
    obtain ⟨j, hj, rfl, rfl, hK⟩ := hrel
    obtain ⟨q0, q1⟩ := hK.c0
    have hj63 : (j : Int) + 1 ≤ 1001 := by omega
    go_wp2_with fail
    refine (hL _).mono ?_
    rintro _ wa ⟨rfl, hba⟩
    have hKa := hK.below hba
    clear hK hba q0 q1
    obtain ⟨q0, q1⟩ := hKa.c0
    by_cases hlt : j < kids.length
    · have hltd : decide ((j : Int) < (kids.length : Int)) = true := by simp; omega
      have hjt : j < ts.length := by rw [← HLT.out]; exact hlt
      have hgk := List.getElem?_eq_getElem hlt
      have hgt := List.getElem?_eq_getElem hjt
      obtain ⟨y0, hy0, hAy⟩ := hl.at_ j _ hgk
      have hHT := hk j _ _ hgk hgt
      have hmem : kids[j] ∈ kids := List.getElem_mem hlt
      have htm : ts[j] ∈ ts := List.getElem_mem hjt
      obtain ⟨u, y, rfl⟩ := hAy.iface hHT.kind
      have hsl : (ts[j]).sig.length ≤ 253 := by
        have := sig_mem_len htm
        simp only [Ty.sig, List.length_cons, List.length_append, List.length_nil] at h254
        omega
      have hI : ∀ w', Below w.heap.size w w' → Calls Tryz.prog 91 #[.agg #[.iface 80 (.agg #[.slice (some ⟨g, 0, none⟩) kids.length cap]), .string (bs (40 :: zt))], .int .i64 j] w' fun e' w'' => e' = .returned (.agg #[.iface u y, .string (bs (zty ts[j]))]) ∧ Below w'.heap.size w' w'' :=
        fun w' hb => fieldAt_calls hHT (by omega) S g kids.length cap (40 :: zt) j hlt hc1 u y w' (hAy.below hb) (cell_keep hb.block (hys j _ hy0))
      have hMV : ∀ w', Below w.heap.size w w' → Calls Tryz.prog 29 #[.iface u y] w' _ := fun w' hb => makeVar_calls hHT (Ty.ok_mono (oks_mem hok _ htm) (by omega) (by omega) (by omega)) (by omega) S u y w' (hAy.below hb)
      have hFm : ∀ w', Below w.heap.size w w' → Calls Tryz.prog 51 #[.agg #[.string (bs (ts[j]).sig), .iface u y]] w' (FmR F H kids[j] w') := fun w' hb => ih j _ _ hgk hgt S u y w' (hw.below hb) (hAy.below hb)
      clear hgk hgt
      generalize ts[j] = tj at *
      go_wp2_with fail
      refine (hI _ hKa.bel).mono ?_
      rintro _ wb ⟨rfl, hbb⟩
      have hKb := hKa.below hbb
      clear hKa hbb q0 q1 hI
      go_wp2_with fail
      refine (iface_calls u y _ _).mono ?_
      rintro _ wc ⟨rfl, hbc⟩
      have hKc := hKb.below hbc
      clear hKb hbc
      go_wp2_with fail
      refine (hMV _ hKc.bel).mono ?_
      rintro _ wd ⟨rfl, hbd⟩
      have hKd := hKc.below hbd
      clear hKc hbd hMV
      go_wp2_with fail
      refine (hFm _ hKd.bel).mono ?_
      rintro _ we ⟨rfl, hbe⟩
      have hKe := hKd.below hbe
      clear hKd hbe hFm
      have hTn := tellsAll_take kids j hlt
      have hlA := structAt_len hlen hwl j hj
      have hln := hwl _ hmem
      have hS1 := hKe.str (writ F H kids[j]) (by omega)
      have hNx := structAt_next F H kids j hlt
      clear hKe
      obtain ⟨ta, hta⟩ : ∃ ta, tellsAll (kids.take j) = ta := ⟨_, rfl⟩
      rw [hta]
      rw [hta] at hTn
      have HT1 := Lib.hid hTn
      have HN := Lib.hid hNx
      clear hTn hta hNx
      cases ta
      all_goals
        go_wp2_with fail
        refine hS1.mono ?_
        rintro _ wf ⟨⟨m1, rfl⟩, hf⟩
        clear hS1
        go_wp2_with fail
        refine (hf.str [44] (by simp only [List.length_append, List.length_cons, List.length_nil]; omega)).mono ?_
        rintro _ wf2 ⟨⟨m3, rfl⟩, hf2⟩
        clear hf
        obtain ⟨q0, q1⟩ := hf2.c0
        go_wp2_with fail
        refine (hL _).mono ?_
        rintro _ wg ⟨rfl, hbg⟩
        have hg := hf2.below hbg
        clear hf2 hbg q0 q1
        by_cases hlast : j + 1 < kids.length
        · have hne : ((j : Int) != (kids.length : Int) - 1) = true := by rw [bne_iff_ne]; omega
          have HN := HN.out
          rw [if_pos hlast] at HN
          have HN := Lib.hid HN
          go_wp2_with fail
          refine (hg.str [32] (by simp only [List.length_append, List.length_cons, List.length_nil]; omega)).mono ?_
          rintro _ wh ⟨⟨m2, rfl⟩, hh⟩
          clear hg
          go_wp2_with fail
          go_roundw
          case rel => exact ⟨j + 1, hlt, by rw [HT1.out]; first | rfl | simp, by go_num, by rw [← HN.out]; exact hh⟩
          case measure => simp [intOf]; omega
        · have hne : ((j : Int) != (kids.length : Int) - 1) = false := by rw [bne_eq_false_iff_eq]; omega
          have HN := HN.out
          rw [if_neg hlast, List.append_nil] at HN
          have HN := Lib.hid HN
          go_wp2_with fail
          go_roundw
          case rel => exact ⟨j + 1, hlt, by rw [HT1.out]; first | rfl | simp, by go_num, by rw [← HN.out]; exact hg⟩
          case measure => simp [intOf]; omega
    · obtain rfl : kids.length = j := by omega
      have hltd : decide ((kids.length : Int) < (kids.length : Int)) = false := by simp
      have hk0 := List.length_pos_iff.2 HK0.out
      have hlA := structAt_len hlen hwl _ (Nat.le_refl _)
      go_wp2_with fail
      refine (hKa.chr 41 (by omega)).mono ?_
      rintro _ wb ⟨rfl, hb1⟩
      go_wp2_with fail
      refine hb1.text.mono ?_
      rintro _ wc ⟨rfl, hc⟩
      go_wp2_with fail
      go_ret2
      refine ⟨?_, hc.bel⟩
      show Ending.returned (.tuple #[.string ⟨(structAt F H kids kids.length ++ [41]).toArray⟩, .bool (tellsAll kids)]) = _
      have e1 : structAt F H kids kids.length ++ [41] = writ F H (.mk 40 n s kids) := by
        rw [writ_str]
        unfold structAt
        rw [if_neg (by omega), List.take_of_length_le (by rw [writs_length]; exact Nat.le_refl _)]
        simp
      have e2 : tells (.mk 40 n s kids) = tellsAll kids := by simp [tells, hk0]
      rw [e1, e2]
end Go.Proofs.YtjbpphomlmlmaaaGreatDoor
