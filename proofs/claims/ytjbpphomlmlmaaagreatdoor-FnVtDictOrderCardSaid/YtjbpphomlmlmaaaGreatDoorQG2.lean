/- How a value is written: lists. -/
import Derived.Test.YtjbpphomlmlmaaaGreatDoorQG1
import Derived.Test.YtjbpphomlmlmaaaGreatDoorQG2a
namespace Go.Proofs.YtjbpphomlmlmaaaGreatDoor
open Go.RowKit
set_option linter.unusedVariables false
set_option linter.unusedSimpArgs false
theorem nb_calls (g : Nat) (w : World) : Calls Tryz.prog 82 #[.slice (some ⟨g, 0, none⟩) 1 1] w fun e w' => e = .returned (.pointer (some ⟨w.heap.size, 0, none⟩)) ∧ w' = w.alloc (.cells #[.slice (some ⟨g, 0, none⟩) 1 1, .int .i64 0, .int .i8 0] 134) := by
  go_enter Tryz.func82, Tryz.ntmps82
  go_wp2_with fail
  go_ret
  exact ⟨rfl, rfl⟩
theorem joinT_snoc : ∀ (a : List (List UInt8)) (x : List UInt8), joinT (a ++ [x]) = joinT a ++ ((if a.length = 0 then [] else [44, 32]) ++ x)
  | [], x => by simp [joinT]
  | [s], x => by simp [joinT]
  | s :: r :: a, x => by
    have := joinT_snoc (r :: a) x
    simp [joinT] at *
    exact this
theorem fieldsT_snoc : ∀ (a : List (List UInt8)) (x : List UInt8), fieldsT (a ++ [x]) = fieldsT a ++ ((if a.length = 0 then [] else [32]) ++ (x ++ [44]))
  | [], x => by simp [fieldsT]
  | [s], x => by simp [fieldsT]
  | s :: r :: a, x => by
    have := fieldsT_snoc (r :: a) x
    simp [fieldsT] at *
    exact this
theorem byte_cells_one (l : List UInt8) : ∀ v ∈ Lib.byteCells l, v.oneCell' = true := by
  intro v hv
  obtain ⟨b, _, rfl⟩ := List.mem_map.1 hv
  rfl
/-- The walk of a row: the value being written, in a cell; the buffer, with what is written so far. -/
structure LI (w0 : World) (p q : Nat) (x z : Value) (acc : List UInt8) (w : World) : Prop where
  bel : Below w0.heap.size w0 w
  cell : w.heap[p]? = some (.cells #[x, z] 83 (0, 0))
  buf : Lib.IsBuffer 134 5 w0.heap.size q (Lib.byteCells acc) w
theorem LI.below {w0 w w' : World} {p q : Nat} {x z : Value} {acc : List UInt8} (h : LI w0 p q x z acc w) (hb : Below w.heap.size w w') : LI w0 p q x z acc w' :=
  ⟨h.bel.trans (hb.mono h.bel.size), (hb.block p (Array.getElem?_eq_some_iff.1 h.cell).1).trans h.cell, h.buf.old hb⟩
theorem LI.c0 {w0 w : World} {p q : Nat} {x z : Value} {acc : List UInt8} (h : LI w0 p q x z acc w) : w.cell? ⟨p, 0, none⟩ = some x ∧ w.cell? ⟨p, 1, none⟩ = some z := by
  constructor <;> (rw [cell_of_row _ _ _ _ _ _ h.cell]; rfl)
theorem LI.keep {w0 w w' : World} {p q : Nat} {x z : Value} {acc acc' : List UInt8} (h : LI w0 p q x z acc w) (hb : Lib.IsBuffer 134 5 w0.heap.size q (Lib.byteCells acc') w') (hbel : Below w0.heap.size w w') (ho : Lib.OthersKept 5 (some q) w w') : LI w0 p q x z acc' w' := by
  refine ⟨h.bel.trans hbel, ho p _ h.cell ?_ (by intro c fz hc; simp at hc), hb⟩
  intro hc
  obtain rfl : p = q := by simpa using hc
  obtain ⟨_, v, lr, hq, _⟩ := h.buf
  rw [h.cell] at hq
  simp at hq
theorem LI.str {w0 w : World} {p q : Nat} {x z : Value} {acc : List UInt8} (h : LI w0 p q x z acc w) (s : List UInt8) (hl : acc.length + s.length ≤ 140737488355328) :
    Calls Tryz.prog 84 #[.pointer (some ⟨q, 0, none⟩), .string ⟨s.toArray⟩] w fun e w' => (∃ m, e = .returned (.tuple #[m, .nilIface])) ∧ LI w0 p q x z (acc ++ s) w' := by
  refine (Tryz.Buffer_WriteString_kept _ q _ ⟨s.toArray⟩ w h.buf h.bel.size (byte_cells_one acc) (by rw [Lib.byteCells_length]; exact hl)).mono ?_
  rintro e w' ⟨rfl, hb, hbel, ho⟩
  refine ⟨⟨_, rfl⟩, h.keep ?_ hbel ho⟩
  simpa [Lib.byteCells] using hb
theorem LI.chr {w0 w : World} {p q : Nat} {x z : Value} {acc : List UInt8} (h : LI w0 p q x z acc w) (c : UInt8) (hl : acc.length + 1 ≤ 140737488355328) :
    Calls Tryz.prog 85 #[.pointer (some ⟨q, 0, none⟩), .int .u8 (c.toNat : Int)] w fun e w' => e = .returned .nilIface ∧ LI w0 p q x z (acc ++ [c]) w' := by
  refine (Tryz.Buffer_WriteByte_kept _ q _ (c.toNat : Int) w h.buf h.bel.size (byte_cells_one acc) (by rw [Lib.byteCells_length]; exact hl)).mono ?_
  rintro e w' ⟨rfl, hb, hbel, ho⟩
  refine ⟨rfl, h.keep ?_ hbel ho⟩
  simpa [Lib.byteCells] using hb
theorem LI.text {w0 w : World} {p q : Nat} {x z : Value} {acc : List UInt8} (h : LI w0 p q x z acc w) :
    Calls Tryz.prog 86 #[.pointer (some ⟨q, 0, none⟩)] w fun e w' => e = .returned (.string ⟨acc.toArray⟩) ∧ LI w0 p q x z acc w' := by
  refine (Tryz.Buffer_String _ q acc w h.buf).mono ?_
  rintro e w' ⟨rfl, n, rfl⟩
  exact ⟨rfl, h.below (below_drewN (Below.refl _ _) n)⟩
theorem writs_at (F H : Nat → List UInt8) (l : List V) (j : Nat) (h : j < l.length) : (writs F H l).take (j + 1) = (writs F H l).take j ++ [writ F H l[j]] := by
  rw [writs_eq, List.take_succ_eq_append_getElem (by simpa using h)]
  simp
/-- What is written of a list ahead of its j-th element. -/
def listAt (F H : Nat → List UInt8) (l : List V) (j : Nat) : List UInt8 := 91 :: (joinT ((writs F H l).take j) ++ (if 0 < j ∧ j < l.length then [44, 32] else []))
theorem listAt_next (F H : Nat → List UInt8) (l : List V) (j : Nat) (h : j < l.length) : listAt F H l j ++ writ F H l[j] ++ (if j + 1 < l.length then [44, 32] else []) = listAt F H l (j + 1) := by
  unfold listAt
  rw [writs_at F H l j h, joinT_snoc]
  have hlen : ((writs F H l).take j).length = j := by rw [List.length_take, writs_length]; omega
  rw [hlen]
  by_cases h0 : j = 0
  · subst h0
    simp [joinT]
  · have h1 : 0 < j ∧ j < l.length := by omega
    rw [if_pos h1, if_neg h0]
    by_cases h2 : j + 1 < l.length
    · rw [if_pos h2, if_pos (by omega)]; simp
    · rw [if_neg h2, if_neg (by omega)]; simp
/-- .. while a list is written: its buffer begins with one marked byte. -/
structure LK (F H : Nat → List UInt8) (l : List V) (w0 : World) (p q : Nat) (x z : Value) (j : Nat) (w : World) : Prop where
  bel : Below w0.heap.size w0 w
  cell : w.heap[p]? = some (.cells #[x, z] 83 (0, 0))
  buf : (j = 0 ∧ w0.heap.size ≤ q ∧ ∃ g, g ≠ q ∧ w.heap[q]? = some (.cells #[.slice (some ⟨g, 0, none⟩) 1 1, .int .i64 0, .int .i8 0] 134 (0, 0)) ∧ w.heap[g]? = some (.cells #[.int .u8 91] 5 (1, 2))) ∨
    (0 < j ∧ Lib.IsBuffer 134 5 w0.heap.size q (Lib.byteCells (listAt F H l j)) w)
theorem LK.below {F H : Nat → List UInt8} {l : List V} {w0 w w' : World} {p q : Nat} {x z : Value} {j : Nat} (h : LK F H l w0 p q x z j w) (hb : Below w.heap.size w w') : LK F H l w0 p q x z j w' := by
  refine ⟨h.bel.trans (hb.mono h.bel.size), (hb.block p (Array.getElem?_eq_some_iff.1 h.cell).1).trans h.cell, ?_⟩
  rcases h.buf with ⟨h0, h1, g, h2, h3, h4⟩ | ⟨h0, h1⟩
  · exact .inl ⟨h0, h1, g, h2, (hb.block _ (Array.getElem?_eq_some_iff.1 h3).1).trans h3, (hb.block _ (Array.getElem?_eq_some_iff.1 h4).1).trans h4⟩
  · exact .inr ⟨h0, h1.old hb⟩
theorem LK.c0 {F H : Nat → List UInt8} {l : List V} {w0 w : World} {p q : Nat} {x z : Value} {j : Nat} (h : LK F H l w0 p q x z j w) : w.cell? ⟨p, 0, none⟩ = some x ∧ w.cell? ⟨p, 1, none⟩ = some z := by
  constructor <;> (rw [cell_of_row _ _ _ _ _ _ h.cell]; rfl)
theorem LK.str {F H : Nat → List UInt8} {l : List V} {w0 w : World} {p q : Nat} {x z : Value} {j : Nat} (h : LK F H l w0 p q x z j w) (s : List UInt8) (hs : s ≠ []) (hl : (listAt F H l j).length + s.length ≤ 140737488355328) :
    Calls Tryz.prog 84 #[.pointer (some ⟨q, 0, none⟩), .string ⟨s.toArray⟩] w fun e w' => (∃ m, e = .returned (.tuple #[m, .nilIface])) ∧ LI w0 p q x z (listAt F H l j ++ s) w' := by
  rcases h.buf with ⟨h0, h1, g, h2, h3, h4⟩ | ⟨h0, h1⟩
  · subst h0
    have e0 : listAt F H l 0 = [91] := by simp [listAt, joinT]
    rw [e0] at hl ⊢
    refine (ws_first _ q g s hs w h1 h.bel.size h3 _ h4 h2 (by simpa using hl)).mono ?_
    rintro e w' ⟨hm, hb, hbel, ho⟩
    refine ⟨hm, h.bel.trans hbel, ho p _ h.cell ?_ (by intro c fz hc; simp at hc), hb⟩
    intro hc
    obtain rfl : p = q := by simpa using hc
    rw [h.cell] at h3
    simp at h3
  · exact LI.str ⟨h.bel, h.cell, h1⟩ s hl
theorem marked_new {F H : Nat → List UInt8} {l : List V} {w0 w3 : World} {p : Nat} {x z : Value} (hB : Below w0.heap.size w0 w3) (hP : w3.heap[p]? = some (.cells #[x, z] 83 (0, 0))) :
    LK F H l w0 p (w3.heap.size + 1) x z 0 ((w3.alloc (.cells #[.int .u8 91] 5 (1, 2))).alloc (.cells #[.slice (some ⟨w3.heap.size, 0, none⟩) 1 1, .int .i64 0, .int .i8 0] 134)) := by
  have hpw := (Array.getElem?_eq_some_iff.1 hP).1
  have hBs := hB.size
  have hz : (w3.alloc (.cells #[.int .u8 91] 5 (1, 2))).heap.size = w3.heap.size + 1 := by simp
  have h1 := heap_alloc_new (w3.alloc (.cells #[.int .u8 91] 5 (1, 2))) (.cells #[.slice (some ⟨w3.heap.size, 0, none⟩) 1 1, .int .i64 0, .int .i8 0] 134)
  rw [hz] at h1
  refine ⟨(hB.alloc hB.size _).alloc (by rw [hz]; omega) _, ?_, .inl ⟨rfl, by omega, w3.heap.size, by omega, h1, ?_⟩⟩
  · exact (Below.heap_alloc _ _ _ (by rw [hz]; omega)).trans ((Below.heap_alloc _ _ _ hpw).trans hP)
  · exact (Below.heap_alloc _ _ _ (by rw [hz]; omega)).trans (heap_alloc_new w3 _)
theorem joinT_take_len (l : List (List UInt8)) (M : Nat) (h : ∀ s ∈ l, s.length ≤ M) : ∀ j, (joinT (l.take j)).length ≤ j * (M + 2)
  | 0 => by simp [joinT]
  | j + 1 => by
    have ih := joinT_take_len l M h j
    by_cases hj : j < l.length
    · rw [List.take_succ_eq_append_getElem hj, joinT_snoc]
      have := h l[j] (List.getElem_mem hj)
      simp only [List.length_append]
      have h2 : (if (List.take j l).length = 0 then ([] : List UInt8) else [44, 32]).length ≤ 2 := by split <;> simp
      rw [Nat.succ_mul]; omega
    · rw [List.take_of_length_le (by omega)] at ih ⊢
      rw [Nat.succ_mul]; omega
theorem listAt_len {F H : Nat → List UInt8} {l : List V} (hl : l.length ≤ 1000) (hwl : ∀ v ∈ l, (writ F H v).length ≤ 2000000) (j : Nat) (hj : j ≤ l.length) : (listAt F H l j).length ≤ 3000000000 := by
  have := joinT_take_len (writs F H l) 2000000 (by
    intro s hs
    rw [writs_eq] at hs
    obtain ⟨v, hv, rfl⟩ := List.mem_map.1 hs
    exact hwl v hv) j
  unfold listAt
  simp only [List.length_cons, List.length_append]
  have h2 : (if 0 < j ∧ j < l.length then ([44, 32] : List UInt8) else []).length ≤ 2 := by split <;> simp
  have : j * (2000000 + 2) ≤ 1000 * (2000000 + 2) := Nat.mul_le_mul_right _ (by omega)
  omega
/-- How the value lies, opened once. -/
theorem arr_open {n : Int} {e : Ty} {kids : List V} (hp : e.plain) {S : Nat → Prop} {u : TypeId} {y : Value} {w : World} (hA : AR S w (.mk 97 n (bs e.sig) kids) (.iface u y)) :
    ∃ (ys : List Value) (b : Nat) (A : Option Addr) (cap : Nat), ARl S w kids ys ∧ u = 89 ∧ y = .pointer (some ⟨b, 0, none⟩) ∧ kids.length ≤ cap ∧ cap ≤ maxLen ∧ b < w.heap.size ∧ w.cell? ⟨b, 1, none⟩ = some (.slice A kids.length cap) ∧ Row S w A ys := by
  simp only [AR] at hA
  rw [if_neg (by decide), if_neg (by decide), if_neg (by decide), if_pos trivial] at hA
  obtain ⟨ys, b, hl, hS, hor⟩ := hA
  rcases hor with ⟨e', A, cap, _, _, hx, h1, h2, h3, h4⟩ | ⟨kc, e', A, cap, B, cap2, hs, _⟩
  · cases hx
    exact ⟨ys, b, A, cap, hl, rfl, rfl, h1, h2, (Array.getElem?_eq_some_iff.1 h3).1, by rw [cell_of_row _ _ _ _ _ _ h3]; rfl, h4⟩
  · obtain ⟨c, r, hc, _, _, h123⟩ := Ty.sig_head hp
    rw [show (bs e.sig).data.toList = e.sig from rfl, hc] at hs
    exact absurd (List.cons.inj hs).1 h123
set_option maxRecDepth 100000 in
set_option maxHeartbeats 6400000 in
theorem fmt_list {F H : Nat → List UInt8} (n : Int) (e : Ty) (kids : List V) (hT : HT (.mk 97 n (bs e.sig) kids) (.arr e)) (hp : e.plain) (hoke : e.ok 32 32 32) (h254 : e.sig.length ≤ 254) (hlen : kids.length ≤ 1000) (hk : ∀ v ∈ kids, HT v e) (hwl : ∀ v ∈ kids, (writ F H v).length ≤ 2000000) (hwn : ∀ v ∈ kids, writ F H v ≠ []) (ih : ∀ v ∈ kids, FmtV F H v e) : FmtV F H (.mk 97 n (bs e.sig) kids) (.arr e) := by
  intro S u y w hw hA
  have hA0 := hA
  obtain ⟨ys, b, A, cap, hl, rfl, rfl, hc1, hc2, hbw, hx1, hrow⟩ := arr_open hp hA
  clear hA
  rw [show bs (Ty.sig (.arr e)) = bs (97 :: e.sig) from rfl]
  have hwa : ∀ o, Below w.heap.size w (w.alloc o) := fun o => (Below.refl w.heap.size w).alloc (Nat.le_refl _) o
  have hV := fun o => valueOf_calls hT (by simp [Ty.sig]; omega) S _ _ _ (hA0.below (hwa o))
  rw [show zty (.arr e) = 91 :: zty e from rfl] at hV
  go_enter Tryz.func51, Tryz.ntmps51
  go_wp2_with fail
  refine (hV _).mono ?_
  rintro _ w1 ⟨rfl, hb1⟩
  have hB1 := (hwa _).trans (hb1.mono (hwa _).size)
  clear hV hb1
  have hKd : ∀ w, Calls Tryz.prog 80 #[.agg #[.iface 89 (.pointer (some ⟨b, 0, none⟩)), .string (bs (91 :: zty e))]] w fun e w' => e = .returned (.int .i64 16) ∧ Below w.heap.size w w' := fun w => vKind_calls 89 _ 91 (by decide) (zty e) w
  go_wp2_with fail
  refine (hKd _).mono ?_
  rintro _ w2 ⟨rfl, hb2⟩
  have hP : (w1.alloc (.cells #[.iface 89 (.pointer (some ⟨b, 0, none⟩)), .string (bs (91 :: zty e))] 83)).heap[w1.heap.size]? = _ := heap_alloc_new w1 _
  have hB1' : Below w.heap.size w (w1.alloc (.cells #[.iface 89 (.pointer (some ⟨b, 0, none⟩)), .string (bs (91 :: zty e))] 83)) := hB1.alloc hB1.size _
  have hB2 := hB1'.trans (hb2.mono hB1'.size)
  have hP2 := (hb2.block _ (Array.getElem?_eq_some_iff.1 hP).1).trans hP
  clear hb2 hP hB1 hB1' hKd
  generalize w1.heap.size = p at *
  clear w1
  have q0 : w2.cell? ⟨p, 0, none⟩ = some (.iface 89 (.pointer (some ⟨b, 0, none⟩))) := by rw [cell_of_row _ _ _ _ _ _ hP2]; rfl
  have q1 : w2.cell? ⟨p, 1, none⟩ = some (.string (bs (91 :: zty e))) := by rw [cell_of_row _ _ _ _ _ _ hP2]; rfl
  have hL : ∀ w', Below w.heap.size w w' → Calls Tryz.prog 81 #[.agg #[.iface 89 (.pointer (some ⟨b, 0, none⟩)), .string (bs (91 :: zty e))]] w' fun e w'' => e = .returned (.int .i64 kids.length) ∧ Below w'.heap.size w' w'' :=
    fun w' hb => lenList_calls b A kids.length cap (91 :: zty e) w' (Nat.lt_of_lt_of_le hbw hb.size) (cell_keep hb.block hx1)
  go_wp2_with fail
  refine (hL _ hB2).mono ?_
  rintro _ w3 ⟨rfl, hb3⟩
  have hB3 := hB2.trans (hb3.mono hB2.size)
  have hP3 := (hb3.block _ (Array.getElem?_eq_some_iff.1 hP2).1).trans hP2
  clear hb3 q0 q1 hP2 hB2
  by_cases hk0 : kids = []
  · subst hk0
    go_wp2_with fail
    go_ret2
    refine ⟨?_, hB3⟩
    have e1 : writ F H (.mk 97 n (bs e.sig) []) = [91, 93] := by
      rw [writ_arr, if_neg ?_]
      · simp [writs, joinT]
      · obtain ⟨c, r, hc, _, _, h123⟩ := Ty.sig_head hp
        rw [show (bs e.sig).data.toList = e.sig from rfl, hc]
        simpa using h123
    rw [e1]; rfl
  have hkz : ((kids.length : Int) == 0) = false := by
    have := List.length_pos_iff.2 hk0
    rw [beq_eq_false_iff_ne]; omega
  have HK0 := Lib.hid hk0
  clear hk0
  have hcv := fun w => Lib.run_convert_bytes_const (P := Tryz.prog) w 46 5 #[.int .u8 91] 1 1 Tryz.underlying46 Tryz.underlying5
  obtain ⟨g, rfl, hgw, hys⟩ : ∃ g, A = some ⟨g, 0, none⟩ ∧ g < w.heap.size ∧ ∀ (j : Nat) (y : Value), ys[j]? = some y → w.cell? ⟨g, j, none⟩ = some y := by
    rcases hrow with h0 | ⟨g, h1, _, h2, h3⟩
    · have := hl.length; rw [h0] at this; exact absurd (List.eq_nil_of_length_eq_zero this.symm) HK0.out
    · exact ⟨g, h1, h2, h3⟩
  have hLK : LK F H kids w p (w3.heap.size + 1) (.iface 89 (.pointer (some ⟨b, 0, none⟩))) (.string (bs (91 :: zty e))) 0 _ := marked_new hB3 hP3
  go_wp2_with (go_at_call 82; refine (nb_calls _ _).mono ?_; rintro _ w4 ⟨rfl, rfl⟩)
  generalize w3.heap.size + 1 = q at *
  clear hcv hP3 hB3
  go_loopw [7, 9] (fun un i wr => ∃ j : Nat, j ≤ kids.length ∧ un = .bool (tellsAll (kids.take j)) ∧ i = .int .i64 j ∧ LK F H kids w p q (.iface 89 (.pointer (some ⟨b, 0, none⟩))) (.string (bs (91 :: zty e))) j wr) (fun _ i _ => kids.length - (intOf i).toNat)
  case atStart => exact ⟨0, Nat.zero_le _, rfl, rfl, hLK⟩
  case round =>
    clear hLK
    obtain ⟨j, hj, rfl, rfl, hK⟩ := hrel
    obtain ⟨q0, q1⟩ := hK.c0
    have hj63 : (j : Int) + 1 ≤ 1001 := by omega
    go_wp2_with fail
    refine (hL _ hK.bel).mono ?_
    rintro _ wa ⟨rfl, hba⟩
    have hKa := hK.below hba
    clear hK hba q0 q1
    obtain ⟨q0, q1⟩ := hKa.c0
    by_cases hlt : j < kids.length
    · have hltd : decide ((j : Int) < (kids.length : Int)) = true := by simp; omega
      obtain ⟨y0, hy0, hAy⟩ := hl.at_ j _ (List.getElem?_eq_getElem hlt)
      have hmem : kids[j] ∈ kids := List.getElem_mem hlt
      obtain ⟨u, y, rfl⟩ := hAy.iface (hk _ hmem).kind
      have hI : ∀ w', Below w.heap.size w w' → Calls Tryz.prog 83 #[.agg #[.iface 89 (.pointer (some ⟨b, 0, none⟩)), .string (bs (91 :: zty e))], .int .i64 j] w' fun e' w'' => e' = .returned (.agg #[.iface u y, .string (bs (zty e))]) ∧ Below w'.heap.size w' w'' :=
        fun w' hb => index_calls b g kids.length cap (zty e) j hlt hc1 u y w' (Nat.lt_of_lt_of_le hbw hb.size) (Nat.lt_of_lt_of_le hgw hb.size) (cell_keep hb.block hx1) (cell_keep hb.block (hys j _ hy0))
      have hMV : ∀ w', Below w.heap.size w w' → Calls Tryz.prog 29 #[.iface u y] w' _ := fun w' hb => makeVar_calls (hk _ hmem) hoke (by omega) S u y w' (hAy.below hb)
      have hFm : ∀ w', Below w.heap.size w w' → Calls Tryz.prog 51 #[.agg #[.string (bs e.sig), .iface u y]] w' (FmR F H kids[j] w') := fun w' hb => ih _ hmem S u y w' (hw.below hb) (hAy.below hb)
      go_wp2_with fail
      refine (hI _ hKa.bel).mono ?_
      rintro _ wb ⟨rfl, hbb⟩
      have hKb := hKa.below hbb
      clear hKa hbb q0 q1 hI
      go_wp2_with fail
      refine (iface_calls u y _ _).mono ?_
      rintro _ wc ⟨rfl, hbc⟩
      have hKc := hKb.below hbc
      clear hKb hbc
      go_wp2_with fail
      refine (hMV _ hKc.bel).mono ?_
      rintro _ wd ⟨rfl, hbd⟩
      have hKd := hKc.below hbd
      clear hKc hbd hMV
      go_wp2_with fail
      refine (hFm _ hKd.bel).mono ?_
      rintro _ we ⟨rfl, hbe⟩
      have hKe := hKd.below hbe
      clear hKd hbe hFm
      have hTn := tellsAll_take kids j hlt
      have hlA := listAt_len hlen hwl j hj
      have hln := hwl _ hmem
      have hS1 := hKe.str (writ F H kids[j]) (hwn _ hmem) (by omega)
      have hNx := listAt_next F H kids j hlt
      clear hKe
      obtain ⟨ta, hta⟩ : ∃ ta, tellsAll (kids.take j) = ta := ⟨_, rfl⟩
      rw [hta]
      rw [hta] at hTn
      have HT1 := Lib.hid hTn
      have HN := Lib.hid hNx
      clear hTn hta hNx
      cases ta
      all_goals
        go_wp2_with fail
        refine hS1.mono ?_
        rintro _ wf ⟨⟨m1, rfl⟩, hf⟩
        clear hS1
        obtain ⟨q0, q1⟩ := hf.c0
        go_wp2_with fail
        refine (hL _ hf.bel).mono ?_
        rintro _ wg ⟨rfl, hbg⟩
        have hg := hf.below hbg
        clear hf hbg q0 q1
        by_cases hlast : j + 1 < kids.length
        · have hne : ((j : Int) != (kids.length : Int) - 1) = true := by rw [bne_iff_ne]; omega
          have HN := HN.out
          rw [if_pos hlast] at HN
          have HN := Lib.hid HN
          go_wp2_with fail
          refine (hg.str [44, 32] (by simp only [List.length_append, List.length_cons, List.length_nil]; omega)).mono ?_
          rintro _ wh ⟨⟨m2, rfl⟩, hh⟩
          clear hg
          go_wp2_with fail
          go_roundw
          case rel => exact ⟨j + 1, hlt, by rw [HT1.out]; first | rfl | simp, by go_num, hh.bel, hh.cell, .inr ⟨by omega, by rw [← HN.out]; exact hh.buf⟩⟩
          case measure => simp [intOf]; omega
        · have hne : ((j : Int) != (kids.length : Int) - 1) = false := by rw [bne_eq_false_iff_eq]; omega
          have HN := HN.out
          rw [if_neg hlast, List.append_nil] at HN
          have HN := Lib.hid HN
          go_wp2_with fail
          go_roundw
          case rel => exact ⟨j + 1, hlt, by rw [HT1.out]; first | rfl | simp, by go_num, hg.bel, hg.cell, .inr ⟨by omega, by rw [← HN.out]; exact hg.buf⟩⟩
          case measure => simp [intOf]; omega
    · obtain rfl : kids.length = j := by omega
      have hltd : decide ((kids.length : Int) < (kids.length : Int)) = false := by simp
      have hk0 := List.length_pos_iff.2 HK0.out
      have hbuf : LI w p q (.iface 89 (.pointer (some ⟨b, 0, none⟩))) (.string (bs (91 :: zty e))) (listAt F H kids kids.length) wa := by
        rcases hKa.buf with ⟨h0, _⟩ | ⟨_, h1⟩
        · omega
        · exact ⟨hKa.bel, hKa.cell, h1⟩
      have hlA := listAt_len hlen hwl _ (Nat.le_refl _)
      go_wp2_with fail
      refine (hbuf.chr 93 (by omega)).mono ?_
      rintro _ wb ⟨rfl, hb1⟩
      go_wp2_with fail
      refine hb1.text.mono ?_
      rintro _ wc ⟨rfl, hc⟩
      go_wp2_with fail
      go_ret2
      refine ⟨?_, hc.bel⟩
      show Ending.returned (.tuple #[.string ⟨(listAt F H kids kids.length ++ [93]).toArray⟩, .bool (tellsAll kids)]) = _
      have e1 : listAt F H kids kids.length ++ [93] = writ F H (.mk 97 n (bs e.sig) kids) := by
        rw [writ_arr, if_neg ?_]
        · unfold listAt
          rw [if_neg (by omega), List.take_of_length_le (by rw [writs_length]; exact Nat.le_refl _)]
          simp
        · obtain ⟨c, r, hc, _, _, h123⟩ := Ty.sig_head hp
          rw [show (bs e.sig).data.toList = e.sig from rfl, hc]
          simpa using h123
      have e2 : tells (.mk 97 n (bs e.sig) kids) = tellsAll kids := by simp [tells, hk0]
      rw [e1, e2]
end Go.Proofs.YtjbpphomlmlmaaaGreatDoor
