/- The text of a value, as a law of its kinds. -/
import Derived.Test.YtjbpphomlmlmaaaGreatDoorQD1
import Derived.Test.YtjbpphomlmlmaaaGreatDoorQC4
import Derived.Lib.QuoteLoop
import Derived.Lib.ItoaLen
namespace Go.Proofs.YtjbpphomlmlmaaaGreatDoor
open Go.RowKit
set_option linter.unusedVariables false
noncomputable section
/-- The commas and blanks between parts. -/
def joinT : List (List UInt8) → List UInt8
  | [] => []
  | [s] => s
  | s :: r => s ++ (44 :: 32 :: joinT r)
def fieldsT : List (List UInt8) → List UInt8
  | [] => []
  | [s] => s ++ [44]
  | s :: r => s ++ (44 :: 32 :: fieldsT r)
def sgn (n : Int) : Int := if n < 9223372036854775808 then n else n - 18446744073709551616
def quoteT (s : ByteArray) : List UInt8 := (strOfNums (Lib.quoteZ Lib.goPrintTabs s)).data.toList
def textOf (v : V) (s : List UInt8) : List UInt8 := if tells v then s else 64 :: (sigL v ++ (32 :: s))
def numT (F : Nat → List UInt8) (H : Nat → List UInt8) (k n : Int) : List UInt8 :=
  if k = 98 then Lib.formatBool (n != 0)
  else if k = 121 then 48 :: 120 :: H n.toNat
  else if k = 110 ∨ k = 105 ∨ k = 120 then Lib.itoa (sgn n)
  else if k = 100 then F n.toNat
  else Lib.decDigits n.toNat
mutual
def writ (F H : Nat → List UInt8) : V → List UInt8
  | .mk k n s kids =>
    if k = 115 ∨ k = 111 ∨ k = 103 then quoteT s
    else if k = 118 then 60 :: (textOf (kids.headD (.mk 0 0 s [])) ((writs F H kids).headD []) ++ [62])
    else if k = 123 then (writs F H kids).headD [] ++ (58 :: 32 :: ((writs F H kids).drop 1).headD [])
    else if k = 40 then 40 :: (fieldsT (writs F H kids) ++ [41])
    else if k = 97 then (if s.data.toList.head? = some 123 then 123 :: (joinT ((writs F H kids).mergeSort fun x y => decide (x ≤ y)) ++ [125]) else 91 :: (joinT (writs F H kids) ++ [93]))
    else numT F H k n
def writs (F H : Nat → List UInt8) : List V → List (List UInt8)
  | [] => []
  | v :: vs => writ F H v :: writs F H vs
end
theorem writs_eq (F H : Nat → List UInt8) (l : List V) : writs F H l = l.map (writ F H) := by
  induction l with
  | nil => rfl
  | cons v l ih => simp [writs, ih]
theorem joinT_len (l : List (List UInt8)) : (joinT l).length ≤ (l.map List.length).sum + 2 * l.length := by
  match l with
  | [] => simp [joinT]
  | [s] => simp [joinT]
  | s :: r :: l => have := joinT_len (r :: l); simp [joinT] at *; omega
theorem fieldsT_len (l : List (List UInt8)) : (fieldsT l).length ≤ (l.map List.length).sum + 2 * l.length := by
  match l with
  | [] => simp [fieldsT]
  | [s] => simp [fieldsT]
  | s :: r :: l => have := fieldsT_len (r :: l); simp [fieldsT] at *; omega
theorem quoteFrom_len (T : Lib.PrintTabs) : ∀ (f : Nat) (s : ByteArray), s.size ≤ f → (Lib.quoteFrom T f s).length ≤ 10 * s.size
  | f, s, hf => by
    by_cases h0 : 0 < s.size
    · rw [Lib.quoteFrom_step T f s h0 hf]
      have h1 := Lib.width_pos s 0
      have h2 := Lib.quoteStep_length_le T s
      have h3 := Lib.size_rest s (Utf8.decode s 0).2
      have h4 := quoteFrom_len T (f - 1) (s.extract (Utf8.decode s 0).2 s.size) (by omega)
      simp only [List.length_append]
      omega
    · rw [Lib.quoteFrom_end T f s h0]; simp
  termination_by f s => s.size
  decreasing_by
    have h1 := Lib.width_pos s 0
    have h3 := Lib.size_rest s (Utf8.decode s 0).2
    omega
theorem quoteT_len (s : ByteArray) : (quoteT s).length ≤ 10 * s.size + 2 := by
  have h := quoteFrom_len Lib.goPrintTabs s.size s (Nat.le_refl _)
  simp only [quoteT, strOfNums_data, List.length_map, Lib.quoteZ, List.length_cons, List.length_append, List.length_nil]
  omega
theorem quoteT_head (s : ByteArray) : (quoteT s).head? = some 34 := by
  simp [quoteT, strOfNums_data, Lib.quoteZ]
theorem sum_writs (F H : Nat → List UInt8) : ∀ (l : List V), (∀ v ∈ l, (writ F H v).length + 2 ≤ 10 * v.txt + 400 * v.cnt) → ((writs F H l).map List.length).sum + 2 * l.length ≤ 10 * V.txts l + 400 * V.cnts l
  | [], _ => by simp [writs, V.txts, V.cnts]
  | v :: vs, h => by
    have h1 := h v (by simp)
    have h2 := sum_writs F H vs fun u hu => h u (by simp [hu])
    simp only [writs, List.map_cons, List.sum_cons, List.length_cons, V.txts, V.cnts]
    omega
theorem writs_length (F H : Nat → List UInt8) (l : List V) : (writs F H l).length = l.length := by rw [writs_eq]; simp
theorem sort_sum (l : List (List UInt8)) : ((l.mergeSort fun x y => decide (x ≤ y)).map List.length).sum = (l.map List.length).sum :=
  List.Perm.sum_nat ((List.mergeSort_perm l _).map _)
theorem sigL_le255 {v : V} {t : Ty} (h : HT v t) (h255 : t.sig.length ≤ 255) : (sigL v).length ≤ 255 := by rw [h.facts.1]; exact h255
theorem numT_len {F H : Nat → List UInt8} (hF : ∀ b, (F b).length ≤ 64) (hH : ∀ u, (H u).length ≤ 2) (k n : Int) (h0 : 0 ≤ n) (h1 : n < 18446744073709551616) : (numT F H k n).length ≤ 64 := by
  unfold numT
  split
  · cases (n != 0) <;> decide
  · split
    · have := hH n.toNat; simp; omega
    · split
      · have : (Lib.itoa (sgn n)).length ≤ 21 := Lib.itoa_length_le _ (by unfold sgn; split <;> omega) (by unfold sgn; split <;> omega)
        omega
      · split
        · exact hF _
        · have := nDigits_le n.toNat (by omega)
          rw [Lib.decDigits_length]; omega
theorem textOf_len (v : V) (l : List UInt8) (h : (sigL v).length ≤ 255) : (textOf v l).length ≤ l.length + 257 := by
  unfold textOf
  by_cases ht : tells v = true
  · rw [if_pos ht]; omega
  · rw [if_neg ht]; simp; omega
/-- A text is at most so long. -/
theorem writ_len {F H : Nat → List UInt8} (hF : ∀ b, (F b).length ≤ 64) (hH : ∀ u, (H u).length ≤ 2) {v : V} {t : Ty} (h : HT v t) : (writ F H v).length + 2 ≤ 10 * v.txt + 400 * v.cnt := by
  induction h with
  | num k n s hk hr h0 h1 _ =>
    have := numT_len hF hH k n h0 h1
    have h5 : writ F H (.mk k n s []) = numT F H k n := by
      simp only [writ]
      rw [if_neg (by omega), if_neg (by omega), if_neg (by omega), if_neg (by omega), if_neg (by omega)]
    rw [h5]
    simp only [V.txt, V.cnt, V.cnts, V.txts]
    omega
  | txt k n s hk hr =>
    have h5 : writ F H (.mk k n s []) = quoteT s := by
      simp only [writ]
      rw [if_pos hk]
    have := quoteT_len s
    rw [h5]
    simp only [V.txt, V.cnt, V.cnts, V.txts]
    omega
  | var n s v t hv ho h255 hk hs ih =>
    have := textOf_len v (writ F H v) (sigL_le255 hv h255)
    simp only [writ]
    rw [if_neg (by decide), if_pos trivial]
    simp only [writs, List.headD_cons, List.length_cons, List.length_append, V.txt, V.cnt, V.cnts, V.txts, List.length_nil]
    omega
  | str n s kids ts hne hlen hl hk ih =>
    have hs := sum_writs F H kids fun v hv => by
      obtain ⟨j, hj, rfl⟩ := List.mem_iff_getElem.1 hv
      exact ih j _ _ (List.getElem?_eq_getElem hj) (List.getElem?_eq_getElem (by omega))
    have hf := fieldsT_len (writs F H kids)
    rw [writs_length] at hf
    simp only [writ]
    rw [if_neg (by decide), if_neg (by decide), if_neg (by decide), if_pos trivial]
    simp only [List.length_cons, List.length_append, V.txt, V.cnt, List.length_nil]
    omega
  | arr n s kids e hs _ hlen _ _ hk ih =>
    have hs := sum_writs F H kids ih
    have hf := joinT_len (writs F H kids)
    have hf2 := joinT_len ((writs F H kids).mergeSort fun x y => decide (x ≤ y))
    rw [sort_sum, List.length_mergeSort, writs_length] at hf2
    rw [writs_length] at hf
    simp only [writ]
    rw [if_neg (by decide), if_neg (by decide), if_neg (by decide), if_neg (by decide), if_pos trivial]
    simp only [V.txt, V.cnt]
    split <;> simp only [List.length_cons, List.length_append, List.length_nil] <;> omega
  | dict n s kids kc e hs _ hlen _ _ _ _ _ hform ha hb iha ihb =>
    have hs := sum_writs F H kids fun v hv => by
      obtain ⟨n', s', a, b, rfl⟩ := hform v hv
      have h1 := iha n' s' a b hv
      have h2 := ihb n' s' a b hv
      simp only [writ]
      rw [if_neg (by decide), if_neg (by decide), if_pos trivial]
      simp only [writs, List.headD_cons, List.drop_succ_cons, List.drop_zero, List.length_append, List.length_cons, V.txt, V.cnt, V.txts, V.cnts]
      omega
    have hf := joinT_len (writs F H kids)
    have hf2 := joinT_len ((writs F H kids).mergeSort fun x y => decide (x ≤ y))
    rw [sort_sum, List.length_mergeSort, writs_length] at hf2
    rw [writs_length] at hf
    simp only [writ]
    rw [if_neg (by decide), if_neg (by decide), if_neg (by decide), if_neg (by decide), if_pos trivial]
    simp only [V.txt, V.cnt]
    split <;> simp only [List.length_cons, List.length_append, List.length_nil] <;> omega
theorem dd_digit (u : Nat) : ∀ c ∈ Lib.decDigits u, 48 ≤ c.toNat ∧ c.toNat ≤ 57 := by
  induction u using Nat.strongRecOn with
  | _ u ih =>
    intro c hc
    rw [Lib.decDigits] at hc
    split at hc
    · rename_i h
      obtain rfl : c = UInt8.ofNat (48 + u) := by simpa using hc
      rw [UInt8.toNat_ofNat']
      omega
    · rename_i h
      rcases List.mem_append.1 hc with hc | hc
      · exact ih (u / 10) (by omega) c hc
      · obtain rfl : c = UInt8.ofNat (48 + u % 10) := by simpa using hc
        rw [UInt8.toNat_ofNat']
        omega
theorem dd_ne (u : Nat) : Lib.decDigits u ≠ [] := by
  rw [Lib.decDigits]
  split <;> simp
theorem itoa_head (n : Int) : Lib.itoa n ≠ [] ∧ (Lib.itoa n).head? ≠ some 64 := by
  have hd : ∀ u, (Lib.decDigits u).head? ≠ some 64 := fun u hc => by
    have := dd_digit u 64 (List.mem_of_head? hc)
    have : (64 : UInt8).toNat = 64 := rfl
    omega
  unfold Lib.itoa
  split
  · exact ⟨by simp, by simp⟩
  · exact ⟨dd_ne _, hd _⟩
theorem fb_head (b : Bool) : Lib.formatBool b ≠ [] ∧ (Lib.formatBool b).head? ≠ some 64 := by cases b <;> decide
theorem writ_num (F H : Nat → List UInt8) {k n : Int} {s : ByteArray} (hk : k = 121 ∨ k = 98 ∨ k = 110 ∨ k = 113 ∨ k = 105 ∨ k = 117 ∨ k = 120 ∨ k = 116 ∨ k = 100 ∨ k = 104) : writ F H (.mk k n s []) = numT F H k n := by
  simp only [writ]
  rw [if_neg (by omega), if_neg (by omega), if_neg (by omega), if_neg (by omega), if_neg (by omega)]
theorem writ_txt (F H : Nat → List UInt8) {k n : Int} {s : ByteArray} (hk : k = 115 ∨ k = 111 ∨ k = 103) : writ F H (.mk k n s []) = quoteT s := by
  simp only [writ]
  rw [if_pos hk]
theorem writ_var (F H : Nat → List UInt8) (n : Int) (s : ByteArray) (v : V) : writ F H (.mk 118 n s [v]) = 60 :: (textOf v (writ F H v) ++ [62]) := by
  simp only [writ]
  rw [if_neg (by decide), if_pos trivial]
  simp [writs]
theorem writ_str (F H : Nat → List UInt8) (n : Int) (s : ByteArray) (kids : List V) : writ F H (.mk 40 n s kids) = 40 :: (fieldsT (writs F H kids) ++ [41]) := by
  simp only [writ]
  rw [if_neg (by decide), if_neg (by decide), if_neg (by decide), if_pos trivial]
theorem writ_ent (F H : Nat → List UInt8) (n : Int) (s : ByteArray) (a b : V) : writ F H (.mk 123 n s [a, b]) = writ F H a ++ (58 :: 32 :: writ F H b) := by
  simp only [writ]
  rw [if_neg (by decide), if_neg (by decide), if_pos trivial]
  simp [writs]
theorem writ_arr (F H : Nat → List UInt8) (n : Int) (s : ByteArray) (kids : List V) : writ F H (.mk 97 n s kids) = if s.data.toList.head? = some 123 then 123 :: (joinT ((writs F H kids).mergeSort fun x y => decide (x ≤ y)) ++ [125]) else 91 :: (joinT (writs F H kids) ++ [93]) := by
  simp only [writ]
  rw [if_neg (by decide), if_neg (by decide), if_neg (by decide), if_neg (by decide), if_pos trivial]
theorem writ_ne {F H : Nat → List UInt8} (hF : ∀ b, b < 18446744073709551616 → finB b = true → F b ≠ []) {v : V} {t : Ty} (h : HT v t) : writ F H v ≠ [] := by
  cases h with
  | num k n s hk hr h0 h1 hf =>
    rw [writ_num F H hk]
    unfold numT
    split
    · exact (fb_head _).1
    · split
      · simp
      · split
        · exact (itoa_head _).1
        · split
          · rename_i h100; exact hF _ (by omega) (hf h100)
          · exact dd_ne _
  | txt k n s hk hr => rw [writ_txt F H hk]; intro hc; have := quoteT_head s; rw [hc] at this; simp at this
  | var n s v t _ _ _ _ _ => rw [writ_var]; simp
  | str n s kids ts _ _ _ _ => rw [writ_str]; simp
  | arr n s kids e _ _ _ _ _ _ => rw [writ_arr]; split <;> simp
  | dict n s kids kc e _ _ _ _ _ _ _ _ _ _ _ => rw [writ_arr]; split <;> simp
theorem writ_no_at {F H : Nat → List UInt8} {v : V} {t : Ty} (h : HT v t) (ht : tells v = true) : (writ F H v).head? ≠ some 64 := by
  cases h with
  | num k n s hk hr h0 h1 hf =>
    rw [writ_num F H hk]
    have hk2 : k = 98 ∨ k = 105 := by
      simp only [tells] at ht
      split at ht
      · omega
      · split at ht
        · omega
        · cases ht
    unfold numT
    rcases hk2 with rfl | rfl
    · rw [if_pos rfl]; exact (fb_head _).2
    · rw [if_neg (by decide), if_neg (by decide), if_pos (by decide)]; exact (itoa_head _).2
  | txt k n s hk hr => rw [writ_txt F H hk, quoteT_head]; decide
  | var n s v t _ _ _ _ _ => rw [writ_var]; simp
  | str n s kids ts _ _ _ _ => rw [writ_str]; simp
  | arr n s kids e _ _ _ _ _ _ => rw [writ_arr]; split <;> simp
  | dict n s kids kc e _ _ _ _ _ _ _ _ _ _ _ => rw [writ_arr]; split <;> simp
end
end Go.Proofs.YtjbpphomlmlmaaaGreatDoor
