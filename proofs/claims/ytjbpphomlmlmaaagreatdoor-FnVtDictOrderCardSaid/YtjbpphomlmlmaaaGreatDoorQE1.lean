/- Matching brackets in signatures. -/
import Derived.Test.YtjbpphomlmlmaaaGreatDoorQD6
import Derived.Laws.RangeString
namespace Go.Proofs.YtjbpphomlmlmaaaGreatDoor
open Go.RowKit
set_option linter.unusedVariables false
def step1 (L R c : UInt8) : Int := if c = L then 1 else if c = R then -1 else 0
def bal (L R : UInt8) : List UInt8 → Int
  | [] => 0
  | c :: r => step1 L R c + bal L R r
theorem bal_append (L R : UInt8) (a b : List UInt8) : bal L R (a ++ b) = bal L R a + bal L R b := by
  induction a with
  | nil => simp [bal]
  | cons c a ih => simp [bal, ih]; omega
def Bal (L R : UInt8) (l : List UInt8) : Prop := bal L R l = 0 ∧ ∀ j, 0 ≤ bal L R (l.take j)
theorem Bal.nil (L R : UInt8) : Bal L R [] := ⟨rfl, fun j => by simp [bal]⟩
theorem Bal.append {L R : UInt8} {a b : List UInt8} (h : Bal L R a) (k : Bal L R b) : Bal L R (a ++ b) := by
  refine ⟨by rw [bal_append, h.1, k.1]; rfl, fun j => ?_⟩
  rw [List.take_append, bal_append]
  have := h.2 j
  have := k.2 (j - a.length)
  omega
theorem Bal.cons {L R c : UInt8} {l : List UInt8} (h1 : c ≠ L) (h2 : c ≠ R) (h : Bal L R l) : Bal L R (c :: l) := by
  have hs : step1 L R c = 0 := by simp [step1, h1, h2]
  refine ⟨by simp [bal, hs, h.1], fun j => ?_⟩
  cases j with
  | zero => simp [bal]
  | succ j => simp only [List.take_succ_cons, bal, hs]; have := h.2 j; omega
theorem Bal.wrap {L R : UInt8} {l : List UInt8} (hne : R ≠ L) (h : Bal L R l) : Bal L R (L :: (l ++ [R])) := by
  have h1 : step1 L R L = 1 := by simp [step1]
  have h2 : step1 L R R = -1 := by simp [step1, hne]
  refine ⟨by simp [bal, bal_append, h1, h2, h.1], fun j => ?_⟩
  cases j with
  | zero => simp [bal]
  | succ j =>
    simp only [List.take_succ_cons, bal, h1, List.take_append, bal_append]
    have := h.2 j
    have h3 : -1 ≤ bal L R ([R].take (j - l.length)) := by
      cases hj : j - l.length with
      | zero => simp [bal]
      | succ m => simp [bal, h2]
    omega
/-- Behind the opening bracket the count stays above nought till the closing one. -/
theorem Bal.inside {L R : UInt8} {l : List UInt8} (h : Bal L R l) (r : List UInt8) (j : Nat) (hj : j ≤ l.length) : 0 < bal L R ((L :: (l ++ r)).take (j + 1)) := by
  have h1 : step1 L R L = 1 := by simp [step1]
  simp only [List.take_succ_cons, bal, h1]
  rw [List.take_append_of_le_length hj]
  have := h.2 j
  omega
theorem Bal.close {L R : UInt8} (hne : R ≠ L) {l : List UInt8} (h : Bal L R l) (r : List UInt8) : bal L R ((L :: (l ++ R :: r)).take (l.length + 2)) = 0 := by
  have h1 : step1 L R L = 1 := by simp [step1]
  have h2 : step1 L R R = -1 := by simp [step1, hne]
  rw [show L :: (l ++ R :: r) = (L :: (l ++ [R])) ++ r by simp, List.take_left' (by simp)]
  simp [bal, bal_append, h1, h2, h.1]
mutual
theorem bal_curly : ∀ (t : Ty), t.plain → Bal 123 125 t.sig
  | .basic c, h => by
    have := basic_ne h
    exact Bal.cons this.2.2.2.2.1 this.2.2.2.2.2 (Bal.nil _ _)
  | .var, _ => Bal.cons (by decide) (by decide) (Bal.nil _ _)
  | .arr t, h => Bal.cons (by decide) (by decide) (bal_curly t h)
  | .dict k t, h => by
    have hk := basic_ne h.1
    have := bal_curly t h.2
    exact Bal.cons (by decide) (by decide) (Bal.wrap (l := k :: t.sig) (by decide) (Bal.cons hk.2.2.2.2.1 hk.2.2.2.2.2 this))
  | .str ts, h => Bal.cons (by decide) (by decide) (Bal.append (bal_curlys ts h) (Bal.cons (by decide) (by decide) (Bal.nil _ _)))
theorem bal_curlys : ∀ (ts : List Ty), Ty.plains ts → Bal 123 125 (Ty.sigs ts)
  | [], _ => Bal.nil _ _
  | t :: ts, h => Bal.append (bal_curly t h.1) (bal_curlys ts h.2)
end
mutual
theorem bal_round : ∀ (t : Ty), t.plain → Bal 40 41 t.sig
  | .basic c, h => by
    have := basic_ne h
    exact Bal.cons this.2.2.1 this.2.2.2.1 (Bal.nil _ _)
  | .var, _ => Bal.cons (by decide) (by decide) (Bal.nil _ _)
  | .arr t, h => Bal.cons (by decide) (by decide) (bal_round t h)
  | .dict k t, h => by
    have hk := basic_ne h.1
    exact Bal.cons (by decide) (by decide) (Bal.cons (by decide) (by decide) (Bal.cons hk.2.2.1 hk.2.2.2.1 (Bal.append (bal_round t h.2) (Bal.cons (by decide) (by decide) (Bal.nil _ _)))))
  | .str ts, h => Bal.wrap (by decide) (bal_rounds ts h)
theorem bal_rounds : ∀ (ts : List Ty), Ty.plains ts → Bal 40 41 (Ty.sigs ts)
  | [], _ => Bal.nil _ _
  | t :: ts, h => Bal.append (bal_round t h.1) (bal_rounds ts h.2)
end
def Ascii (l : List UInt8) : Prop := ∀ c ∈ l, c.toNat < 128
theorem ascii_basic {c : UInt8} (h : c ∈ basicL) : c.toNat < 128 := by
  simp only [basicL, List.mem_cons, List.mem_nil_iff, or_false] at h
  rcases h with rfl | rfl | rfl | rfl | rfl | rfl | rfl | rfl | rfl | rfl | rfl | rfl | rfl <;> decide
theorem Ascii.append {a b : List UInt8} (h : Ascii a) (k : Ascii b) : Ascii (a ++ b) := fun c hc => by
  rcases List.mem_append.1 hc with hc | hc
  · exact h c hc
  · exact k c hc
theorem Ascii.cons {c : UInt8} {b : List UInt8} (h : c.toNat < 128) (k : Ascii b) : Ascii (c :: b) := fun x hx => by
  rcases List.mem_cons.1 hx with rfl | hx
  · exact h
  · exact k x hx
theorem Ascii.nil : Ascii [] := fun c hc => by cases hc
mutual
theorem ascii_ty : ∀ (t : Ty), t.plain → Ascii t.sig
  | .basic c, h => .cons (ascii_basic h) .nil
  | .var, _ => .cons (by decide) .nil
  | .arr t, h => .cons (by decide) (ascii_ty t h)
  | .dict k t, h => .cons (by decide) (.cons (by decide) (.cons (ascii_basic h.1) (.append (ascii_ty t h.2) (.cons (by decide) .nil))))
  | .str ts, h => .cons (by decide) (.append (ascii_tys ts h) (.cons (by decide) .nil))
theorem ascii_tys : ∀ (ts : List Ty), Ty.plains ts → Ascii (Ty.sigs ts)
  | [], _ => .nil
  | t :: ts, h => .append (ascii_ty t h.1) (ascii_tys ts h.2)
end
def posOf (w wr : World) : Nat := match wr.heap[w.heap.size]? with | some (.stringIter _ p) => p | _ => 0
theorem posOf_iter (w : World) (s : ByteArray) (p : Nat) : posOf w (w.iter s p) = p := by unfold posOf; rw [World.iter_heap]
theorem bal_take_succ (L R : UInt8) (l : List UInt8) (j : Nat) (hj : j < l.length) : bal L R (l.take (j + 1)) = bal L R (l.take j) + step1 L R l[j] := by
  rw [List.take_succ_eq_append_getElem hj, bal_append]; simp [bal]
theorem below_iter (w : World) (s : ByteArray) (p : Nat) : Below w.heap.size w (w.iter s p) := (Below.refl _ w).alloc (Nat.le_refl _) _
set_option maxRecDepth 100000 in
set_option maxHeartbeats 3200000 in
theorem findMatching_calls (L R : UInt8) (hne : R ≠ L) (l : List UInt8) (hA : Ascii l) (m : Nat) (hm : m < l.length) (hl : l.length < 100000) (hin : ∀ j, j < m → 0 < bal L R (l.take (j + 1))) (hend : bal L R (l.take (m + 1)) = 0) (w : World) :
    Calls Tryz.prog 144 #[.string (bs l), .int .i32 L.toNat, .int .i32 R.toNat] w fun e w' => e = .returned (.int .i64 m) ∧ Below w.heap.size w w' := by
  go_enter Tryz.func144, Tryz.ntmps144
  go_wp2_with fail
  go_loopw [7] (fun n wr => ∃ (j : Nat) (z : Int), j ≤ m ∧ n = .int .i64 z ∧ bal L R (l.take j) = z ∧ 0 ≤ z ∧ z ≤ j ∧ wr = w.iter (bs l) j) (fun n wr => l.length - posOf w wr)
  case atStart => exact ⟨0, 0, Nat.zero_le _, rfl, rfl, by omega, by omega, rfl⟩
  case round =>
    obtain ⟨j, z, hj, rfl, hz, hz0, hzj, rfl⟩ := hrel
    have hjl : j < l.length := by omega
    have hnx := fun ty => run_next_ascii (P := Tryz.prog) w (bs l) j ty (by simpa using hjl) (by rw [bs_at]; exact hA _ (List.getElem_mem hjl))
    rw [bs_at] at hnx
    have hs := bal_take_succ L R l j hjl
    rw [hz] at hs
    have hin' : j < m → 0 < bal L R (l.take (j + 1)) := hin j
    have hend' : j = m → bal L R (l.take (j + 1)) = 0 := fun h => h ▸ hend
    have hHS := Lib.hid hs
    clear hs hin hend hz
    generalize l[j] = c at *
    by_cases hcL : c = L
    · subst hcL
      have h1 : step1 c R c = 1 := by simp [step1]
      have hs := hHS.out
      rw [h1] at hs
      have hne0 : (z + 1 == 0) = false := by simp; omega
      have hmj : j ≠ m := fun h => by have := hend' h; omega
      clear hin' hend' h1 hHS
      go_wp2_with fail
      go_roundw
      case rel => exact ⟨j + 1, z + 1, by omega, rfl, hs, by omega, by simp; omega, rfl⟩
      case measure => rw [posOf_iter, posOf_iter]; omega
    · by_cases hcR : c = R
      · subst hcR
        have h1 : step1 L c c = -1 := by simp [step1, hne]
        have hs := hHS.out
        rw [h1] at hs
        have hq : ((c.toNat : Int) == (L.toNat : Int)) = false := by simp; exact fun h => hcL (u8_of_int h)
        by_cases hjm : j = m
        · subst hjm
          have := hend' rfl
          obtain rfl : z = 1 := by omega
          clear hin' hend' h1 hHS hs this
          go_wp2_with fail
          go_ret
          exact ⟨rfl, below_iter _ _ _⟩
        · have := hin' (by omega)
          have hne0 : (z - 1 == 0) = false := by simp; omega
          clear hin' hend' h1 hHS
          go_wp2_with fail
          go_roundw
          case rel => exact ⟨j + 1, z - 1, by omega, rfl, by omega, by omega, by simp; omega, rfl⟩
          case measure => rw [posOf_iter, posOf_iter]; omega
      · have h1 : step1 L R c = 0 := by simp [step1, hcL, hcR]
        have hs := hHS.out
        rw [h1] at hs
        have hq : ((c.toNat : Int) == (L.toNat : Int)) = false := by simp; exact fun h => hcL (u8_of_int h)
        have hq2 : ((c.toNat : Int) == (R.toNat : Int)) = false := by simp; exact fun h => hcR (u8_of_int h)
        by_cases hjm : j = m
        · subst hjm
          have := hend' rfl
          obtain rfl : z = 0 := by omega
          clear hin' hend' h1 hHS hs this
          go_wp2_with fail
          go_ret
          exact ⟨rfl, below_iter _ _ _⟩
        · have := hin' (by omega)
          have hne0 : (z == 0) = false := by simp; omega
          clear hin' hend' h1 hHS
          go_wp2_with fail
          go_roundw
          case rel => exact ⟨j + 1, z, by omega, rfl, by omega, by omega, by simp; omega, rfl⟩
          case measure => rw [posOf_iter, posOf_iter]; omega
end Go.Proofs.YtjbpphomlmlmaaaGreatDoor
