/- Shared words of the proofs: the tree that a value of impl.Val is, how it lies in memory, and small laws on worlds. -/
import Derived.Test.YtjbpphomlmlmaaaGreatDoorProg
import Derived.WalkKit
import Derived.ProofKit
import Derived.Lib.Hide
import Derived.Deep.AppendLies
import Derived.Deep.RegionHeld3
import Derived.Deep.QuietTactic
import Derived.BigQuiet
import Derived.WalkSpells
import Derived.WalkLawsBesides
import Derived.Deep.LoopGhost
import Derived.BigGuardPart
import Derived.Lib.SlBytesConst
import Derived.Lib.IndexBytes
namespace Go.Proofs.YtjbpphomlmlmaaaGreatDoor
open Go.RowKit

/-- A value of D-Bus as the law gets it: kind, number, text, kids. -/
inductive V where
  | mk (k : Int) (n : Int) (s : ByteArray) (kids : List V)

def V.k : V → Int | .mk k _ _ _ => k
def V.n : V → Int | .mk _ n _ _ => n
def V.s : V → ByteArray | .mk _ _ s _ => s
def V.kids : V → List V | .mk _ _ _ l => l

/- How a tree lies in memory: the four cells of a struct, and behind its slice the kids, four cells each, in blocks that S lets. -/
mutual
def Rep (S : Nat → Prop) (w : World) : V → Value → Prop
  | .mk k n s kids, x => ∃ A cap, x = .agg #[.int .u8 k, .int .u64 n, .string s, .slice A kids.length cap] ∧ kids.length ≤ cap ∧ cap ≤ 9223372036854775807 ∧
      (0 ≤ k ∧ k ≤ 255) ∧ (0 ≤ n ∧ n < 18446744073709551616) ∧ s.size ≤ 140737488351232 ∧ Reps S w kids A 0
def Reps (S : Nat → Prop) (w : World) : List V → Option Addr → Nat → Prop
  | [], _, _ => True
  | v :: vs, A, i => (∃ b o c0 c1 c2 c3, A = some ⟨b, o, none⟩ ∧ S b ∧ w.cell? ⟨b, o + i * 4, none⟩ = some c0 ∧ w.cell? ⟨b, o + i * 4 + 1, none⟩ = some c1 ∧ w.cell? ⟨b, o + i * 4 + 2, none⟩ = some c2 ∧ w.cell? ⟨b, o + i * 4 + 3, none⟩ = some c3 ∧
      Rep S w v (.agg #[c0, c1, c2, c3])) ∧ Reps S w vs A (i + 1)
end

theorem Reps.at_ {S : Nat → Prop} {w : World} : ∀ {kids : List V} {A : Option Addr} {i : Nat}, Reps S w kids A i → ∀ (j : Nat) (v : V), kids[j]? = some v →
    ∃ b o c0 c1 c2 c3, A = some ⟨b, o, none⟩ ∧ S b ∧ w.cell? ⟨b, o + (i + j) * 4, none⟩ = some c0 ∧ w.cell? ⟨b, o + (i + j) * 4 + 1, none⟩ = some c1 ∧ w.cell? ⟨b, o + (i + j) * 4 + 2, none⟩ = some c2 ∧ w.cell? ⟨b, o + (i + j) * 4 + 3, none⟩ = some c3 ∧
      Rep S w v (.agg #[c0, c1, c2, c3])
  | [], _, _, _, j, v, hv => by simp at hv
  | x :: xs, A, i, h, 0, v, hv => by
    simp only [Reps] at h
    obtain rfl : x = v := by simpa using hv
    simpa using h.1
  | x :: xs, A, i, h, j + 1, v, hv => by
    simp only [Reps] at h
    have := Reps.at_ h.2 j v (by simpa using hv)
    simpa [Nat.add_assoc, Nat.add_comm 1 j] using this

theorem cell_keep {w w' : World} (h : ∀ b, b < w.heap.size → w'.heap[b]? = w.heap[b]?) {a : Addr} {v : Value} (hc : w.cell? a = some v) : w'.cell? a = some v :=
  (World.cell?_of_block (h a.block (World.block_lt_of_cell? w a hc))).trans hc

mutual
theorem Rep.keep {S : Nat → Prop} {w w' : World} (h : ∀ b, b < w.heap.size → S b → w'.heap[b]? = w.heap[b]?) : ∀ {v : V} {x : Value}, Rep S w v x → Rep S w' v x
  | .mk k n s kids, x, hr => by
    simp only [Rep] at hr ⊢
    obtain ⟨A, cap, h1, h2, h3, h4, h5, h6, h7⟩ := hr
    exact ⟨A, cap, h1, h2, h3, h4, h5, h6, Reps.keep h h7⟩
theorem Reps.keep {S : Nat → Prop} {w w' : World} (h : ∀ b, b < w.heap.size → S b → w'.heap[b]? = w.heap[b]?) : ∀ {vs : List V} {A : Option Addr} {i : Nat}, Reps S w vs A i → Reps S w' vs A i
  | [], _, _, _ => by simp only [Reps]
  | v :: vs, A, i, hr => by
    simp only [Reps] at hr ⊢
    obtain ⟨⟨b, o, c0, c1, c2, c3, hA, hS, h0, h1, h2, h3, hv⟩, hrest⟩ := hr
    have hb : w'.heap[b]? = w.heap[b]? := h b (World.block_lt_of_cell? w _ h0) hS
    refine ⟨⟨b, o, c0, c1, c2, c3, hA, hS, ?_, ?_, ?_, ?_, Rep.keep h hv⟩, Reps.keep h hrest⟩
    · exact (World.cell?_of_block (a := ⟨b, _, none⟩) hb).trans h0
    · exact (World.cell?_of_block (a := ⟨b, _, none⟩) hb).trans h1
    · exact (World.cell?_of_block (a := ⟨b, _, none⟩) hb).trans h2
    · exact (World.cell?_of_block (a := ⟨b, _, none⟩) hb).trans h3
end

mutual
theorem Rep.mono {S S' : Nat → Prop} {w : World} (h : ∀ b, b < w.heap.size → S b → S' b) : ∀ {v : V} {x : Value}, Rep S w v x → Rep S' w v x
  | .mk k n s kids, x, hr => by
    simp only [Rep] at hr ⊢
    obtain ⟨A, cap, h1, h2, h3, h4, h5, h6, h7⟩ := hr
    exact ⟨A, cap, h1, h2, h3, h4, h5, h6, Reps.mono h h7⟩
theorem Reps.mono {S S' : Nat → Prop} {w : World} (h : ∀ b, b < w.heap.size → S b → S' b) : ∀ {vs : List V} {A : Option Addr} {i : Nat}, Reps S w vs A i → Reps S' w vs A i
  | [], _, _, _ => by simp only [Reps]
  | v :: vs, A, i, hr => by
    simp only [Reps] at hr ⊢
    obtain ⟨⟨b, o, c0, c1, c2, c3, hA, hS, h0, h1, h2, h3, hv⟩, hrest⟩ := hr
    exact ⟨⟨b, o, c0, c1, c2, c3, hA, h b (World.block_lt_of_cell? w _ h0) hS, h0, h1, h2, h3, Rep.mono h hv⟩, Reps.mono h hrest⟩
end

theorem Rep.below {S : Nat → Prop} {w w' : World} {v : V} {x : Value} (h : Rep S w v x) (hb : Below w.heap.size w w') : Rep S w' v x := h.keep fun b hlt _ => hb.block b hlt

/-- A kid's four cells, opened. -/
theorem Reps.kid {S : Nat → Prop} {w : World} {kids : List V} {A : Option Addr} (h : Reps S w kids A 0) (j : Nat) (hj : j < kids.length) :
    ∃ b o A' cap', A = some ⟨b, o, none⟩ ∧ S b ∧ w.cell? ⟨b, o + j * 4, none⟩ = some (.int .u8 kids[j].k) ∧ w.cell? ⟨b, o + j * 4 + 1, none⟩ = some (.int .u64 kids[j].n) ∧ w.cell? ⟨b, o + j * 4 + 2, none⟩ = some (.string kids[j].s) ∧ w.cell? ⟨b, o + j * 4 + 3, none⟩ = some (.slice A' kids[j].kids.length cap') ∧
      Rep S w kids[j] (.agg #[.int .u8 kids[j].k, .int .u64 kids[j].n, .string kids[j].s, .slice A' kids[j].kids.length cap']) := by
  obtain ⟨b, o, c0, c1, c2, c3, hA, hS, h0, h1, h2, h3, hv⟩ := h.at_ j _ (List.getElem?_eq_getElem hj)
  simp only [Nat.zero_add] at h0 h1 h2 h3
  generalize kids[j] = v at hv ⊢
  obtain ⟨k, n, s, l⟩ := v
  have hv' := hv
  simp only [Rep] at hv'
  obtain ⟨A', cap', he, _⟩ := hv'
  simp only [Value.agg.injEq, Array.mk.injEq, List.cons.injEq, and_true] at he
  obtain ⟨rfl, rfl, rfl, rfl⟩ := he
  exact ⟨b, o, A', cap', hA, hS, h0, h1, h2, h3, hv⟩

theorem sizeOf_kid {k n : Int} {s : ByteArray} {kids : List V} {N j : Nat} (h : SizeOf.sizeOf (V.mk k n s kids) < N + 1) (hj : j < kids.length) : SizeOf.sizeOf kids[j] < N := by
  have := List.sizeOf_lt_of_mem (List.getElem_mem hj)
  simp at h
  omega

/-- 'Below' goes on from call to call. -/
theorem below_then {B : Nat} {w w1 w2 : World} (h : Below B w w1) (hB : B ≤ w1.heap.size) (k : Below w1.heap.size w1 w2) : Below B w w2 :=
  h.trans (k.mono hB)
end Go.Proofs.YtjbpphomlmlmaaaGreatDoor

/- Contracts of small functions of the reference: letters, ranges, paths, keys. -/
namespace Go.Proofs.YtjbpphomlmlmaaaGreatDoor
open Go.RowKit
set_option linter.unusedVariables false
/-- It answers some bool; the world is as it was. -/
def SomeBool (w : World) (e : Ending) (w' : World) : Prop := ∃ b : Bool, e = .returned (.bool b) ∧ w = w'
theorem SomeBool.mk {w : World} (b : Bool) : SomeBool w (.returned (.bool b)) w := ⟨b, rfl, rfl⟩
/-- It answers some bool; new blocks alone. -/
def SomeBoolB (w : World) (e : Ending) (w' : World) : Prop := ∃ b : Bool, e = .returned (.bool b) ∧ Below w.heap.size w w'
theorem SomeBoolB.mk {w w' : World} (b : Bool) (h : Below w.heap.size w w') : SomeBoolB w (.returned (.bool b)) w' := ⟨b, rfl, h⟩

theorem toList_size (s : ByteArray) : s.toList.length = s.size := by rw [ByteArray.toList_eq]; rfl
theorem notEmpty_of_size {s : ByteArray} (h : 0 < s.size) : s.toList.isEmpty = false := by
  rw [ByteArray.toList_eq]
  cases hl : s.data.toList with
  | nil => exact absurd (congrArg List.length hl) (by simp; intro h0; simp [ByteArray.size, h0] at h)
  | cons _ _ => rfl
theorem empty_of_size {s : ByteArray} (h : s.size = 0) : s = ByteArray.empty := by
  cases s with | mk d => simp [ByteArray.size] at h; subst h; rfl

def basicB (c : Int) : Bool := c == 121 || c == 98 || c == 110 || c == 113 || c == 105 || c == 117 || c == 120 || c == 116 || c == 100 || c == 115 || c == 111 || c == 103 || c == 104
theorem basic_calls (c : Int) (w : World) : Calls Tryz.prog 43 #[.int .u8 c] w fun e w' => e = .returned (.bool (basicB c)) ∧ w = w' := by
  go_enter Tryz.func43, Tryz.ntmps43
  go_wp2
  all_goals (go_ret; exact ⟨by simp_all [basicB], rfl⟩)

theorem word_calls (c : Int) (w : World) : Calls Tryz.prog 69 #[.int .u8 c] w (SomeBool w) := by
  go_enter Tryz.func69, Tryz.ntmps69
  go_wp2
  all_goals (go_ret; exact SomeBool.mk _)

set_option maxHeartbeats 1600000 in
theorem validPath_calls (s : ByteArray) (w : World) (hs : s.size ≤ 140737488351232) : Calls Tryz.prog 41 #[.string s] w (SomeBool w) := by
  by_cases he : s.size = 0
  · obtain rfl := empty_of_size he
    go_enter Tryz.func41, Tryz.ntmps41
    go_wp2
    all_goals (go_ret; exact SomeBool.mk _)
  · have h1 : 0 < s.size := by omega
    clear he
    have he := notEmpty_of_size h1
    by_cases h47 : (s[0].toNat : Int) = 47
    all_goals cases hl : ((s[s.size - 1].toNat : Int) == 47)
    all_goals cases hq : (s.toList == [47])
    all_goals go_enter Tryz.func41, Tryz.ntmps41
    all_goals go_wp2_with fail
    all_goals try (go_ret; exact SomeBool.mk _)
    go_loop [3] (fun i => ∃ k : Nat, 1 ≤ k ∧ k ≤ s.size ∧ i = .int .i64 k) (fun i => s.size - (intOf i).toNat)
    case atStart => exact ⟨1, by omega, by omega, rfl⟩
    case round =>
      obtain ⟨k, hk1, hk2, rfl⟩ := hrel
      by_cases hlt : k < s.size
      · go_wp2_with (go_at_call 69; refine (word_calls _ _).mono ?_; rintro e w1 ⟨bw, rfl, rfl⟩)
        all_goals first
          | (go_ret; exact SomeBool.mk _)
          | (go_round
             case rel => exact ⟨k + 1, by omega, by omega, by go_num⟩
             case measure => simp [intOf]; omega)
      · go_wp2_with fail
        go_ret
        exact SomeBool.mk _

/-- The bits of a number are those of its kind. -/
def inRangeB (k n : Int) : Bool := if k = 121 then decide (n < 256) else if k = 98 then decide (n < 2) else if k = 110 then IntKind.u64.wrap (wrap64 (IntKind.i16.wrap n)) == n else if k = 113 then decide (n < 65536) else if k = 105 then IntKind.u64.wrap (wrap64 (wrap32 n)) == n
  else if k = 117 ∨ k = 104 then decide (n < 4294967296) else k == 120 || k == 116 || k == 100 || n == 0
theorem inRange_split (k : Int) : ((k = 121 ∨ k = 98 ∨ k = 110 ∨ k = 113) ∨ (k = 105 ∨ k = 117 ∨ k = 104 ∨ k = 120 ∨ k = 116 ∨ k = 100)) ∨ ((k == 121) = false ∧ (k == 98) = false ∧ (k == 110) = false ∧ (k == 113) = false ∧ (k == 105) = false ∧ (k == 117) = false ∧ (k == 104) = false ∧ (k == 120) = false ∧ (k == 116) = false ∧ (k == 100) = false) := by
  simp only [beq_eq_false_iff_ne]; omega
set_option maxHeartbeats 800000 in
theorem inRange_calls (k n : Int) (w : World) : Calls Tryz.prog 39 #[.int .u8 k, .int .u64 n] w fun e w' => e = .returned (.bool (inRangeB k n)) ∧ w = w' := by
  rcases inRange_split k with ((rfl | rfl | rfl | rfl) | (rfl | rfl | rfl | rfl | rfl | rfl)) | ⟨e1, e2, e3, e4, e5, e6, e7, e8, e9, e10⟩
  all_goals go_enter Tryz.func39, Tryz.ntmps39
  all_goals go_wp2_with fail
  all_goals (go_ret; exact ⟨by simp_all [inRangeB], rfl⟩)

/-- The letters of the keys' types of which the statements speak. -/
def keyL : List Int := [121, 110, 113, 105, 117, 120, 116, 115, 111]
def keyB (c : Int) : Bool := keyL.contains c
theorem key_cell (w : World) (j : Nat) (hj : j < 9) : ∃ c' : Int, (w.alloc (.cells #[.int .u8 121, .int .u8 110, .int .u8 113, .int .u8 105, .int .u8 117, .int .u8 120, .int .u8 116, .int .u8 115, .int .u8 111] 5 (9, 10))).cell? ⟨w.heap.size, j, none⟩ = some (.int .u8 c') ∧
    keyL.take (j + 1) = keyL.take j ++ [c'] ∧ c' ∈ keyL := by
  have hb : (w.alloc (.cells #[.int .u8 121, .int .u8 110, .int .u8 113, .int .u8 105, .int .u8 117, .int .u8 120, .int .u8 116, .int .u8 115, .int .u8 111] 5 (9, 10))).heap[w.heap.size]? = some (.cells #[.int .u8 121, .int .u8 110, .int .u8 113, .int .u8 105, .int .u8 117, .int .u8 120, .int .u8 116, .int .u8 115, .int .u8 111] 5 (9, 10)) := heap_alloc_new w _
  refine ⟨keyL[j]'(by simpa [keyL] using hj), ?_, ?_, List.getElem_mem _⟩
  · rw [cell_of_row _ _ _ _ _ _ hb]
    match j, hj with
    | 0, _ | 1, _ | 2, _ | 3, _ | 4, _ | 5, _ | 6, _ | 7, _ | 8, _ => rfl
  · rw [List.take_succ_eq_append_getElem]
set_option maxRecDepth 100000 in
set_option maxHeartbeats 800000 in
theorem vtKey_calls (c : Int) (w : World) : Calls Tryz.prog 26 #[.int .u8 c] w fun e w' => e = .returned (.bool (keyB c)) ∧ Below w.heap.size w w' := by
  have kc := fun (w : World) (C : Array Value) (n c : Nat) => Lib.run_convert_bytes_const (P := Tryz.prog) w 46 5 C n c Tryz.underlying46 Tryz.underlying5
  go_enter Tryz.func26, Tryz.ntmps26
  go_wp2_with fail
  go_loop [8] (fun i => ∃ j : Nat, j ≤ 9 ∧ i = .int .i64 j ∧ (keyL.take j).contains c = false) (fun i => 9 - (intOf i).toNat)
  case atStart => exact ⟨0, by omega, rfl, rfl⟩
  case round =>
    obtain ⟨j, hj, rfl, hc⟩ := hrel
    have HC := Lib.hid hc; clear hc
    by_cases hlt : j < 9
    · obtain ⟨c', hcell, htake, hget⟩ := key_cell w j hlt
      have HT := Lib.hid htake; clear htake
      cases hb : (c == c')
      · go_wp2_with fail
        go_round
        case rel => exact ⟨j + 1, by omega, by go_num, by rw [HT.out, List.contains_append, HC.out]; simp_all⟩
        case measure => simp [intOf]; omega
      · go_wp2_with fail
        go_ret
        refine ⟨?_, (Below.refl _ _).alloc (Nat.le_refl _) _⟩
        have : c = c' := by simpa using hb
        subst this
        simp [keyB, hget]
    · go_wp2_with fail
      go_ret
      obtain rfl : j = 9 := by omega
      refine ⟨?_, (Below.refl _ _).alloc (Nat.le_refl _) _⟩
      have := HC.out
      simp only [keyL, List.take, keyB] at this ⊢
      rw [this]; rfl
end Go.Proofs.YtjbpphomlmlmaaaGreatDoor

/- Strings as lists of bytes; weights; the signature of a value. -/
namespace Go.Proofs.YtjbpphomlmlmaaaGreatDoor
open Go.RowKit
set_option linter.unusedVariables false
/-- A list of bytes as a string. -/
def bs (l : List UInt8) : ByteArray := ⟨l.toArray⟩
@[simp] theorem bs_data (l : List UInt8) : (bs l).data.toList = l := rfl
@[simp] theorem bs_size (l : List UInt8) : (bs l).size = l.length := by simp [bs, ByteArray.size]
theorem ba_ext {a b : ByteArray} (h : a.data.toList = b.data.toList) : a = b := by
  cases a; cases b; simp_all
theorem bs_toList (s : ByteArray) : bs s.data.toList = s := ba_ext rfl
theorem str_eq {a : ByteArray} {l : List UInt8} (h : a.data.toList = l) : Value.string a = .string (bs l) := by rw [← h, bs_toList]
/- Weight: letters, and three for each value. -/
mutual
def V.wt : V → Nat
  | .mk _ _ s kids => s.size + 3 + V.wts kids
def V.wts : List V → Nat
  | [] => 0
  | v :: vs => v.wt + V.wts vs
end
mutual
def sigL : V → List UInt8
  | .mk k _ s kids => if k = 97 then 97 :: s.data.toList else if k = 40 then 40 :: (sigsL kids ++ [41]) else if k = 123 then 123 :: (sigsL kids ++ [125]) else [UInt8.ofNat k.toNat]
def sigsL : List V → List UInt8
  | [] => []
  | v :: vs => sigL v ++ sigsL vs
end
theorem sigsL_append (l m : List V) : sigsL (l ++ m) = sigsL l ++ sigsL m := by
  induction l with
  | nil => simp [sigsL]
  | cons x l ih => simp [sigsL, ih]
theorem sigsL_take (l : List V) (j : Nat) (h : j < l.length) : sigsL (l.take (j + 1)) = sigsL (l.take j) ++ sigL l[j] := by
  rw [List.take_succ_eq_append_getElem h, sigsL_append]; simp [sigsL]
theorem wts_append (l m : List V) : V.wts (l ++ m) = V.wts l + V.wts m := by
  induction l with
  | nil => simp [V.wts]
  | cons x l ih => simp [V.wts, ih]; omega
theorem wts_take (l : List V) (j : Nat) (h : j < l.length) : V.wts (l.take j) + l[j].wt ≤ V.wts l := by
  have h1 : l = l.take (j + 1) ++ l.drop (j + 1) := (List.take_append_drop ..).symm
  have h2 : V.wts (l.take (j + 1)) = V.wts (l.take j) + l[j].wt := by
    rw [List.take_succ_eq_append_getElem h, wts_append]; simp [V.wts]
  have h3 := congrArg V.wts h1
  rw [wts_append] at h3
  omega
theorem wt_kid (l : List V) (j : Nat) (h : j < l.length) : l[j].wt ≤ V.wts l := by have := wts_take l j h; omega
mutual
theorem sigL_len : ∀ v : V, (sigL v).length ≤ v.wt
  | .mk k n s kids => by
    have h := sigsL_len kids
    have hz : s.data.toList.length = s.size := rfl
    simp only [sigL, V.wt]
    split
    · simp; omega
    · split
      · simp; omega
      · split
        · simp; omega
        · simp; omega
theorem sigsL_len : ∀ l : List V, (sigsL l).length ≤ V.wts l
  | [] => by simp [sigsL]
  | v :: vs => by
    have h1 := sigL_len v
    have h2 := sigsL_len vs
    simp [sigsL, V.wts]; omega
end
/-- 'string([]byte{c})': the byte lies in the block that was just laid. -/
theorem conv_one (w : World) (o : Obj) (c : Int) (h0 : 0 ≤ c) (h1 : c ≤ 255) : (convert 46 9 (Value.slice (some ⟨w.heap.size + 1, 0, none⟩) 1 1)).run Tryz.prog ((w.alloc o).alloc (.cells #[.int .u8 c] 5)) =
    .ok (.string (bs [UInt8.ofNat c.toNat])) ((w.alloc o).alloc (.cells #[.int .u8 c] 5)) := by
  have hb : ((w.alloc o).alloc (.cells #[.int .u8 c] 5)).heap[w.heap.size + 1]? = some (.cells #[.int .u8 c] 5) := by
    have := heap_alloc_new (w.alloc o) (.cells #[.int .u8 c] 5)
    simpa using this
  have hr := run_convert_bytes_arg (P := Tryz.prog) ((w.alloc o).alloc (.cells #[.int .u8 c] 5)) 46 5 Tryz.underlying46 Tryz.underlying5 (w.heap.size + 1) 0 1 1 [c] rfl (fun i hi => by
    obtain rfl : i = 0 := by omega
    rw [cell_of_row _ _ _ _ _ _ hb]; rfl) 9 Tryz.underlying9
  rw [hr]
  congr 2
theorem sigOf_split (k : Int) : (k = 97 ∨ k = 40 ∨ k = 123) ∨ ((k == 97) = false ∧ (k == 40) = false ∧ (k == 123) = false) := by
  simp only [beq_eq_false_iff_ne]; omega
set_option maxRecDepth 100000 in
set_option maxHeartbeats 800000 in
theorem sigOf_calls (N : Nat) : ∀ (v : V), v.wt < N → N ≤ 1000000 → ∀ (S : Nat → Prop) (x : Value) (w : World), Rep S w v x →
    Calls Tryz.prog 11 #[x] w fun e w' => e = .returned (.string (bs (sigL v))) ∧ Below w.heap.size w w' := by
  induction N with
  | zero => intro v h; omega
  | succ N ih =>
    intro v hN hN1 S x w hr
    obtain ⟨k, n, s, kids⟩ := v
    simp only [Rep] at hr
    obtain ⟨A, cap, rfl, hc1, hc2, hk, hn, hs, hkids⟩ := hr
    have hlen := sigsL_len kids
    simp only [V.wt] at hN
    rcases sigOf_split k with (rfl | rfl | rfl) | ⟨e1, e2, e3⟩
    rotate_right
    · have hcv := fun o => conv_one w o k hk.1 hk.2
      go_enter Tryz.func11, Tryz.ntmps11
      go_wp2_with fail
      go_ret
      exact ⟨by simp_all [sigL], ((Below.refl _ _).alloc (Nat.le_refl _) _).alloc (by simp) _⟩
    · go_enter Tryz.func11, Tryz.ntmps11
      go_wp2_with fail
      go_ret
      refine ⟨?_, (Below.refl _ _).alloc (Nat.le_refl _) _⟩
      rw [sigL, if_pos rfl]
      exact congrArg Ending.returned (str_eq (by simp))
    all_goals have hcv40 := fun o => conv_one w o 40 (by omega) (by omega)
    all_goals have hcv123 := fun o => conv_one w o 123 (by omega) (by omega)
    all_goals go_enter Tryz.func11, Tryz.ntmps11
    all_goals go_wp2_with fail
    all_goals clear hcv40 hcv123
    · go_loopw [4, 27] (fun a i wr => ∃ j : Nat, j ≤ kids.length ∧ i = .int .i64 j ∧ a = .string (bs (40 :: sigsL (kids.take j))) ∧ Below w.heap.size w wr) (fun _ i _ => kids.length - (intOf i).toNat)
      case atStart => exact ⟨0, Nat.zero_le _, rfl, rfl, ((Below.refl _ _).alloc (Nat.le_refl _) _).alloc (by simp) _⟩
      case round =>
        obtain ⟨j, hj, rfl, rfl, hb⟩ := hrel
        have hbs := hb.size
        by_cases hlt : j < kids.length
        · obtain ⟨b, o, A', cap', rfl, _, h0, h1, h2, h3, hv⟩ := (hkids.keep fun b hlt _ => hb.block b hlt).kid j hlt
          have hsz := wts_take kids j hlt
          have hl1 := sigsL_len (kids.take j)
          have hl2 := sigL_len kids[j]
          have HT := Lib.hid (sigsL_take kids j hlt)
          go_wp2_with (go_at_call 11; refine (ih _ (by omega) (by omega) _ _ _ (hv.below ((Below.refl _ _).alloc (Nat.le_refl _) _))).mono ?_; rintro e w1 ⟨rfl, hb1⟩)
          go_roundw
          case rel => exact ⟨j + 1, by omega, by go_num, str_eq (by rw [HT.out]; simp), (hb.alloc hb.size _).trans (hb1.mono (by simp; omega))⟩
          case measure => simp [intOf]; omega
        · obtain rfl : j = kids.length := by omega
          have hl1 : (sigsL (kids.take kids.length)).length ≤ V.wts kids := by rw [List.take_length]; exact hlen
          go_wp2_with fail
          go_ret
          refine ⟨?_, hb⟩
          rw [sigL]
          exact congrArg Ending.returned (str_eq (by simp))
    · go_loopw [4, 27] (fun a i wr => ∃ j : Nat, j ≤ kids.length ∧ i = .int .i64 j ∧ a = .string (bs (123 :: sigsL (kids.take j))) ∧ Below w.heap.size w wr) (fun _ i _ => kids.length - (intOf i).toNat)
      case atStart => exact ⟨0, Nat.zero_le _, rfl, rfl, ((Below.refl _ _).alloc (Nat.le_refl _) _).alloc (by simp) _⟩
      case round =>
        obtain ⟨j, hj, rfl, rfl, hb⟩ := hrel
        have hbs := hb.size
        by_cases hlt : j < kids.length
        · obtain ⟨b, o, A', cap', rfl, _, h0, h1, h2, h3, hv⟩ := (hkids.keep fun b hlt _ => hb.block b hlt).kid j hlt
          have hsz := wts_take kids j hlt
          have hl1 := sigsL_len (kids.take j)
          have hl2 := sigL_len kids[j]
          have HT := Lib.hid (sigsL_take kids j hlt)
          go_wp2_with (go_at_call 11; refine (ih _ (by omega) (by omega) _ _ _ (hv.below ((Below.refl _ _).alloc (Nat.le_refl _) _))).mono ?_; rintro e w1 ⟨rfl, hb1⟩)
          go_roundw
          case rel => exact ⟨j + 1, by omega, by go_num, str_eq (by rw [HT.out]; simp), (hb.alloc hb.size _).trans (hb1.mono (by simp; omega))⟩
          case measure => simp [intOf]; omega
        · obtain rfl : j = kids.length := by omega
          have hl1 : (sigsL (kids.take kids.length)).length ≤ V.wts kids := by rw [List.take_length]; exact hlen
          go_wp2_with fail
          go_ret
          refine ⟨?_, hb⟩
          rw [sigL]
          exact congrArg Ending.returned (str_eq (by simp))
end Go.Proofs.YtjbpphomlmlmaaaGreatDoor

/- Types of D-Bus as trees, their signatures, and that a signature begins with one type at most. -/
namespace Go.Proofs.YtjbpphomlmlmaaaGreatDoor
/-- A complete type. -/
inductive Ty where
  | basic (c : UInt8)
  | var
  | arr (t : Ty)
  | dict (k : UInt8) (t : Ty)
  | str (ts : List Ty)

def basicL : List UInt8 := [121, 98, 110, 113, 105, 117, 120, 116, 100, 115, 111, 103, 104]

mutual
def Ty.sig : Ty → List UInt8
  | .basic c => [c]
  | .var => [118]
  | .arr t => 97 :: t.sig
  | .dict k t => 97 :: 123 :: k :: (t.sig ++ [125])
  | .str ts => 40 :: (Ty.sigs ts ++ [41])
def Ty.sigs : List Ty → List UInt8
  | [] => []
  | t :: ts => t.sig ++ Ty.sigs ts
end

/- So many arrays, structs and dict entries may still stand about it. -/
mutual
def Ty.ok : Ty → Int → Int → Int → Prop
  | .basic c, a, b, e => c ∈ basicL ∧ 0 ≤ a ∧ 0 ≤ b ∧ 0 ≤ e
  | .var, a, b, e => 0 ≤ a ∧ 0 ≤ b ∧ 0 ≤ e
  | .arr t, a, b, e => 0 ≤ a ∧ 0 ≤ b ∧ 0 ≤ e ∧ t.ok (a - 1) b e
  | .dict k t, a, b, e => k ∈ basicL ∧ 0 ≤ a ∧ 0 ≤ b ∧ 0 ≤ e ∧ t.ok (a - 1) b (e - 1)
  | .str ts, a, b, e => ts ≠ [] ∧ 0 ≤ a ∧ 0 ≤ b ∧ 0 ≤ e ∧ Ty.oks ts a (b - 1) e
def Ty.oks : List Ty → Int → Int → Int → Prop
  | [], _, _, _ => True
  | t :: ts, a, b, e => t.ok a b e ∧ Ty.oks ts a b e
end

theorem Ty.oks_append {l m : List Ty} {a b e : Int} : Ty.oks (l ++ m) a b e ↔ Ty.oks l a b e ∧ Ty.oks m a b e := by
  induction l with
  | nil => simp [Ty.oks]
  | cons x l ih => simp [Ty.oks, ih, and_assoc]
theorem Ty.sigs_append (l m : List Ty) : Ty.sigs (l ++ m) = Ty.sigs l ++ Ty.sigs m := by
  induction l with
  | nil => simp [Ty.sigs]
  | cons x l ih => simp [Ty.sigs, ih]
theorem Ty.ok_nonneg {t : Ty} {a b e : Int} (h : t.ok a b e) : 0 ≤ a ∧ 0 ≤ b ∧ 0 ≤ e := by
  cases t <;> simp only [Ty.ok] at h
  · exact h.2
  · exact h
  · exact ⟨h.1, h.2.1, h.2.2.1⟩
  · exact ⟨h.2.1, h.2.2.1, h.2.2.2.1⟩
  · exact ⟨h.2.1, h.2.2.1, h.2.2.2.1⟩

/- The letters are what they are, whatever the depth. -/
mutual
def Ty.plain : Ty → Prop
  | .basic c => c ∈ basicL
  | .var => True
  | .arr t => t.plain
  | .dict k t => k ∈ basicL ∧ t.plain
  | .str ts => Ty.plains ts
def Ty.plains : List Ty → Prop
  | [] => True
  | t :: ts => t.plain ∧ Ty.plains ts
end
mutual
theorem Ty.ok_plain : ∀ {t : Ty} {a b e : Int}, t.ok a b e → t.plain
  | .basic c, _, _, _, h => h.1
  | .var, _, _, _, _ => by simp only [Ty.plain]
  | .arr t, _, _, _, h => by simp only [Ty.ok, Ty.plain] at *; exact Ty.ok_plain h.2.2.2
  | .dict k t, _, _, _, h => by simp only [Ty.ok, Ty.plain] at *; exact ⟨h.1, Ty.ok_plain h.2.2.2.2⟩
  | .str ts, _, _, _, h => by simp only [Ty.ok, Ty.plain] at *; exact Ty.oks_plains h.2.2.2.2
theorem Ty.oks_plains : ∀ {ts : List Ty} {a b e : Int}, Ty.oks ts a b e → Ty.plains ts
  | [], _, _, _, _ => by simp only [Ty.plains]
  | t :: ts, _, _, _, h => by simp only [Ty.oks, Ty.plains] at *; exact ⟨Ty.ok_plain h.1, Ty.oks_plains h.2⟩
end
theorem Ty.plains_mem {ts : List Ty} (h : Ty.plains ts) : ∀ t ∈ ts, t.plain := by
  induction ts with
  | nil => simp
  | cons x l ih =>
    simp only [Ty.plains] at h
    intro t ht
    rcases List.mem_cons.1 ht with rfl | ht
    · exact h.1
    · exact ih h.2 t ht

theorem basic_ne {c : UInt8} (h : c ∈ basicL) : c ≠ 118 ∧ c ≠ 97 ∧ c ≠ 40 ∧ c ≠ 41 ∧ c ≠ 123 ∧ c ≠ 125 := by
  simp only [basicL, List.mem_cons, List.mem_nil_iff, or_false] at h
  rcases h with rfl | rfl | rfl | rfl | rfl | rfl | rfl | rfl | rfl | rfl | rfl | rfl | rfl <;> decide

/- What a type begins with. -/
theorem Ty.sig_head {t : Ty} (h : t.plain) : ∃ c r, t.sig = c :: r ∧ c ≠ 41 ∧ c ≠ 125 ∧ c ≠ 123 := by
  cases t with
  | basic c => exact ⟨c, [], rfl, (basic_ne h).2.2.2.1, (basic_ne h).2.2.2.2.2, (basic_ne h).2.2.2.2.1⟩
  | var => exact ⟨118, [], rfl, by decide, by decide, by decide⟩
  | arr t => exact ⟨97, t.sig, rfl, by decide, by decide, by decide⟩
  | dict k t => exact ⟨97, _, rfl, by decide, by decide, by decide⟩
  | str ts => exact ⟨40, _, rfl, by decide, by decide, by decide⟩

/- A text begins with one type at most. -/
mutual
theorem Ty.sig_inj : ∀ {t u : Ty} {r q : List UInt8}, t.plain → u.plain → t.sig ++ r = u.sig ++ q → t = u ∧ r = q
  | .basic c, u, r, q, ht, hu, h => by
    have hc := basic_ne ht
    cases u with
    | basic d => simp [Ty.sig] at h; exact ⟨by rw [h.1], h.2⟩
    | var => simp [Ty.sig] at h; exact absurd h.1 hc.1
    | arr u => simp [Ty.sig] at h; exact absurd h.1 hc.2.1
    | dict k u => simp [Ty.sig] at h; exact absurd h.1 hc.2.1
    | str us => simp [Ty.sig] at h; exact absurd h.1 hc.2.2.1
  | .var, u, r, q, ht, hu, h => by
    cases u with
    | basic d => simp [Ty.sig] at h; exact absurd h.1.symm (basic_ne hu).1
    | var => simp [Ty.sig] at h; exact ⟨rfl, h⟩
    | arr u => simp [Ty.sig] at h
    | dict k u => simp [Ty.sig] at h
    | str us => simp [Ty.sig] at h
  | .arr t, u, r, q, ht, hu, h => by
    simp only [Ty.plain] at ht
    cases u with
    | basic d => simp [Ty.sig] at h; exact absurd h.1.symm (basic_ne hu).2.1
    | var => simp [Ty.sig] at h
    | arr u =>
      simp only [Ty.plain] at hu
      simp only [Ty.sig, List.cons_append, List.cons.injEq, true_and] at h
      obtain ⟨rfl, hr⟩ := Ty.sig_inj ht hu h
      exact ⟨rfl, hr⟩
    | dict k u =>
      obtain ⟨c, w, hw, _, _, h123⟩ := Ty.sig_head ht
      simp [Ty.sig, hw] at h
      exact absurd h.1 h123
    | str us => simp [Ty.sig] at h
  | .dict k t, u, r, q, ht, hu, h => by
    simp only [Ty.plain] at ht
    cases u with
    | basic d => simp [Ty.sig] at h; exact absurd h.1.symm (basic_ne hu).2.1
    | var => simp [Ty.sig] at h
    | arr u =>
      simp only [Ty.plain] at hu
      obtain ⟨c, w, hw, _, _, h123⟩ := Ty.sig_head hu
      simp [Ty.sig, hw] at h
      exact absurd h.1.symm h123
    | dict k' u =>
      simp only [Ty.plain] at hu
      simp only [Ty.sig, List.cons_append, List.cons.injEq, true_and, List.append_assoc] at h
      obtain ⟨rfl, h⟩ := h
      obtain ⟨rfl, hr⟩ := Ty.sig_inj ht.2 hu.2 h
      exact ⟨rfl, by simpa using hr⟩
    | str us => simp [Ty.sig] at h
  | .str ts, u, r, q, ht, hu, h => by
    simp only [Ty.plain] at ht
    cases u with
    | basic d => simp [Ty.sig] at h; exact absurd h.1.symm (basic_ne hu).2.2.1
    | var => simp [Ty.sig] at h
    | arr u => simp [Ty.sig] at h
    | dict k u => simp [Ty.sig] at h
    | str us =>
      simp only [Ty.plain] at hu
      simp only [Ty.sig, List.cons_append, List.cons.injEq, true_and, List.append_assoc] at h
      obtain ⟨rfl, hr⟩ := Ty.sigs_inj ht hu h
      exact ⟨rfl, by simpa using hr⟩
theorem Ty.sigs_inj : ∀ {ts us : List Ty} {r q : List UInt8}, Ty.plains ts → Ty.plains us → Ty.sigs ts ++ (41 :: r) = Ty.sigs us ++ (41 :: q) → ts = us ∧ (41 :: r) = (41 :: q)
  | [], us, r, q, _, hu, h => by
    cases us with
    | nil => exact ⟨rfl, by simpa [Ty.sigs] using h⟩
    | cons u us =>
      simp only [Ty.plains] at hu
      obtain ⟨c, w, hw, h41, _, _⟩ := Ty.sig_head hu.1
      simp [Ty.sigs, hw] at h
      exact absurd h.1.symm h41
  | t :: ts, us, r, q, ht, hu, h => by
    simp only [Ty.plains] at ht
    cases us with
    | nil =>
      obtain ⟨c, w, hw, h41, _, _⟩ := Ty.sig_head ht.1
      simp [Ty.sigs, hw] at h
      exact absurd h.1 h41
    | cons u us =>
      simp only [Ty.plains] at hu
      simp only [Ty.sigs, List.append_assoc] at h
      obtain ⟨rfl, h2⟩ := Ty.sig_inj ht.1 hu.1 h
      obtain ⟨rfl, hr⟩ := Ty.sigs_inj ht.2 hu.2 h2
      exact ⟨rfl, hr⟩
end
theorem Ty.sig_inj' {t u : Ty} (ht : t.plain) (hu : u.plain) (h : t.sig = u.sig) : t = u :=
  (Ty.sig_inj (r := []) (q := []) ht hu (by simpa using h)).1
end Go.Proofs.YtjbpphomlmlmaaaGreatDoor

/- The contract of 'Complete': what it answers is how long the type is with which a text begins. -/
namespace Go.Proofs.YtjbpphomlmlmaaaGreatDoor
open Go.RowKit
set_option linter.unusedVariables false
/-- What 'Complete' answers: 0, or how long the type is with which the text begins. -/
def CompleteR (l : List UInt8) (a b e : Int) (w : World) (en : Ending) (w' : World) : Prop :=
  ∃ n : Nat, en = .returned (.int .i64 n) ∧ n ≤ l.length ∧ (n ≠ 0 → ∃ t : Ty, t.ok a b e ∧ t.sig.length = n ∧ l.take n = t.sig) ∧ w = w'
theorem CompleteR.zero {l : List UInt8} {a b e : Int} {w : World} : CompleteR l a b e w (.returned (.int .i64 0)) w := ⟨0, rfl, by omega, by simp, rfl⟩
@[simp] theorem bs_toL (l : List UInt8) : (bs l).toList = l := by rw [ByteArray.toList_eq]; rfl
@[go_sem] theorem bs_at (l : List UInt8) (i : Nat) (h : i < (bs l).size) : (bs l)[i]'h = l[i]'(by simpa using h) := rfl
@[go_sem] theorem bs_from (l : List UInt8) (i : Nat) : (bs l).extract i l.length = bs (l.drop i) := by
  apply ba_ext
  have := Lib.extract_to_end (bs l) i
  rw [bs_size] at this
  exact this
theorem u8_of_int {c n : UInt8} (h : (c.toNat : Int) = (n.toNat : Int)) : c = n := UInt8.toNat_inj.1 (by omega)
theorem basic_mem {c : UInt8} (h : basicB (c.toNat : Int) = true) : c ∈ basicL := by
  have hc : c = UInt8.ofNat c.toNat := by simp
  simp only [basicB, Bool.or_eq_true, beq_iff_eq, or_assoc] at h
  rcases h with h | h | h | h | h | h | h | h | h | h | h | h | h
  all_goals
    have h2 := Int.ofNat_inj.1 h
    rw [hc, h2]
    decide
/-- What the loop over a struct's fields has read. -/
def FieldsR (l : List UInt8) (a b e : Int) (i : Nat) : Prop := i ≤ l.length ∧ ∃ ts, Ty.oks ts a (b - 1) e ∧ l.take i = Ty.sigs ts ∧ (0 < i → ts ≠ [])
theorem FieldsR.step {l : List UInt8} {a b e : Int} {i n : Nat} (h : FieldsR l a b e i) (hn : n ≤ (l.drop i).length) (h0 : n ≠ 0) (hex : n ≠ 0 → ∃ t : Ty, t.ok a (b - 1) e ∧ t.sig.length = n ∧ (l.drop i).take n = t.sig) : FieldsR l a b e (i + n) := by
  obtain ⟨hi, ts, hts, htake, _⟩ := h
  obtain ⟨t, ht, hl, htk⟩ := hex h0
  refine ⟨by simp at hn; omega, ts ++ [t], Ty.oks_append.2 ⟨hts, by simpa [Ty.oks] using ht⟩, ?_, fun _ => by simp⟩
  rw [List.take_add, htake, htk, Ty.sigs_append]; simp [Ty.sigs]
theorem FieldsR.done {l : List UInt8} {a b e : Int} {i : Nat} (h : FieldsR l a b e i) (h1 : 1 < (i : Int) + 1) (hb : 0 ≤ b) (ha : 0 ≤ a) (he : 0 ≤ e) (hlt : i < l.length) (h41 : l[i] = 41) : ∃ t : Ty, t.ok a b e ∧ t.sig.length = i + 2 ∧ (40 :: l).take (i + 2) = t.sig := by
  obtain ⟨hi, ts, hts, htake, hne⟩ := h
  have hl : (Ty.sigs ts).length = i := by rw [← htake]; simp; omega
  refine ⟨.str ts, ⟨hne (by omega), ha, hb, he, hts⟩, by simp [Ty.sig, hl], ?_⟩
  rw [Ty.sig, List.take_succ_cons, List.take_succ_eq_append_getElem hlt, htake, h41]
theorem dict_done {k : UInt8} {l : List UInt8} {a b e : Int} {n : Nat} (hk : k ∈ basicL) (ha : 0 ≤ a) (hb : 0 ≤ b) (he : 0 ≤ e) (hn : n < l.length) (h125 : l[n] = 125) (h : ∃ t : Ty, t.ok (a - 1) b (e - 1) ∧ t.sig.length = n ∧ l.take n = t.sig) :
    ∃ t : Ty, t.ok a b e ∧ t.sig.length = n + 4 ∧ (97 :: 123 :: k :: l).take (n + 4) = t.sig := by
  obtain ⟨t, ht, hl, htk⟩ := h
  refine ⟨.dict k t, ⟨hk, ha, hb, he, ht⟩, by simp [Ty.sig, hl], ?_⟩
  rw [Ty.sig, show n + 4 = (n + 1) + 1 + 1 + 1 from rfl, List.take_succ_cons, List.take_succ_cons, List.take_succ_cons, List.take_succ_eq_append_getElem hn, htk, h125]
/-- What is known of the calls at shorter texts. -/
def CompleteIH (N : Nat) : Prop := ∀ (l : List UInt8), l.length < N → ∀ (a b e : Int) (w : World), -1000 ≤ a → a ≤ 1000 → -1000 ≤ b → b ≤ 1000 → -1000 ≤ e → e ≤ 1000 →
    Calls Tryz.prog 105 #[.string (bs l), .int .i64 a, .int .i64 b, .int .i64 e] w (CompleteR l a b e w)

set_option maxRecDepth 100000 in
set_option maxHeartbeats 1600000 in
theorem complete_zero (l : List UInt8) (a b e : Int) (w : World) (hz : l.length = 0 ∨ a < 0 ∨ b < 0 ∨ e < 0) :
    Calls Tryz.prog 105 #[.string (bs l), .int .i64 a, .int .i64 b, .int .i64 e] w (CompleteR l a b e w) := by
  cases l with
  | nil =>
    go_enter Tryz.func105, Tryz.ntmps105
    go_wp2_with fail
    all_goals (go_ret; exact CompleteR.zero)
  | cons c l =>
    rcases hz with hz | hz | hz | hz
    · simp at hz
    · go_enter Tryz.func105, Tryz.ntmps105
      go_wp2_with fail
      all_goals (go_ret; exact CompleteR.zero)
    · by_cases ha : a < 0
      all_goals go_enter Tryz.func105, Tryz.ntmps105
      all_goals go_wp2_with fail
      all_goals (go_ret; exact CompleteR.zero)
    · by_cases ha : a < 0
      all_goals by_cases hb : b < 0
      all_goals go_enter Tryz.func105, Tryz.ntmps105
      all_goals go_wp2_with fail
      all_goals (go_ret; exact CompleteR.zero)

set_option maxRecDepth 100000 in
set_option maxHeartbeats 1600000 in
theorem complete_str (N : Nat) (ih : CompleteIH N) (hN1 : N ≤ 1000000) (l : List UInt8) (hN : l.length < N) (a b e : Int) (w : World) (ha0 : 0 ≤ a) (ha1 : a ≤ 1000) (hb0 : 0 ≤ b) (hb1 : b ≤ 1000) (he0 : 0 ≤ e) (he1 : e ≤ 1000) :
    Calls Tryz.prog 105 #[.string (bs (40 :: l)), .int .i64 a, .int .i64 b, .int .i64 e] w (CompleteR (40 :: l) a b e w) := by
  have ha' : decide (a < 0) = false := by simpa using ha0
  have hb' : decide (b < 0) = false := by simpa using hb0
  have he' : decide (e < 0) = false := by simpa using he0
  have hlN : l.length ≤ 1000000 := by omega
  have hB40 : basicB 40 = false := by decide
  go_enter Tryz.func105, Tryz.ntmps105
  go_wp2_with (go_at_call 43; refine (basic_calls _ _).mono ?_; rintro e1 w1 ⟨rfl, rfl⟩)
  go_loop [11] (fun v => ∃ i : Nat, v = .int .i64 (i + 1) ∧ FieldsR l a b e i) (fun v => l.length + 1 - (intOf v).toNat)
  case atStart => exact ⟨0, rfl, by omega, [], by simp [Ty.oks], rfl, by omega⟩
  case round =>
    obtain ⟨i, rfl, hR⟩ := hrel
    have hi := hR.1
    by_cases hlt : i < l.length
    · have hext : (bs (40 :: l)).extract (i + 1) (l.length + 1) = bs (l.drop i) := bs_from (40 :: l) (i + 1)
      have hdl : (l.drop i).length < N := by simp at hN ⊢; omega
      cases hc : ((l[i].toNat : Int) == 41)
      · have hc' : ((l[i].toNat : Int) != 41) = true := by rw [bne, hc]; rfl
        go_wp2_with (go_at_call 105; refine (ih _ hdl _ _ _ _ (by omega) (by omega) (by omega) (by omega) (by omega) (by omega)).mono ?_; rintro e1 w1 ⟨n, rfl, hn, hex, rfl⟩; have HEX := Lib.hid hex; clear hex; have hn2 : n ≤ l.length := by simp at hn; omega)
        · go_ret
          exact CompleteR.zero
        · have hn0 : n ≠ 0 := by rintro rfl; simp_all
          go_round
          case rel => exact ⟨i + n, by go_num, hR.step hn hn0 HEX.out⟩
          case measure => simp [intOf]; omega
      · have hc' : ((l[i].toNat : Int) != 41) = false := by rw [bne, hc]; rfl
        have h41 : l[i] = 41 := u8_of_int (by simpa using hc)
        go_wp2_with fail
        · go_ret
          exact ⟨i + 2, by go_num, by simp; omega, fun _ => FieldsR.done hR (by assumption) hb0 ha0 he0 hlt h41, rfl⟩
        · go_ret
          exact CompleteR.zero
    · have hil : i = l.length := by omega
      subst hil
      go_wp2_with fail
      all_goals (go_ret; exact CompleteR.zero)

set_option maxRecDepth 100000 in
set_option maxHeartbeats 1600000 in
theorem complete_dict (N : Nat) (ih : CompleteIH N) (hN1 : N ≤ 1000000) (l : List UInt8) (hN : l.length + 1 < N) (a b e : Int) (w : World) (ha0 : 0 ≤ a) (ha1 : a ≤ 1000) (hb0 : 0 ≤ b) (hb1 : b ≤ 1000) (he0 : 0 ≤ e) (he1 : e ≤ 1000) :
    Calls Tryz.prog 105 #[.string (bs (97 :: 123 :: l)), .int .i64 a, .int .i64 b, .int .i64 e] w (CompleteR (97 :: 123 :: l) a b e w) := by
  have ha' : decide (a < 0) = false := by simpa using ha0
  have hb' : decide (b < 0) = false := by simpa using hb0
  have he' : decide (e < 0) = false := by simpa using he0
  have hB97 : basicB 97 = false := by decide
  match l with
  | [] =>
    go_enter Tryz.func105, Tryz.ntmps105
    go_wp2_with (go_at_call 43; refine (basic_calls _ _).mono ?_; rintro e1 w1 ⟨rfl, rfl⟩)
    all_goals (go_ret; exact CompleteR.zero)
  | [k] =>
    go_enter Tryz.func105, Tryz.ntmps105
    go_wp2_with (go_at_call 43; refine (basic_calls _ _).mono ?_; rintro e1 w1 ⟨rfl, rfl⟩)
    all_goals (go_ret; exact CompleteR.zero)
  | k :: d :: l3 =>
    have hext : (bs (97 :: 123 :: k :: d :: l3)).extract 3 (l3.length + 1 + 1 + 1 + 1) = bs (d :: l3) := bs_from (97 :: 123 :: k :: d :: l3) 3
    have hdl3 : (d :: l3).length < N := by simp at hN ⊢; omega
    have g1 : decide ((1 : Int) < ↑l3.length + 1 + 1 + 1 + 1) = true := by simp; omega
    have g2 : decide ((↑l3.length + 1 + 1 + 1 + 1 : Int) < 4) = false := by simp; omega
    have hl3 : l3.length ≤ 1000000 := by simp at hN; omega
    cases hk : basicB (k.toNat : Int)
    · go_enter Tryz.func105, Tryz.ntmps105
      go_wp2_with (go_at_call 43; refine (basic_calls _ _).mono ?_; rintro e1 w1 ⟨rfl, rfl⟩)
      go_ret
      exact CompleteR.zero
    · have hkm := basic_mem hk
      go_enter Tryz.func105, Tryz.ntmps105
      go_wp2_with (first | (go_at_call 43; refine (basic_calls _ _).mono ?_; rintro e1 w1 ⟨rfl, rfl⟩) | (go_at_call 105; refine (ih _ hdl3 _ _ _ _ (by omega) (by omega) (by omega) (by omega) (by omega) (by omega)).mono ?_; rintro e1 w1 ⟨n, rfl, hn, hex, rfl⟩; have HEX := Lib.hid hex; clear hex; have hn2 : n ≤ l3.length + 1 := by simp at hn; omega))
      · go_ret
        exact CompleteR.zero
      · go_ret
        exact CompleteR.zero
      · go_ret
        exact CompleteR.zero
      · have hn0 : n ≠ 0 := by omega
        have h125 : (d :: l3)[n]'(by simp; omega) = 125 := u8_of_int (by simp_all)
        go_ret
        exact ⟨n + 4, by go_num, by simp; omega, fun _ => dict_done hkm ha0 hb0 he0 (by simp; omega) h125 (HEX.out hn0), rfl⟩

set_option maxRecDepth 100000 in
set_option maxHeartbeats 1600000 in
theorem complete_arr (N : Nat) (ih : CompleteIH N) (hN1 : N ≤ 1000000) (l : List UInt8) (hN : l.length < N) (hl : ∀ l2, l ≠ 123 :: l2) (a b e : Int) (w : World) (ha0 : 0 ≤ a) (ha1 : a ≤ 1000) (hb0 : 0 ≤ b) (hb1 : b ≤ 1000) (he0 : 0 ≤ e) (he1 : e ≤ 1000) :
    Calls Tryz.prog 105 #[.string (bs (97 :: l)), .int .i64 a, .int .i64 b, .int .i64 e] w (CompleteR (97 :: l) a b e w) := by
  have ha' : decide (a < 0) = false := by simpa using ha0
  have hb' : decide (b < 0) = false := by simpa using hb0
  have he' : decide (e < 0) = false := by simpa using he0
  have hB97 : basicB 97 = false := by decide
  have hlN : l.length ≤ 1000000 := by omega
  have hend : ∀ n, (n ≠ 0 → ∃ t : Ty, t.ok (a - 1) b e ∧ t.sig.length = n ∧ l.take n = t.sig) → n ≠ 0 → ∃ t : Ty, t.ok a b e ∧ t.sig.length = n + 1 ∧ (97 :: l).take (n + 1) = t.sig := by
    intro n h h0
    obtain ⟨t, h1, h2, h3⟩ := h h0
    exact ⟨.arr t, ⟨ha0, hb0, he0, h1⟩, by simp [Ty.sig, h2], by rw [Ty.sig, List.take_succ_cons, h3]⟩
  have HEND := Lib.hid hend; clear hend
  match l with
  | [] =>
    have hext : (bs [97]).extract 1 1 = bs [] := bs_from [97] 1
    go_enter Tryz.func105, Tryz.ntmps105
    go_wp2_with (first | (go_at_call 43; refine (basic_calls _ _).mono ?_; rintro e1 w1 ⟨rfl, rfl⟩) | (go_at_call 105; refine (ih _ hN _ _ _ _ (by omega) (by omega) (by omega) (by omega) (by omega) (by omega)).mono ?_; rintro e1 w1 ⟨n, rfl, hn, hex, rfl⟩; have HEX := Lib.hid hex; clear hex; simp at hn))
    all_goals first
      | (go_ret; exact CompleteR.zero)
      | (exfalso; omega)
  | d :: l3 =>
    have g1 : decide ((1 : Int) < ↑l3.length + 1 + 1) = true := by simp; omega
    have hext : (bs (97 :: d :: l3)).extract 1 (l3.length + 1 + 1) = bs (d :: l3) := bs_from (97 :: d :: l3) 1
    have hd : ((d.toNat : Int) == 123) = false := by
      rw [beq_eq_false_iff_ne]
      intro h
      exact hl l3 (by rw [u8_of_int (c := d) (n := 123) h])
    go_enter Tryz.func105, Tryz.ntmps105
    go_wp2_with (first | (go_at_call 43; refine (basic_calls _ _).mono ?_; rintro e1 w1 ⟨rfl, rfl⟩) | (go_at_call 105; refine (ih _ hN _ _ _ _ (by omega) (by omega) (by omega) (by omega) (by omega) (by omega)).mono ?_; rintro e1 w1 ⟨n, rfl, hn, hex, rfl⟩; have HEX := Lib.hid hex; clear hex; have hn2 : n ≤ l3.length + 1 := by simp at hn; omega))
    · have hn0 : n ≠ 0 := by omega
      go_ret
      exact ⟨n + 1, by go_num, by simp; omega, fun _ => HEND.out n HEX.out hn0, rfl⟩
    · go_ret
      exact CompleteR.zero

set_option maxRecDepth 100000 in
set_option maxHeartbeats 1600000 in
theorem complete_one (c : UInt8) (l : List UInt8) (a b e : Int) (w : World) (ha0 : 0 ≤ a) (hb0 : 0 ≤ b) (he0 : 0 ≤ e) (h97 : c ≠ 97) (h40 : c ≠ 40) :
    Calls Tryz.prog 105 #[.string (bs (c :: l)), .int .i64 a, .int .i64 b, .int .i64 e] w (CompleteR (c :: l) a b e w) := by
  have ha' : decide (a < 0) = false := by simpa using ha0
  have hb' : decide (b < 0) = false := by simpa using hb0
  have he' : decide (e < 0) = false := by simpa using he0
  cases hB : basicB (c.toNat : Int)
  case true =>
    have hmem := basic_mem hB
    go_enter Tryz.func105, Tryz.ntmps105
    go_wp2_with (go_at_call 43; refine (basic_calls _ _).mono ?_; rintro e1 w1 ⟨rfl, rfl⟩)
    go_ret
    exact ⟨1, rfl, by simp, fun _ => ⟨.basic c, ⟨hmem, ha0, hb0, he0⟩, rfl, rfl⟩, rfl⟩
  case false =>
    by_cases h118 : c = 118
    · subst h118
      go_enter Tryz.func105, Tryz.ntmps105
      go_wp2_with (go_at_call 43; refine (basic_calls _ _).mono ?_; rintro e1 w1 ⟨rfl, rfl⟩)
      go_ret
      exact ⟨1, rfl, by simp, fun _ => ⟨.var, ⟨ha0, hb0, he0⟩, rfl, rfl⟩, rfl⟩
    · have e1 : ((c.toNat : Int) == 118) = false := by rw [beq_eq_false_iff_ne]; exact fun h => h118 (u8_of_int (n := 118) h)
      have e2 : ((c.toNat : Int) == 97) = false := by rw [beq_eq_false_iff_ne]; exact fun h => h97 (u8_of_int (n := 97) h)
      have e3 : ((c.toNat : Int) == 40) = false := by rw [beq_eq_false_iff_ne]; exact fun h => h40 (u8_of_int (n := 40) h)
      go_enter Tryz.func105, Tryz.ntmps105
      go_wp2_with (go_at_call 43; refine (basic_calls _ _).mono ?_; rintro e1 w1 ⟨rfl, rfl⟩)
      go_ret
      exact CompleteR.zero

theorem complete_calls (N : Nat) (hN : N ≤ 1000000) : CompleteIH N := by
  induction N with
  | zero => intro l h; omega
  | succ N ih =>
    intro l hl a b e w ha0 ha1 hb0 hb1 he0 he1
    by_cases hz : l.length = 0 ∨ a < 0 ∨ b < 0 ∨ e < 0
    · exact complete_zero l a b e w hz
    · cases l with
      | nil => simp at hz
      | cons c l =>
        by_cases h97 : c = 97
        · subst h97
          by_cases hd : ∃ l2, l = 123 :: l2
          · obtain ⟨l2, rfl⟩ := hd
            exact complete_dict N (ih (by omega)) (by omega) l2 (by simp at hl; omega) a b e w (by omega) ha1 (by omega) hb1 (by omega) he1
          · exact complete_arr N (ih (by omega)) (by omega) l (by simp at hl; omega) (fun l2 h => hd ⟨l2, h⟩) a b e w (by omega) ha1 (by omega) hb1 (by omega) he1
        · by_cases h40 : c = 40
          · subst h40
            exact complete_str N (ih (by omega)) (by omega) l (by simp at hl; omega) a b e w (by omega) ha1 (by omega) hb1 (by omega) he1
          · exact complete_one c l a b e w (by omega) (by omega) (by omega) h97 h40

theorem complete0_calls (l : List UInt8) (h : l.length < 1000000) (w : World) : Calls Tryz.prog 67 #[.string (bs l)] w (CompleteR l 32 32 32 w) := by
  go_enter Tryz.func67, Tryz.ntmps67
  go_wp2_with (go_at_call 105; refine (complete_calls 1000000 (by omega) l h _ _ _ _ (by omega) (by omega) (by omega) (by omega) (by omega) (by omega)).mono ?_; rintro e1 w1 ⟨n, rfl, hn, hex, rfl⟩; have HEX := Lib.hid hex; clear hex)
  go_ret
  exact ⟨n, rfl, hn, HEX.out, rfl⟩
end Go.Proofs.YtjbpphomlmlmaaaGreatDoor

/- The contracts of 'Types', 'Valid', 'First'. -/
namespace Go.Proofs.YtjbpphomlmlmaaaGreatDoor
open Go.RowKit
set_option linter.unusedVariables false
theorem info9 : (Tryz.prog.info? 9).map (fun i => (i.zero, i.size, i.bytes)) = some (some (.string ByteArray.empty), 1, 16) := by kernel_rfl
theorem own_base' {w : World} {base : Nat} {e : TypeId} {size n : Nat} {v : Value} {xs : List Value} (h : w.ownsRow base e size v n xs) {k : Nat} (hk : v.ownBlock = some k) : base ≤ k := by
  rcases h.2 with ⟨rfl, _⟩ | ⟨g, cap, cur, rfl, hb, _⟩
  · simp [Value.ownBlock] at hk
  · have : g = k := by simpa [Value.ownBlock] using hk
    omega
/-- What 'Types' answers. -/
def TypesR (l : List UInt8) (w : World) (en : Ending) (w' : World) : Prop :=
  ∃ (v : Value) (ok : Bool), en = .returned (.tuple #[v, .bool ok]) ∧ (ok = true → l.length ≤ 255 ∧ ∃ ts, Ty.oks ts 32 32 32 ∧ l = Ty.sigs ts) ∧ Below w.heap.size w w'
theorem TypesR.no {l : List UInt8} {w w' : World} {v : Value} (h : Below w.heap.size w w') : TypesR l w (.returned (.tuple #[v, .bool false])) w' := ⟨v, false, rfl, by simp, h⟩
set_option maxRecDepth 100000 in
set_option maxHeartbeats 800000 in
theorem types_calls (l : List UInt8) (hl : l.length < 1000000) (w : World) : Calls Tryz.prog 38 #[.string (bs l)] w (TypesR l w) := by
  obtain ⟨i0, hi0, hz0, hz1, hz2⟩ := info_parts info9
  by_cases h255 : 255 < l.length
  · go_enter Tryz.func38, Tryz.ntmps38
    go_wp2_with fail
    all_goals first
      | (go_ret2; exact TypesR.no (Below.refl _ _))
      | (exfalso; omega)
  · have hle : l.length ≤ 255 := by omega
    clear h255
    go_enter Tryz.func38, Tryz.ntmps38
    go_wp2_with fail
    go_loopw [0, 4] (fun s v wr => ∃ (ts : List Ty) (r : List UInt8) (xs : List Value), s = .string (bs r) ∧ l = Ty.sigs ts ++ r ∧ Ty.oks ts 32 32 32 ∧ xs.length ≤ 255 ∧ xs.length + r.length ≤ l.length ∧ wr.ownsRow w.heap.size 9 1 v xs.length xs ∧ Below w.heap.size w wr) (fun s _ _ => match s with | .string b => b.size | _ => 0)
    case atStart => exact ⟨[], l, [], rfl, rfl, by simp [Ty.oks], by simp, by simp, World.ownsRow_nil _ _ _ _, Below.refl _ _⟩
    case round =>
      obtain ⟨ts, r, xs, rfl, hlr, hts, hx1, hx2, hown, hb⟩ := hrel
      have HLR := Lib.hid hlr; clear hlr
      have hbs := hb.size
      cases r with
      | nil =>
        go_wp2_with fail
        go_ret2
        have hlr := HLR.out
        exact ⟨_, true, rfl, fun _ => ⟨hle, ts, hts, by simpa using hlr⟩, hb⟩
      | cons c r =>
        have hrl : (c :: r).length < 1000000 := by omega
        go_wp2_with (first | (go_at_call 67; refine (complete0_calls _ hrl _).mono ?_; rintro e1 w1 ⟨n, rfl, hn, hex, rfl⟩; have HEX := Lib.hid hex; clear hex; have hn2 : n ≤ r.length + 1 := by simp at hn; omega) | (at_builtin; refine Hid.out ?_))
        · go_ret2
          exact TypesR.no hb
        · refine Lib.hid ?_
          refine wpList_append_own _ rfl _ _ 32 rfl w.heap.size 9 i0 (.string ByteArray.empty) 1 16 Tryz.underlying32 hi0 hz0 hz1 hz2 rfl (by decide) _ _ _ rfl (hown.alloc _) ⟨wr.heap.size, 0, none⟩ 1 1 [.string ((bs (c :: r)).extract 0 n)] rfl rfl (cell_one_new _ _ _) (by simp [Value.oneCell']) (by unfold maxLen; omega) (by omega) (by simp; omega) ?_
          intro v' w1 hown1 hgrow _
          have hn0 : n ≠ 0 := by rintro rfl; simp_all
          have hext : (bs (c :: r)).extract n (r.length + 1) = bs ((c :: r).drop n) := bs_from (c :: r) n
          go_wp2_with fail
          go_roundw
          case rel =>
            obtain ⟨t, ht, htl, htk⟩ := HEX.out hn0
            refine ⟨ts ++ [t], (c :: r).drop n, xs ++ [.string ((bs (c :: r)).extract 0 n)], rfl, ?_, Ty.oks_append.2 ⟨hts, by simpa [Ty.oks] using ht⟩, ?_, ?_, by simpa using hown1, ?_⟩
            · have := HLR.out
              rw [this, Ty.sigs_append, List.append_assoc]
              simp only [Ty.sigs, List.append_nil, ← htk, List.take_append_drop]
            · simp at hx2 ⊢; omega
            · simp at hx2 ⊢; omega
            · exact (hb.alloc hb.size _).grown hgrow (by simp; omega) (fun k hk => own_base' hown hk)
          case measure => simp; omega

theorem valid_calls (l : List UInt8) (hl : l.length < 1000000) (w : World) : Calls Tryz.prog 23 #[.string (bs l)] w fun e w' => ∃ ok : Bool, e = .returned (.bool ok) ∧ (ok = true → l.length ≤ 255 ∧ ∃ ts, Ty.oks ts 32 32 32 ∧ l = Ty.sigs ts) ∧ Below w.heap.size w w' := by
  go_enter Tryz.func23, Tryz.ntmps23
  go_wp2_with (go_at_call 38; refine (types_calls l hl _).mono ?_; rintro e1 w1 ⟨v, ok, rfl, hok, hb⟩; have HOK := Lib.hid hok; clear hok)
  go_ret
  exact ⟨ok, rfl, HOK.out, hb⟩

theorem bdrewN {B : Nat} {w W : World} (h : Below B w W) (n : Nat) : Below B w (W.drewN n) := ⟨h.os, h.tape, h.output, h.size, h.block⟩
@[go_sem] theorem bs_to (l : List UInt8) (i : Nat) : (bs l).extract 0 i = bs (l.take i) := by
  apply ba_ext
  rw [Lib.extract_data]
  simp
/-- What 'First' answers. -/
def FirstR (l : List UInt8) (w : World) (en : Ending) (w' : World) : Prop :=
  ∃ (one rest : List UInt8) (ok : Bool), en = .returned (.tuple #[.string (bs one), .string (bs rest), .bool ok]) ∧ (ok = true → one ++ rest = l ∧ (rest = [] → ∃ T : Ty, T.plain ∧ 97 :: l = T.sig)) ∧ Below w.heap.size w w'
theorem FirstR.no {l : List UInt8} {w : World} : FirstR l w (.returned (.tuple #[.string ⟨#[]⟩, .string ⟨#[]⟩, .bool false])) w := ⟨[], [], false, rfl, by simp, Below.refl _ _⟩
theorem FirstR.yes {l : List UInt8} {w w' : World} (n : Nat) (hb : Below w.heap.size w w') (h : n = l.length → ∃ T : Ty, T.plain ∧ 97 :: l = T.sig) (hn : n ≤ l.length) : FirstR l w (.returned (.tuple #[.string (bs (l.take n)), .string (bs (l.drop n)), .bool true])) w' :=
  ⟨_, _, true, rfl, fun _ => ⟨List.take_append_drop _ _, fun h0 => h (by have := congrArg List.length h0; simp at this; omega)⟩, hb⟩
set_option maxRecDepth 100000 in
set_option maxHeartbeats 800000 in
theorem first_calls (l : List UInt8) (hl : l.length + 1 < 1000000) (w : World) : Calls Tryz.prog 42 #[.string (bs l)] w (FirstR l w) := by
  by_cases hd : ∃ d r, l = 123 :: d :: r
  · obtain ⟨d, r, rfl⟩ := hd
    have hcat : (⟨#[97]⟩ : ByteArray) ++ bs (123 :: d :: r) = bs (97 :: 123 :: d :: r) := ba_ext (by simp)
    have hext : ∀ n, (bs (123 :: d :: r)).extract n (r.length + 1 + 1) = bs ((123 :: d :: r).drop n) := bs_from (123 :: d :: r)
    have g1 : decide ((1 : Int) < ↑r.length + 1 + 1) = true := by simp; omega
    have hl' : (97 :: 123 :: d :: r).length < 1000000 := by simp at hl ⊢; omega
    have hr : r.length < 1000000 := by simp at hl; omega
    go_enter Tryz.func42, Tryz.ntmps42
    go_wp2_with (go_at_call 67; refine (complete0_calls _ hl' _).mono ?_; rintro e1 w1 ⟨n, rfl, hn, hex, rfl⟩; have HEX := Lib.hid hex; clear hex; have hn2 : n ≤ r.length + 3 := by simp at hn; omega)
    all_goals try (exfalso; omega)
    · go_ret3
      exact FirstR.no
    · obtain ⟨m, rfl⟩ : ∃ m, n = m + 1 := ⟨n - 1, by omega⟩
      go_quiet (fail)
      go_wp2_with fail
      go_ret3
      refine FirstR.yes m (bdrewN (Below.refl _ _) _) (fun h => ?_) (by show m ≤ r.length + 2; omega)
      obtain ⟨t, ht, _, htk⟩ := HEX.out (by omega)
      refine ⟨t, t.ok_plain ht, ?_⟩
      rw [← htk, List.take_of_length_le (by simp at h ⊢; omega)]
  · have hfin : ∀ n, (n ≠ 0 → ∃ t : Ty, t.ok 32 32 32 ∧ t.sig.length = n ∧ l.take n = t.sig) → n ≠ 0 → n = l.length → ∃ T : Ty, T.plain ∧ 97 :: l = T.sig := by
      intro n h h0 he
      obtain ⟨t, ht, _, htk⟩ := h h0
      exact ⟨.arr t, by simpa [Ty.plain] using t.ok_plain ht, by rw [Ty.sig, ← htk, List.take_of_length_le (by omega)]⟩
    have HFIN := Lib.hid hfin; clear hfin
    have hl' : l.length < 1000000 := by omega
    match l with
    | [] =>
      go_enter Tryz.func42, Tryz.ntmps42
      go_wp2_with (go_at_call 67; refine (complete0_calls _ hl' _).mono ?_; rintro e1 w1 ⟨n, rfl, hn, hex, rfl⟩; have HEX := Lib.hid hex; clear hex; have hn2 : n = 0 := by simpa using hn)
      all_goals try (exfalso; omega)
      go_ret3
      exact FirstR.no
    | [c] =>
      have hext : ∀ n, (bs [c]).extract n 1 = bs ([c].drop n) := bs_from [c]
      go_enter Tryz.func42, Tryz.ntmps42
      go_wp2_with (go_at_call 67; refine (complete0_calls _ hl' _).mono ?_; rintro e1 w1 ⟨n, rfl, hn, hex, rfl⟩; have HEX := Lib.hid hex; clear hex; have hn2 : n ≤ 1 := by simpa using hn)
      all_goals try (exfalso; omega)
      · go_ret3
        exact FirstR.no
      · go_quiet (fail)
        go_wp2_with fail
        go_ret3
        exact FirstR.yes n (bdrewN (Below.refl _ _) _) (HFIN.out n HEX.out (by omega)) hn
    | c :: d :: r =>
      have hext : ∀ n, (bs (c :: d :: r)).extract n (r.length + 1 + 1) = bs ((c :: d :: r).drop n) := bs_from (c :: d :: r)
      have g1 : decide ((1 : Int) < ↑r.length + 1 + 1) = true := by simp; omega
      have hc : ((c.toNat : Int) == 123) = false := by
        rw [beq_eq_false_iff_ne]
        intro h
        exact hd ⟨d, r, by rw [u8_of_int (c := c) (n := 123) h]⟩
      go_enter Tryz.func42, Tryz.ntmps42
      go_wp2_with (go_at_call 67; refine (complete0_calls _ hl' _).mono ?_; rintro e1 w1 ⟨n, rfl, hn, hex, rfl⟩; have HEX := Lib.hid hex; clear hex; have hn2 : n ≤ r.length + 2 := by simp at hn; omega)
      all_goals try (exfalso; omega)
      · go_ret3
        exact FirstR.no
      · go_quiet (fail)
        go_wp2_with fail
        go_ret3
        exact FirstR.yes n (bdrewN (Below.refl _ _) _) (HFIN.out n HEX.out (by omega)) hn
end Go.Proofs.YtjbpphomlmlmaaaGreatDoor
