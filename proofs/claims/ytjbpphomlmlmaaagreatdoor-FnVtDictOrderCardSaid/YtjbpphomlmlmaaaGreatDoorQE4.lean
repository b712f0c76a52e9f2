/- The type of a value that the program made. -/
import Derived.Test.YtjbpphomlmlmaaaGreatDoorQE3
import Derived.Test.YtjbpphomlmlmaaaGreatDoorQD2
namespace Go.Proofs.YtjbpphomlmlmaaaGreatDoor
open Go.RowKit
set_option linter.unusedVariables false
set_option linter.unusedSimpArgs false
theorem assert_of {T : TypeId} {d : TypeDesc} {z : Value} (hd : Tryz.prog.underlying T = some d) (hi : (match d with | .interface _ => true | _ => false) = false) (hz : ((Tryz.prog.info? T).bind (·.zero)) = some z) (u : TypeId) (v : Value) (w : World) :
    (Instr.typeAssert (.iface u v) 20 T true).run Tryz.prog w = .ok (if u = T then .tuple #[v, .bool true] else .tuple #[z, .bool false]) w := by
  cases hj : Tryz.prog.info? T with
  | none => simp [hj] at hz
  | some j =>
    have hzz : j.zero = some z := by simpa [hj] using hz
    simp only [Instr.typeAssert, Sem.run_bind, run_underlying hd, Result.andThen_ok]
    cases d <;> first
      | (simp at hi; done)
      | (by_cases h : u = T <;> simp [h, zeroValue, typeInfo, hj, hzz, Sem.run_bind])
@[go_sem] theorem assert5 (u : TypeId) (v : Value) (w : World) : (Instr.typeAssert (.iface u v) 20 5 true).run Tryz.prog w = .ok (if u = 5 then .tuple #[v, .bool true] else .tuple #[.int .u8 0, .bool false]) w := assert_of Tryz.underlying5 rfl (by kernel_rfl) u v w
@[go_sem] theorem assert167 (u : TypeId) (v : Value) (w : World) : (Instr.typeAssert (.iface u v) 20 167 true).run Tryz.prog w = .ok (if u = 167 then .tuple #[v, .bool true] else .tuple #[.int .u8 0, .bool false]) w := assert_of Tryz.underlying167 rfl (by kernel_rfl) u v w
@[go_sem] theorem assert168 (u : TypeId) (v : Value) (w : World) : (Instr.typeAssert (.iface u v) 20 168 true).run Tryz.prog w = .ok (if u = 168 then .tuple #[v, .bool true] else .tuple #[.int .u8 0, .bool false]) w := assert_of Tryz.underlying168 rfl (by kernel_rfl) u v w
@[go_sem] theorem assert169 (u : TypeId) (v : Value) (w : World) : (Instr.typeAssert (.iface u v) 20 169 true).run Tryz.prog w = .ok (if u = 169 then .tuple #[v, .bool true] else .tuple #[.int .u8 0, .bool false]) w := assert_of Tryz.underlying169 rfl (by kernel_rfl) u v w
@[go_sem] theorem assert4 (u : TypeId) (v : Value) (w : World) : (Instr.typeAssert (.iface u v) 20 4 true).run Tryz.prog w = .ok (if u = 4 then .tuple #[v, .bool true] else .tuple #[.bool false, .bool false]) w := assert_of Tryz.underlying4 rfl (by kernel_rfl) u v w
@[go_sem] theorem assert73 (u : TypeId) (v : Value) (w : World) : (Instr.typeAssert (.iface u v) 20 73 true).run Tryz.prog w = .ok (if u = 73 then .tuple #[v, .bool true] else .tuple #[.int .i16 0, .bool false]) w := assert_of Tryz.underlying73 rfl (by kernel_rfl) u v w
@[go_sem] theorem assert74 (u : TypeId) (v : Value) (w : World) : (Instr.typeAssert (.iface u v) 20 74 true).run Tryz.prog w = .ok (if u = 74 then .tuple #[v, .bool true] else .tuple #[.int .u16 0, .bool false]) w := assert_of Tryz.underlying74 rfl (by kernel_rfl) u v w
@[go_sem] theorem assert21 (u : TypeId) (v : Value) (w : World) : (Instr.typeAssert (.iface u v) 20 21 true).run Tryz.prog w = .ok (if u = 21 then .tuple #[v, .bool true] else .tuple #[.int .i32 0, .bool false]) w := assert_of Tryz.underlying21 rfl (by kernel_rfl) u v w
@[go_sem] theorem assert75 (u : TypeId) (v : Value) (w : World) : (Instr.typeAssert (.iface u v) 20 75 true).run Tryz.prog w = .ok (if u = 75 then .tuple #[v, .bool true] else .tuple #[.int .u32 0, .bool false]) w := assert_of Tryz.underlying75 rfl (by kernel_rfl) u v w
@[go_sem] theorem assert2 (u : TypeId) (v : Value) (w : World) : (Instr.typeAssert (.iface u v) 20 2 true).run Tryz.prog w = .ok (if u = 2 then .tuple #[v, .bool true] else .tuple #[.int .i64 0, .bool false]) w := assert_of Tryz.underlying2 rfl (by kernel_rfl) u v w
@[go_sem] theorem assert22 (u : TypeId) (v : Value) (w : World) : (Instr.typeAssert (.iface u v) 20 22 true).run Tryz.prog w = .ok (if u = 22 then .tuple #[v, .bool true] else .tuple #[.int .u64 0, .bool false]) w := assert_of Tryz.underlying22 rfl (by kernel_rfl) u v w
@[go_sem] theorem assert48 (u : TypeId) (v : Value) (w : World) : (Instr.typeAssert (.iface u v) 20 48 true).run Tryz.prog w = .ok (if u = 48 then .tuple #[v, .bool true] else .tuple #[.float .f64 0, .bool false]) w := assert_of Tryz.underlying48 rfl (by kernel_rfl) u v w
@[go_sem] theorem assert9 (u : TypeId) (v : Value) (w : World) : (Instr.typeAssert (.iface u v) 20 9 true).run Tryz.prog w = .ok (if u = 9 then .tuple #[v, .bool true] else .tuple #[.string ByteArray.empty, .bool false]) w := assert_of Tryz.underlying9 rfl (by kernel_rfl) u v w
@[go_sem] theorem assert76 (u : TypeId) (v : Value) (w : World) : (Instr.typeAssert (.iface u v) 20 76 true).run Tryz.prog w = .ok (if u = 76 then .tuple #[v, .bool true] else .tuple #[.string ByteArray.empty, .bool false]) w := assert_of Tryz.underlying76 rfl (by kernel_rfl) u v w
@[go_sem] theorem assert53 (u : TypeId) (v : Value) (w : World) : (Instr.typeAssert (.iface u v) 20 53 true).run Tryz.prog w = .ok (if u = 53 then .tuple #[v, .bool true] else .tuple #[.agg #[.string ByteArray.empty], .bool false]) w := assert_of Tryz.underlying53 rfl (by kernel_rfl) u v w
@[go_sem] theorem assert55 (u : TypeId) (v : Value) (w : World) : (Instr.typeAssert (.iface u v) 20 55 true).run Tryz.prog w = .ok (if u = 55 then .tuple #[v, .bool true] else .tuple #[.agg #[.string ByteArray.empty, .nilIface], .bool false]) w := assert_of Tryz.underlying55 rfl (by kernel_rfl) u v w
@[go_sem] theorem assert170 (u : TypeId) (v : Value) (w : World) : (Instr.typeAssert (.iface u v) 20 170 true).run Tryz.prog w = .ok (if u = 170 then .tuple #[v, .bool true] else .tuple #[.int .i32 0, .bool false]) w := assert_of Tryz.underlying170 rfl (by kernel_rfl) u v w
@[go_sem] theorem assert77 (u : TypeId) (v : Value) (w : World) : (Instr.typeAssert (.iface u v) 20 77 true).run Tryz.prog w = .ok (if u = 77 then .tuple #[v, .bool true] else .tuple #[.int .u32 0, .bool false]) w := assert_of Tryz.underlying77 rfl (by kernel_rfl) u v w
@[go_sem] theorem assert78 (u : TypeId) (v : Value) (w : World) : (Instr.typeAssert (.iface u v) 20 78 true).run Tryz.prog w = .ok (if u = 78 then .tuple #[v, .bool true] else .tuple #[.slice none 0 0, .bool false]) w := assert_of Tryz.underlying78 rfl (by kernel_rfl) u v w
@[go_sem] theorem assert46 (u : TypeId) (v : Value) (w : World) : (Instr.typeAssert (.iface u v) 20 46 true).run Tryz.prog w = .ok (if u = 46 then .tuple #[v, .bool true] else .tuple #[.slice none 0 0, .bool false]) w := assert_of Tryz.underlying46 rfl (by kernel_rfl) u v w
@[go_sem] theorem assert89 (u : TypeId) (v : Value) (w : World) : (Instr.typeAssert (.iface u v) 20 89 true).run Tryz.prog w = .ok (if u = 89 then .tuple #[v, .bool true] else .tuple #[.pointer none, .bool false]) w := assert_of Tryz.underlying89 rfl (by kernel_rfl) u v w
@[go_sem] theorem assert113 (u : TypeId) (v : Value) (w : World) : (Instr.typeAssert (.iface u v) 20 113 true).run Tryz.prog w = .ok (if u = 113 then .tuple #[v, .bool true] else .tuple #[.pointer none, .bool false]) w := assert_of Tryz.underlying113 rfl (by kernel_rfl) u v w
@[go_sem] theorem assert80 (u : TypeId) (v : Value) (w : World) : (Instr.typeAssert (.iface u v) 20 80 true).run Tryz.prog w = .ok (if u = 80 then .tuple #[v, .bool true] else .tuple #[.agg #[.slice none 0 0], .bool false]) w := assert_of Tryz.underlying80 rfl (by kernel_rfl) u v w
def ToR (t : Ty) (w : World) (e : Ending) (w' : World) : Prop := e = .returned (.string (bs (zty t))) ∧ Below w.heap.size w w'
set_option maxRecDepth 100000 in
set_option maxHeartbeats 6400000 in
theorem to_num (k n : Int) (s : ByteArray) (hk : k = 121 ∨ k = 98 ∨ k = 110 ∨ k = 113 ∨ k = 105 ∨ k = 117 ∨ k = 120 ∨ k = 116 ∨ k = 100 ∨ k = 104 ∨ k = 115 ∨ k = 111 ∨ k = 103) (w : World) :
    Calls Tryz.prog 71 #[numV k n s] w (ToR (.basic (UInt8.ofNat k.toNat)) w) := by
  rcases hk with rfl | rfl | rfl | rfl | rfl | rfl | rfl | rfl | rfl | rfl | rfl | rfl | rfl
  all_goals simp only [numV, if_pos, if_neg, reduceCtorEq, Int.reduceEq, ↓reduceIte]
  all_goals
    go_enter Tryz.func71, Tryz.ntmps71
    go_wp2_with fail
    go_ret
    exact ⟨rfl, by first | exact Below.refl _ _ | exact (Below.refl _ _).alloc (Nat.le_refl _) _⟩
set_option maxRecDepth 100000 in
set_option maxHeartbeats 6400000 in
theorem to_var (s : ByteArray) (u : TypeId) (y : Value) (w : World) :
    Calls Tryz.prog 71 #[.iface 55 (.agg #[.string s, .iface u y])] w (ToR .var w) := by
  go_enter Tryz.func71, Tryz.ntmps71
  go_wp2_with fail
  go_ret
  exact ⟨rfl, (Below.refl _ _).alloc (Nat.le_refl _) _⟩
set_option maxRecDepth 100000 in
set_option maxHeartbeats 6400000 in
theorem to_list (b : Nat) (l : List UInt8) (hl : l.length < 1000000) (w : World) (hc : w.cell? ⟨b, 0, none⟩ = some (.string (bs l))) :
    Calls Tryz.prog 71 #[.iface 89 (.pointer (some ⟨b, 0, none⟩))] w fun e w' => e = .returned (.string (bs (91 :: l))) ∧ Below w.heap.size w w' := by
  go_enter Tryz.func71, Tryz.ntmps71
  go_wp2_with (go_at_call 76; refine (sliceOf_calls _ hl _).mono ?_; rintro _ _ ⟨rfl, rfl⟩)
  go_ret
  exact ⟨rfl, Below.refl _ _⟩
set_option maxRecDepth 100000 in
set_option maxHeartbeats 6400000 in
theorem to_dict (b : Nat) (k l : List UInt8) (hk : k.length < 1000) (hl : l.length < 1000000) (w : World) (hc : w.cell? ⟨b, 0, none⟩ = some (.string (bs k))) (hc1 : w.cell? ⟨b, 1, none⟩ = some (.string (bs l))) :
    Calls Tryz.prog 71 #[.iface 113 (.pointer (some ⟨b, 0, none⟩))] w fun e w' => e = .returned (.string (bs (123 :: (k ++ l)))) ∧ Below w.heap.size w w' := by
  have d0 : w.drew.cell? ⟨b, 0, none⟩ = some (.string (bs k)) := hc
  have d1 : w.drew.cell? ⟨b, 1, none⟩ = some (.string (bs l)) := hc1
  go_enter Tryz.func71, Tryz.ntmps71
  go_wp2_with fail
  go_region_held3 (fun w' => w'.cell? ⟨b, 0, none⟩ = some (.string (bs k)) ∧ w'.cell? ⟨b, 1, none⟩ = some (.string (bs l)))
    (exact ⟨d0, d1⟩)
    (first | (go_at_call 75; refine (mapOf_calls _ _ (by omega) hl _).mono ?_; rintro _ _ ⟨rfl, rfl⟩))
  go_wp2_with fail
  go_ret
  exact ⟨rfl, (Below.refl _ _).drew⟩
def V.ifaced (x : Value) : Prop := ∃ (u : TypeId) (y : Value), x = .iface u y
theorem ite_iface {c : Prop} [Decidable c] {a b : Value} (ha : ∃ (u : TypeId) (y : Value), a = .iface u y) (hb : ∃ (u : TypeId) (y : Value), b = .iface u y) : ∃ (u : TypeId) (y : Value), (if c then a else b) = .iface u y := by
  split
  · exact ha
  · exact hb
theorem numV_iface (k n : Int) (s : ByteArray) : ∃ (u : TypeId) (y : Value), numV k n s = .iface u y := by
  unfold numV
  exact (ite_iface ⟨_, _, rfl⟩ (ite_iface ⟨_, _, rfl⟩ (ite_iface ⟨_, _, rfl⟩ (ite_iface ⟨_, _, rfl⟩ (ite_iface ⟨_, _, rfl⟩ (ite_iface ⟨_, _, rfl⟩ (ite_iface ⟨_, _, rfl⟩ (ite_iface ⟨_, _, rfl⟩ (ite_iface ⟨_, _, rfl⟩ (ite_iface ⟨_, _, rfl⟩ (ite_iface ⟨_, _, rfl⟩ (ite_iface ⟨_, _, rfl⟩ ⟨_, _, rfl⟩))))))))))))
theorem AR.iface {S : Nat → Prop} {w : World} {v : V} {x : Value} (h : AR S w v x) (hk : v.k ≠ 123) : ∃ (u : TypeId) (y : Value), x = .iface u y := by
  obtain ⟨k, n, s, kids⟩ := v
  simp only [V.k] at hk
  simp only [AR] at h
  rw [if_neg hk] at h
  split at h
  · obtain ⟨y, rfl, _⟩ := h; exact ⟨_, _, rfl⟩
  · split at h
    · obtain ⟨ys, A, cap, rfl, _⟩ := h; exact ⟨_, _, rfl⟩
    · split at h
      · obtain ⟨ys, b, _, _, ⟨e, A, cap, _, _, rfl, _⟩ | ⟨kc, e, A, cap, B, cap2, _, _, rfl, _⟩⟩ := h
        · exact ⟨_, _, rfl⟩
        · exact ⟨_, _, rfl⟩
      · subst h; exact numV_iface _ _ _
theorem HT.kind {v : V} {t : Ty} (h : HT v t) : v.k ≠ 123 := by
  cases h <;> simp only [V.k] <;> omega
theorem sig_mem_len {ts : List Ty} {t : Ty} (h : t ∈ ts) : t.sig.length ≤ (Ty.sigs ts).length := by
  induction ts with
  | nil => cases h
  | cons x l ih =>
    simp only [Ty.sigs, List.length_append]
    rcases List.mem_cons.1 h with rfl | h
    · omega
    · have := ih h; omega
theorem bs_inj {a b : List UInt8} (h : bs a = bs b) : a = b := by
  have := congrArg (fun x : ByteArray => x.data.toList) h
  simpa using this
set_option maxRecDepth 100000 in
set_option maxHeartbeats 6400000 in
theorem to_str (kids : List V) (ts : List Ty) (hl : kids.length = ts.length) (h255 : (Ty.sigs ts).length ≤ 255) (hk : kids.length ≤ 1000) (S : Nat → Prop) (ys : List Value) (A : Option Addr) (cap : Nat) (w : World) (hcap : kids.length ≤ cap ∧ cap ≤ maxLen) (hy : ARl S w kids ys) (hrow : Row S w A ys)
    (ih : ∀ (j : Nat) (v : V) (t : Ty), kids[j]? = some v → ts[j]? = some t → v.k ≠ 123 ∧ ∀ (x : Value) (w : World), AR S w v x → Calls Tryz.prog 71 #[x] w (ToR t w)) :
    Calls Tryz.prog 71 #[.iface 80 (.agg #[.slice A kids.length cap])] w (ToR (.str ts) w) := by
  have hzl := ztys_len ts
  have hyl := hy.length
  rw [hl] at hcap ⊢
  go_enter Tryz.func71, Tryz.ntmps71
  go_wp2_with fail
  go_loopw [24, 116] (fun z i wr => ∃ j : Nat, j ≤ ts.length ∧ i = .int .i64 j ∧ z = .string (bs (40 :: ztys (ts.take j))) ∧ Below w.heap.size w wr) (fun _ i _ => ts.length - (intOf i).toNat)
  case atStart => exact ⟨0, Nat.zero_le _, rfl, by simp [ztys]; rfl, (Below.refl _ _).alloc (Nat.le_refl _) _⟩
  case round =>
    obtain ⟨j, hj, rfl, rfl, hb⟩ := hrel
    by_cases hlt : j < ts.length
    · have hjk : j < kids.length := by omega
      obtain ⟨y, hyj, hA⟩ := hy.at_ j _ (List.getElem?_eq_getElem hjk)
      have hih := ih j _ _ (List.getElem?_eq_getElem hjk) (List.getElem?_eq_getElem hlt)
      rcases hrow with h0 | ⟨bb, rfl, hS, hbl, hcell⟩
      · subst h0; simp at hyj
      have hcj := cell_keep hb.block (hcell j y hyj)
      have hAb := hA.below hb
      obtain ⟨u, yv, rfl⟩ := hA.iface hih.1
      have hcall := hih.2 _ _ hAb
      have hlz : (ztys (ts.take j)).length + (zty ts[j]).length ≤ (ztys ts).length := by
        have h1 := congrArg ztys (List.take_append_drop (j + 1) ts)
        rw [ztys_append, List.take_succ_eq_append_getElem hlt, ztys_append] at h1
        have := congrArg List.length h1
        simp [ztys] at this; omega
      have hcc : ¬ 9223372036854775807 < (ztys (ts.take j)).length + 1 + (zty ts[j]).length := by omega
      have hbb : bs (40 :: ztys (ts.take j)) ++ bs (zty ts[j]) = bs (40 :: ztys (ts.take (j + 1))) := by
        rw [List.take_succ_eq_append_getElem hlt, ztys_append]
        exact ba_ext (by simp [bs, ztys])
      have hltk : decide (j < ts.length) = true := by simp; omega
      clear hyj ih hA hih
      go_wp2_with (go_at_call 71; refine hcall.mono ?_; rintro _ w1 ⟨rfl, hb1⟩)
      go_roundw
      case rel => exact ⟨j + 1, by omega, by go_num, rfl, below_then hb hb.size hb1⟩
      case measure => simp [intOf]; omega
    · obtain rfl : j = ts.length := by omega
      simp only [List.take_length]
      have hltk : decide (ts.length < ts.length) = false := by simp
      have hcc : ¬ 9223372036854775807 < (ztys ts).length + 1 + 1 := by omega
      have hbb : bs (40 :: ztys ts) ++ ({ data := #[41] } : ByteArray) = bs (40 :: (ztys ts ++ [41])) := ba_ext (by simp [bs])
      go_wp2_with fail
      go_ret
      exact ⟨rfl, hb⟩
/-- The type of a value that the program made. -/
theorem typeOf_calls {v : V} {t : Ty} (h : HT v t) : t.sig.length ≤ 255 → ∀ (S : Nat → Prop) (x : Value) (w : World), AR S w v x → Calls Tryz.prog 71 #[x] w (ToR t w) := by
  induction h with
  | num k n s hk _ _ _ _ =>
    intro _ S x w hA
    simp only [AR] at hA
    rw [if_neg (by omega), if_neg (by omega), if_neg (by omega), if_neg (by omega)] at hA
    subst hA
    exact to_num k n s (by omega) w
  | txt k n s hk _ =>
    intro _ S x w hA
    simp only [AR] at hA
    rw [if_neg (by omega), if_neg (by omega), if_neg (by omega), if_neg (by omega)] at hA
    subst hA
    exact to_num k n s (by omega) w
  | var n s v t hv _ _ _ _ _ =>
    intro _ S x w hA
    simp only [AR] at hA
    rw [if_neg (by decide), if_pos trivial] at hA
    obtain ⟨y, rfl, hy⟩ := hA
    simp only [ARl] at hy
    obtain ⟨y', r, he, hy', _⟩ := hy
    simp only [List.cons.injEq] at he
    obtain ⟨rfl, _⟩ := he
    obtain ⟨u, yv, rfl⟩ := hy'.iface hv.kind
    exact to_var _ u yv w
  | str n s kids ts hne hlen hl hk ih =>
    intro h255 S x w hA
    simp only [AR] at hA
    rw [if_neg (by decide), if_neg (by decide), if_pos trivial] at hA
    obtain ⟨ys, A, cap, rfl, h1, h2, h3, h4⟩ := hA
    simp only [Ty.sig, List.length_cons, List.length_append, List.length_nil] at h255
    refine to_str kids ts hl (by omega) hlen S ys A cap w ⟨h1, h2⟩ h3 h4 fun j v t hv ht => ⟨(hk j v t hv ht).kind, fun x w hx => ?_⟩
    refine ih j v t hv ht ?_ S x w hx
    have := sig_mem_len (List.mem_of_getElem? ht)
    omega
  | arr n s kids e hs hsz _ hp hke _ _ =>
    intro h255 S x w hA
    simp only [AR] at hA
    rw [if_neg (by decide), if_neg (by decide), if_neg (by decide), if_pos trivial] at hA
    obtain ⟨ys, b, _, _, ⟨e', A, cap, h1, h2, rfl, _, _, hb, _⟩ | ⟨kc, e', A, cap, B, cap2, h1, h2, rfl, _⟩⟩ := hA
    · obtain rfl : e = e' := Ty.sig_inj' hp h2 (by rw [← hs, h1])
      simp only [Ty.sig, List.length_cons] at h255
      exact to_list b (zty e) (by have := zty_len e; omega) w (by rw [cell_of_row _ _ _ _ _ _ hb]; rfl)
    · exfalso
      obtain ⟨c, q, hcq, _, _, h123⟩ := Ty.sig_head hp
      rw [hs, hcq] at h1
      simp at h1
      exact h123 h1.1
  | dict n s kids kc e hs _ _ hkc hkb hp hke _ _ _ _ _ _ =>
    intro h255 S x w hA
    simp only [AR] at hA
    rw [if_neg (by decide), if_neg (by decide), if_neg (by decide), if_pos trivial] at hA
    obtain ⟨ys, b, _, _, ⟨e', A, cap, h1, h2, rfl, _⟩ | ⟨kc', e', A, cap, B, cap2, h1, h2, rfl, _, _, _, _, hb, _⟩⟩ := hA
    · exfalso
      obtain ⟨c, q, hcq, _, _, h123⟩ := Ty.sig_head h2
      rw [hs, hcq] at h1
      simp at h1
      exact h123 h1.1.symm
    · rw [hs] at h1
      simp only [List.cons.injEq, true_and] at h1
      obtain ⟨rfl, h1⟩ := h1
      obtain rfl : e = e' := Ty.sig_inj' hp h2 (List.append_cancel_right h1)
      simp only [Ty.sig, List.length_cons, List.length_append, List.length_nil] at h255
      exact to_dict b [kc] (zty e) (by simp) (by have := zty_len e; omega) w (by rw [cell_of_row _ _ _ _ _ _ hb]; rfl) (by rw [cell_of_row _ _ _ _ _ _ hb]; rfl)
end Go.Proofs.YtjbpphomlmlmaaaGreatDoor
