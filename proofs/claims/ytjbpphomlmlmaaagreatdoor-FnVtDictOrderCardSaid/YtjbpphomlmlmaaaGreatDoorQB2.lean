/- What 'vtTells' and 'vtSteady' tell. -/
import Derived.Test.YtjbpphomlmlmaaaGreatDoorQB1
import Derived.Laws.FloatArith
namespace Go.Proofs.YtjbpphomlmlmaaaGreatDoor
open Go.RowKit
set_option linter.unusedVariables false
/-- The bits of a finite double. -/
def finB (b : Nat) : Bool := match (FloatKind.f64.format.read b) with | .number .. => true | _ => false
theorem sub_same (b : Nat) : FloatKind.f64.format.sub b b = if finB b then some 0 else none := by
  unfold finB Ieee.Format.sub
  cases h : (FloatKind.f64.format.read b) with
  | number s m i =>
    have : (Ieee.Datum.number s m i).sum (Ieee.Datum.number s m i).opposite = some (.number false 0 i) := by
      cases s
      all_goals
        have h1 : (m : Int) + -↑m = 0 := by omega
        have h2 : -(m : Int) + ↑m = 0 := by omega
        simp [Ieee.Datum.sum, Ieee.Datum.opposite, Ieee.signed, h1, h2]
    simp [this, Ieee.Format.write, Ieee.Format.nearest, Ieee.Format.word]
  | infinity s => cases s <;> simp [Ieee.Datum.sum, Ieee.Datum.opposite]
  | nan s m => simp [Ieee.Datum.sum]
theorem read_nan (f : Ieee.Format) (x : Nat) (h : f.infRung < x % f.signWeight) (hb : f.binade ≤ f.infRung) : f.read x = .nan (x / f.signWeight % 2 == 1) (x % f.signWeight - f.infRung) := by
  simp only [Ieee.Format.read]
  rw [if_neg (by omega), if_neg (by omega), if_neg (by omega)]
theorem order_nan (f : Ieee.Format) (x y : Nat) (h : f.infRung < x % f.signWeight) (hb : f.binade ≤ f.infRung) : f.order x y = none := by
  simp only [Ieee.Format.order, read_nan f x h hb, Ieee.Datum.order]
theorem nan_eq (t y : Nat) : FloatKind.f64.format.order (Question.cut (.nanBits .f64 y y) t) 0 = none := by
  refine order_nan _ _ _ ?_ (by decide)
  show 9218868437227405312 < (t % 2 * 9223372036854775808 + 9218868437227405312 + 1 + t / 2 % 4503599627370495) % 9223372036854775808
  have h1 : t % 2 < 2 := Nat.mod_lt _ (by decide)
  have h2 : (t / 2) % 4503599627370495 < 4503599627370495 := Nat.mod_lt _ (by decide)
  generalize t % 2 = a at *
  generalize (t / 2) % 4503599627370495 = c at *
  omega
theorem run_sub_fin (P : Program) (w : World) (t : TypeId) (b : Nat) (h : finB b = true) : (binOp .sub t (.float .f64 b) (.float .f64 b)).run P w = .ok (.float .f64 0) w := by
  simp [binOp, Op.floatArith, sub_same, h]
theorem run_sub_nan (P : Program) (w : World) (t : TypeId) (b : Nat) (h : finB b = false) : (binOp .sub t (.float .f64 b) (.float .f64 b)).run P w = .ok (.float .f64 (Question.cut (.nanBits .f64 b b) (w.tape w.drawn (.nanBits .f64 b b)))) w.drew := by
  simp [binOp, Op.floatArith, sub_same, h, Question.forced]

@[go_sem] theorem run_frombits (n : Int) (w : World) : (callFunc 25 #[.int .u64 n]).run Tryz.prog w = .ok (.value (.float .f64 n.toNat)) w := by
  rw [run_callFunc_extern (e := Extern.MathFloatBits.float64frombits) Tryz.func25 (by kernel_rfl) (by kernel_rfl) (by kernel_rfl) (by kernel_rfl)]
  rfl
theorem zero_eq : (FloatKind.f64.format.order 0 0 == some .eq) = true := by decide

/-- What 'vtSteady' tells. -/
def Fresh (kids : List V) : Prop := ∀ (i j : Nat) (a b : V), i < j → kids[i]? = some a → kids[j]? = some b → b.k = 123 → ∀ (x y : V), a.kids[0]? = some x → b.kids[0]? = some y → sameB y x = false
def KeyLetters (s : ByteArray) : Prop := ∀ (j : Nat) (c : UInt8), s.data.toList[j]? = some 123 → s.data.toList[j + 1]? = some c → keyB c.toNat = true
mutual
def Steady : V → Prop
  | .mk k n s kids => (k = 100 → finB n.toNat = true) ∧ (k = 97 → KeyLetters s) ∧ (k ≠ 100 → Fresh kids) ∧ SteadyAll kids
def SteadyAll : List V → Prop
  | [] => True
  | v :: vs => Steady v ∧ SteadyAll vs
end
theorem SteadyAll_append (a b : List V) : SteadyAll (a ++ b) ↔ SteadyAll a ∧ SteadyAll b := by
  induction a with
  | nil => simp [SteadyAll]
  | cons x a ih => simp [SteadyAll, ih, and_assoc]
theorem SteadyAll_take (l : List V) (j : Nat) (h : j < l.length) (h1 : SteadyAll (l.take j)) (h2 : Steady l[j]) : SteadyAll (l.take (j + 1)) := by
  rw [List.take_succ_eq_append_getElem h, SteadyAll_append]
  exact ⟨h1, h2, trivial⟩
theorem TidAll.at_ {l : List UInt8} : ∀ {kids : List V}, TidAll l kids → ∀ j (h : j < kids.length), sigL kids[j] = l ∧ Tid kids[j]
  | v :: vs, h, 0, _ => h.1
  | v :: vs, h, j + 1, hj => TidAll.at_ h.2 j (by simpa using hj)
theorem TidFields.at_ : ∀ {kids : List V}, TidFields kids → ∀ j (h : j < kids.length), kids[j].k ≠ 123 ∧ Tid kids[j]
  | v :: vs, h, 0, _ => h.1
  | v :: vs, h, j + 1, hj => TidFields.at_ h.2 j (by simpa using hj)
theorem Tid.range : ∀ {v : V}, Tid v → inRangeB v.k v.n = true
  | .mk k n s kids, h => by simp only [Tid] at h; exact h.1
theorem Tid.kidless : ∀ {v : V}, Tid v → basicB v.k = true → v.kids = []
  | .mk k n s kids, h, hb => by
    simp only [Tid] at h
    simp only [V.k] at hb
    have h3 := h.2.2
    split at h3
    · exact h3
    · split at h3
      · subst k; simp [basicB] at hb
      · split at h3
        · rename_i h4; rcases h4 with rfl | rfl <;> simp [basicB] at hb
        · split at h3
          · subst k; simp [basicB] at hb
          · exact h3.2
theorem Tid.entry : ∀ {v : V}, Tid v → v.k = 123 → ∃ a b, v.kids = [a, b] ∧ a.kids = [] ∧ basicB a.k = true ∧ Tid a ∧ Tid b ∧ b.k ≠ 123
  | .mk k n s kids, h, hk => by
    simp only [V.k] at hk
    subst hk
    simp only [Tid] at h
    have h3 := h.2.2
    rw [if_neg (by omega), if_neg (by omega), if_pos (Or.inr trivial)] at h3
    obtain ⟨_, h4, h5⟩ := h3
    obtain ⟨a, b, rfl, h6⟩ := h4 trivial
    have ha := h5.at_ 0 (by simp)
    have hb := h5.at_ 1 (by simp)
    exact ⟨a, b, rfl, ha.2.kidless h6, h6, ha.2, hb.2, hb.1⟩
theorem sigL_head {v : V} : (sigL v)[0]? = some (UInt8.ofNat v.k.toNat) := by
  obtain ⟨k, n, s, kids⟩ := v
  simp only [sigL, V.k]
  split
  · subst k; rfl
  · split
    · subst k; rfl
    · split
      · subst k; rfl
      · rfl
theorem k_of_sig {u v : V} (hu : 0 ≤ u.k ∧ u.k ≤ 255) (hv : 0 ≤ v.k ∧ v.k ≤ 255) (h : sigL u = sigL v) : u.k = v.k := by
  have := sigL_head (v := u)
  rw [h, sigL_head] at this
  have := congrArg UInt8.toNat (Option.some.inj this)
  simp at this
  omega
theorem Rep.kind {S : Nat → Prop} {w : World} {v : V} {x : Value} (h : Rep S w v x) : 0 ≤ v.k ∧ v.k ≤ 255 := by
  obtain ⟨k, n, s, kids⟩ := v
  simp only [Rep] at h
  obtain ⟨A, cap, _, _, _, hk, _⟩ := h
  exact hk
/-- The kids of a tidy value are tidy; where one is an entry, all are. -/
theorem Tid.kids {k n : Int} {s : ByteArray} {kids : List V} (h : Tid (.mk k n s kids)) (hr : ∀ j (hj : j < kids.length), 0 ≤ kids[j].k ∧ kids[j].k ≤ 255) : ∀ j (hj : j < kids.length), Tid kids[j] ∧ (kids[j].k = 123 → ∀ i (hi : i < kids.length), kids[i].k = 123) := by
  simp only [Tid] at h
  have h3 := h.2.2
  intro j hj
  split at h3
  · subst kids; simp at hj
  · split at h3
    · obtain ⟨_, h4⟩ := h3
      refine ⟨(h4.at_ j hj).2, fun h5 i hi => ?_⟩
      have := k_of_sig (hr i hi) (hr j hj) ((h4.at_ i hi).1.trans (h4.at_ j hj).1.symm)
      omega
    · split at h3
      · obtain ⟨_, _, h4⟩ := h3
        exact ⟨(h4.at_ j hj).2, fun h5 => absurd h5 (h4.at_ j hj).1⟩
      · split at h3
        · match kids, h3 with
          | v :: vs, h3 =>
            obtain ⟨rfl, h4, h5, h6, h7⟩ := h3
            obtain rfl : j = 0 := by simpa using hj
            exact ⟨h7, fun h => absurd h h4⟩
        · obtain ⟨_, rfl⟩ := h3; simp at hj
set_option maxRecDepth 100000 in
set_option maxHeartbeats 1600000 in
theorem steady_d (n : Int) (s : ByteArray) (kids : List V) (S : Nat → Prop) (x : Value) (w : World) (hr : Rep S w (.mk 100 n s kids) x) :
    Calls Tryz.prog 18 #[x] w fun e w' => e = .returned (.bool (finB n.toNat)) ∧ Below w.heap.size w w' := by
  simp only [Rep] at hr
  obtain ⟨A, cap, rfl, hc1, hc2, hk, hn, hs, hkids⟩ := hr
  have hb0 : Below w.heap.size w (w.alloc (.cells #[.int .u8 100, .int .u64 n, .string s, .slice A kids.length cap] 25)) := (Below.refl _ _).alloc (Nat.le_refl _) _
  cases hf : finB n.toNat
  · have e1 := fun w t => run_sub_nan Tryz.prog w t n.toNat hf
    have e2 := nan_eq
    go_enter Tryz.func18, Tryz.ntmps18
    go_wp2_with fail
    go_ret
    exact ⟨by simp, hb0.drew⟩
  · have e1 := fun w t => run_sub_fin Tryz.prog w t n.toNat hf
    go_enter Tryz.func18, Tryz.ntmps18
    go_wp2_with fail
    go_ret
    exact ⟨by simp [zero_eq], hb0⟩

theorem Rep.kids_of {S : Nat → Prop} {w : World} {v : V} {c0 c1 c2 : Value} {A : Option Addr} {l cap : Nat} (h : Rep S w v (.agg #[c0, c1, c2, .slice A l cap])) : Reps S w v.kids A 0 := by
  obtain ⟨k, n, s, kids⟩ := v
  simp only [Rep] at h
  obtain ⟨A', cap', he, _, _, _, _, _, hk⟩ := h
  simp only [Value.agg.injEq, Array.mk.injEq, List.cons.injEq, and_true, Value.slice.injEq] at he
  obtain ⟨_, _, _, rfl, _⟩ := he
  exact hk
def FreshTo (kids : List V) (v : V) (m : Nat) : Prop := ∀ (q : Nat) (a : V), q < m → kids[q]? = some a → v.k = 123 → ∀ (x y : V), a.kids[0]? = some x → v.kids[0]? = some y → sameB y x = false
def KeyTo (l : List UInt8) (p : Nat) : Prop := ∀ (j : Nat) (c : UInt8), j < p → l[j]? = some 123 → l[j + 1]? = some c → keyB c.toNat = true
theorem KeyTo.more {l : List UInt8} {p : Nat} (h : KeyTo l p) (hp : p + 1 < l.length) (hk : l[p] = 123 → keyB (l[p + 1].toNat : Int) = true) : KeyTo l (p + 1) := by
  intro j c hj h1 h2
  by_cases hjp : j < p
  · exact h j c hjp h1 h2
  · obtain rfl : j = p := by omega
    rw [List.getElem?_eq_getElem (by omega)] at h1 h2
    cases h2
    exact hk (Option.some.inj h1)
theorem KeyTo.all {l : List UInt8} {p : Nat} (h : KeyTo l p) (hp : l.length ≤ p + 1) : KeyLetters (bs l) := by
  intro j c h1 h2
  rw [show (bs l).data.toList = l from bs_data l] at h1 h2
  have := (List.getElem?_eq_some_iff.1 h2).1
  exact h j c (by omega) h1 h2
theorem FreshTo.more {kids : List V} {v : V} {m : Nat} (hm : m < kids.length) (h : FreshTo kids v m) (h1 : 0 < v.kids.length) (h2 : 0 < kids[m].kids.length) (hs : sameB (v.kids[0]'h1) (kids[m].kids[0]'h2) = false) : FreshTo kids v (m + 1) := by
  intro q a hq ha hk x y hx hy
  by_cases hqm : q < m
  · exact h q a hqm ha hk x y hx hy
  · obtain rfl : q = m := by omega
    rw [List.getElem?_eq_getElem hm] at ha
    cases ha
    rw [List.getElem?_eq_getElem h2] at hx
    cases hx
    rw [List.getElem?_eq_getElem h1] at hy
    cases hy
    exact hs
theorem Fresh.more {kids : List V} {j : Nat} (hj : j < kids.length) (h : Fresh (kids.take j)) (h2 : FreshTo kids kids[j] j) : Fresh (kids.take (j + 1)) := by
  intro i m a b him ha hb
  rw [List.getElem?_take] at ha hb
  have hb1 : m < j + 1 := by split at hb; assumption; cases hb
  rw [if_pos (by omega)] at ha hb
  by_cases hm : m < j
  · exact h i m a b him (by rw [List.getElem?_take, if_pos (by omega)]; exact ha) (by rw [List.getElem?_take, if_pos hm]; exact hb)
  · obtain rfl : m = j := by omega
    obtain rfl : kids[m] = b := by simpa [hj] using hb
    exact h2 i a him ha
set_option maxRecDepth 100000 in
set_option maxHeartbeats 8000000 in
theorem steady_calls (N : Nat) : ∀ (v : V), SizeOf.sizeOf v < N → Tid v → ∀ (S : Nat → Prop) (x : Value) (w : World), Rep S w v x → Calls Tryz.prog 18 #[x] w (Tells (Steady v) w) := by
  induction N with
  | zero => intro v h; omega
  | succ N ih =>
    intro v hN hT S x w hr
    obtain ⟨k, n, s, kids⟩ := v
    by_cases h100 : k = 100
    · subst h100
      have hkids : kids = [] := hT.kidless rfl
      subst hkids
      refine (steady_d n s [] S x w hr).mono ?_
      rintro e w' ⟨rfl, hb⟩
      exact Tells.yes hb fun h => by simp only [Steady]; exact ⟨fun _ => h, fun h => absurd h (by decide), fun h => absurd rfl h, trivial⟩
    obtain ⟨hn1, hn2⟩ := bne_of h100
    simp only [Rep] at hr
    obtain ⟨A, cap, rfl, hc1, hc2, hk, hn, hs, hkids⟩ := hr
    have X0 := Box.new w k n s A kids.length cap
    have hb0 : Below w.heap.size w (w.alloc (.cells #[.int .u8 k, .int .u64 n, .string s, .slice A kids.length cap] 25)) := (Below.refl _ _).alloc (Nat.le_refl _) _
    have HK := Lib.hid (hT.kids fun j hj => (hkids.kid j hj).choose_spec.choose_spec.choose_spec.choose_spec.2.2.2.2.2.2.kind)
    by_cases h97 : k = 97
    · subst h97
      clear hn1 hn2 h100
      obtain ⟨l, rfl⟩ : ∃ l, s = bs l := ⟨s.data.toList, (bs_toList s).symm⟩
      have hll : (bs l).size = l.length := bs_size l
      rw [hll] at hs
      clear hll
      have h100 : ¬ (97 : Int) = 100 := by decide
      go_enter Tryz.func18, Tryz.ntmps18
      go_wp2_with fail
      go_loopw [4] (fun i wr => ∃ p : Nat, p ≤ l.length ∧ i = .int .i64 (p + 1) ∧ Box wr w.heap.size 97 n (bs l) A kids.length cap ∧ Below w.heap.size w wr ∧ Hid (KeyTo l p)) (fun i _ => l.length + 1 - (intOf i).toNat)
      case atStart => exact ⟨0, Nat.zero_le _, rfl, X0, hb0, Lib.hid (fun j c h => by omega)⟩
      case round =>
        rename World => w0
        obtain ⟨p, hp, rfl, XB, hb, HKT⟩ := hrel
        have hbs := hb.size
        obtain ⟨x0, x1, x2, x3⟩ := XB.cells
        by_cases hlt : p + 1 < l.length
        · have hpl : p < l.length := by omega
          cases hc : ((l[p].toNat : Int) == 123)
          · go_wp2_with fail
            go_roundw
            case rel => exact ⟨p + 1, by omega, by go_num, XB, hb, Lib.hid (HKT.out.more hlt fun h => by rw [h] at hc; exact absurd hc (by decide))⟩
            case measure => simp [intOf]; omega
          · cases hkb : keyB (l[p+1].toNat : Int)
            · go_wp2_with (go_at_call 26; refine (vtKey_calls _ _).mono ?_; rintro e w1 ⟨rfl, hb1⟩)
              go_ret
              exact Tells.no (hb.trans (hb1.mono hbs))
            · go_wp2_with (go_at_call 26; refine (vtKey_calls _ _).mono ?_; rintro e w1 ⟨rfl, hb1⟩)
              go_roundw
              case rel => exact ⟨p + 1, by omega, by go_num, XB.keep hb1, hb.trans (hb1.mono hbs), Lib.hid (HKT.out.more hlt fun _ => hkb)⟩
              case measure => simp [intOf]; omega
        · have HL : (97 : Int) = 97 → KeyLetters (bs l) := fun _ => HKT.out.all (by omega)
          go_wp2_with fail
          go_loopw [48] (fun i wr => ∃ j : Nat, j ≤ kids.length ∧ i = .int .i64 j ∧ Box wr w.heap.size 97 n (bs l) A kids.length cap ∧ Below w.heap.size w wr ∧ Hid (Fresh (kids.take j) ∧ SteadyAll (kids.take j))) (fun i _ => kids.length - (intOf i).toNat)
          case atStart => exact ⟨0, Nat.zero_le _, rfl, XB, hb, Lib.hid ⟨by intro i j a b _ h; simp at h, trivial⟩⟩
          case round =>
            clear hb XB
            rename World => w1
            obtain ⟨j, hj, rfl, XB, hb, HP⟩ := hrel
            have hbs := hb.size
            obtain ⟨x0, x1, x2, x3⟩ := XB.cells
            have x3' := cellA x3
            by_cases hlt : j < kids.length
            · obtain ⟨b, o, A', cap', rfl, _, h0, h1, h2, h3, hv⟩ := (hkids.keep fun b hlt _ => hb.block b hlt).kid j hlt
              have hsz := sizeOf_kid hN hlt
              have hTj := (HK.out j hlt).1
              have KJ := Box.new w1 kids[j].k kids[j].n kids[j].s A' kids[j].kids.length cap'
              have hbj : Below w1.heap.size w1 (w1.alloc (.cells #[.int .u8 kids[j].k, .int .u64 kids[j].n, .string kids[j].s, .slice A' kids[j].kids.length cap'] 25)) := (Below.refl _ _).alloc (Nat.le_refl _) _
              go_wp2_with fail
              go_loopw [58] (fun i wq => ∃ m : Nat, m ≤ j ∧ i = .int .i64 m ∧ Box wq w1.heap.size kids[j].k kids[j].n kids[j].s A' kids[j].kids.length cap' ∧ Below w1.heap.size w1 wq ∧ Hid (FreshTo kids kids[j] m)) (fun i _ => j - (intOf i).toNat)
              case atStart => exact ⟨0, Nat.zero_le _, rfl, KJ, hbj, Lib.hid (fun q a h => by omega)⟩
              case round =>
                clear KJ hbj
                rename World => wq
                obtain ⟨m, hm, rfl, KJ, hbj, HQ⟩ := hrel
                have hbjs := hbj.size
                obtain ⟨k0, k1, k2, k3⟩ := KJ.cells
                have hv' := hv.below hbj
                by_cases hml : m < j
                · obtain ⟨b2, o2, A2, cap2, he2, _, g0, g1, g2, g3, hvm⟩ := (((hkids.keep fun b hlt _ => hb.block b hlt)).keep fun b hlt _ => hbj.block b hlt).kid m (by omega)
                  obtain ⟨rfl, rfl⟩ : b = b2 ∧ o = o2 := by simpa using he2
                  have KM : Box ((wq.alloc (.cells #[.int .u8 kids[m].k, .int .u64 kids[m].n, .string kids[m].s, .slice A2 kids[m].kids.length cap2] 25)).drew) wq.heap.size kids[m].k kids[m].n kids[m].s A2 kids[m].kids.length cap2 := Box.new wq kids[m].k kids[m].n kids[m].s A2 kids[m].kids.length cap2
                  have hbm : Below wq.heap.size wq ((wq.alloc (.cells #[.int .u8 kids[m].k, .int .u64 kids[m].n, .string kids[m].s, .slice A2 kids[m].kids.length cap2] 25)).drew) := ((Below.refl _ _).alloc (Nat.le_refl _) _).drew
                  obtain ⟨n0, n1, n2, n3⟩ := (KJ.keep hbm).cells
                  have hbm0 : Below wq.heap.size wq (wq.alloc (.cells #[.int .u8 kids[m].k, .int .u64 kids[m].n, .string kids[m].s, .slice A2 kids[m].kids.length cap2] 25)) := ((Below.refl _ _).alloc (Nat.le_refl _) _)
                  obtain ⟨p0, p1, p2, p3⟩ := (KJ.keep hbm0).cells
                  cases h123 : (kids[j].k == 123)
                  · go_wp2_with fail
                    go_quiet (fail)
                    have hbm' := below_drewN hbm0 nq
                    go_wp2_with fail
                    go_roundw
                    case rel => exact ⟨m + 1, by omega, by go_num, KJ.keep hbm', hbj.trans (hbm'.mono hbjs), Lib.hid (fun q a hq ha h => absurd h (by simpa using h123))⟩
                    case measure => simp [intOf]; omega
                  · have h123' : kids[j].k = 123 := by simpa using h123
                    obtain ⟨kj, vj, hkj, hkj0, hkjb, _⟩ := hTj.entry h123'
                    obtain ⟨km, vm, hkm, hkm0, hkmb, _⟩ := (HK.out m (by omega)).1.entry ((HK.out j hlt).2 h123' m (by omega))
                    have hl1 : 0 < kids[j].kids.length := by rw [hkj]; exact Nat.succ_pos _
                    have hl2 : 0 < kids[m].kids.length := by rw [hkm]; exact Nat.succ_pos _
                    have hl1' : (0 : Int) < (kids[j].kids.length : Int) := by omega
                    have hl2' : (0 : Int) < (kids[m].kids.length : Int) := by omega
                    have hkid1 : (kids[j].kids[0]'hl1).kids = [] := by
                      have hq : kids[j].kids[0]'hl1 = kj := by simp [hkj]
                      rw [hq]; exact hkj0
                    have hkid0 := Lib.hid hkid1
                    clear hkid1
                    clear hkj hkm h123'
                    have hje := hv'.below hbm
                    have hme := hvm.below hbm
                    obtain ⟨ba, oa, Aa, capa, rfl, _, a0, a1, a2, a3, hva⟩ := hje.kids_of.kid 0 hl1
                    obtain ⟨bc, oc, Ac, capc, rfl, _, c0, c1, c2, c3, hvc⟩ := hme.kids_of.kid 0 hl2
                    simp only [Nat.zero_mul, Nat.add_zero] at a0 a1 a2 a3 hva c0 c1 c2 c3 hvc
                    obtain ⟨r0, r1, r2, r3⟩ := KM.cells
                    go_wp2_with fail
                    go_region_held3 (fun w' => w'.cell? ⟨w1.heap.size, 0, none⟩ = some (.int .u8 kids[j].k) ∧ w'.cell? ⟨w1.heap.size, 3, none⟩ = some (.slice (some ⟨ba, oa, none⟩) kids[j].kids.length cap') ∧ w'.cell? ⟨wq.heap.size, 3, none⟩ = some (.slice (some ⟨bc, oc, none⟩) kids[m].kids.length cap2) ∧
                        w'.cell? ⟨ba, oa, none⟩ = some (.int .u8 (kids[j].kids[0]'hl1).k) ∧ w'.cell? ⟨ba, oa + 1, none⟩ = some (.int .u64 (kids[j].kids[0]'hl1).n) ∧ w'.cell? ⟨ba, oa + 2, none⟩ = some (.string (kids[j].kids[0]'hl1).s) ∧ w'.cell? ⟨ba, oa + 3, none⟩ = some (.slice Aa (kids[j].kids[0]'hl1).kids.length capa) ∧
                        w'.cell? ⟨bc, oc, none⟩ = some (.int .u8 (kids[m].kids[0]'hl2).k) ∧ w'.cell? ⟨bc, oc + 1, none⟩ = some (.int .u64 (kids[m].kids[0]'hl2).n) ∧ w'.cell? ⟨bc, oc + 2, none⟩ = some (.string (kids[m].kids[0]'hl2).s) ∧ w'.cell? ⟨bc, oc + 3, none⟩ = some (.slice Ac (kids[m].kids[0]'hl2).kids.length capc))
                      (first | exact ⟨n0, n3, r3, a0, a1, a2, a3, c0, c1, c2, c3⟩ | exact ⟨cell_keep hb2.block n0, cell_keep hb2.block n3, cell_keep hb2.block r3, cell_keep hb2.block a0, cell_keep hb2.block a1, cell_keep hb2.block a2, cell_keep hb2.block a3, cell_keep hb2.block c0, cell_keep hb2.block c1, cell_keep hb2.block c2, cell_keep hb2.block c3⟩)
                      (first
                        | (go_at_call 27; refine (same_calls _ _ hkid0.out _ _ _ _ hva hvc).mono ?_; rintro e w2 ⟨rfl, hb2⟩))
                    have hbm2 := hbm.trans (hb2.mono hbm.size)
                    have hbj2 := hbj.trans (hbm2.mono hbjs)
                    cases hsm : sameB (kids[j].kids[0]'hl1) (kids[m].kids[0]'hl2)
                    · go_wp2_with fail
                      go_roundw
                      case rel => exact ⟨m + 1, by omega, by go_num, KJ.keep hbm2, hbj2, Lib.hid (HQ.out.more (by omega) hl1 hl2 hsm)⟩
                      case measure => simp [intOf]; omega
                    · go_wp2_with fail
                      go_ret
                      exact Tells.no (hb.trans (hbj2.mono hbs))
                · have hmj : m = j := by omega
                  subst hmj
                  have hbw := hb.trans (hbj.mono hbs)
                  have XB2 := XB.keep hbj
                  have hwb := hbw.size
                  go_wp2_with (go_at_call 18; refine (ih _ hsz hTj _ _ _ hv').mono ?_; rintro e w1 ⟨t, rfl, ht, hb1⟩; have HT := Lib.hid ht; clear ht)
                  · go_ret
                    exact Tells.no (hbw.trans (hb1.mono hwb))
                  · obtain rfl : t = true := by simpa using (by assumption : (!t) = false)
                    go_roundw
                    case rel => exact ⟨m + 1, by omega, by go_num, XB2.keep hb1, hbw.trans (hb1.mono hwb), Lib.hid ⟨Fresh.more hlt HP.out.1 HQ.out, SteadyAll_take _ _ hlt HP.out.2 (HT.out rfl)⟩⟩
                    case measure => simp [intOf]; omega
            · have hil : j = kids.length := by omega
              subst hil
              go_wp2_with fail
              go_ret
              refine Tells.yes hb fun _ => ?_
              have := HP.out
              rw [List.take_length] at this
              simp only [Steady]
              exact ⟨fun h => absurd h h100, HL, fun _ => this.1, this.2⟩
    · obtain ⟨hn3, hn4⟩ := bne_of h97
      go_enter Tryz.func18, Tryz.ntmps18
      go_wp2_with fail
      go_loopw [4] (fun i wr => i = .int .i64 1 ∧ Box wr w.heap.size k n s A kids.length cap ∧ Below w.heap.size w wr) (fun _ _ => 0)
      case atStart => exact ⟨rfl, X0, hb0⟩
      case round =>
        obtain ⟨rfl, XB, hb⟩ := hrel
        have HL : k = 97 → KeyLetters s := fun h => absurd h h97
        obtain ⟨x0, x1, x2, x3⟩ := XB.cells
        go_wp2_with fail
        go_loopw [48] (fun i wr => ∃ j : Nat, j ≤ kids.length ∧ i = .int .i64 j ∧ Box wr w.heap.size k n s A kids.length cap ∧ Below w.heap.size w wr ∧ Hid (Fresh (kids.take j) ∧ SteadyAll (kids.take j))) (fun i _ => kids.length - (intOf i).toNat)
        case atStart => exact ⟨0, Nat.zero_le _, rfl, XB, hb, Lib.hid ⟨by intro i j a b _ h; simp at h, trivial⟩⟩
        case round =>
          clear hb XB
          rename World => w1
          obtain ⟨j, hj, rfl, XB, hb, HP⟩ := hrel
          have hbs := hb.size
          obtain ⟨x0, x1, x2, x3⟩ := XB.cells
          have x3' := cellA x3
          by_cases hlt : j < kids.length
          · obtain ⟨b, o, A', cap', rfl, _, h0, h1, h2, h3, hv⟩ := (hkids.keep fun b hlt _ => hb.block b hlt).kid j hlt
            have hsz := sizeOf_kid hN hlt
            have hTj := (HK.out j hlt).1
            have KJ := Box.new w1 kids[j].k kids[j].n kids[j].s A' kids[j].kids.length cap'
            have hbj : Below w1.heap.size w1 (w1.alloc (.cells #[.int .u8 kids[j].k, .int .u64 kids[j].n, .string kids[j].s, .slice A' kids[j].kids.length cap'] 25)) := (Below.refl _ _).alloc (Nat.le_refl _) _
            go_wp2_with fail
            go_loopw [58] (fun i wq => ∃ m : Nat, m ≤ j ∧ i = .int .i64 m ∧ Box wq w1.heap.size kids[j].k kids[j].n kids[j].s A' kids[j].kids.length cap' ∧ Below w1.heap.size w1 wq ∧ Hid (FreshTo kids kids[j] m)) (fun i _ => j - (intOf i).toNat)
            case atStart => exact ⟨0, Nat.zero_le _, rfl, KJ, hbj, Lib.hid (fun q a h => by omega)⟩
            case round =>
              clear KJ hbj
              rename World => wq
              obtain ⟨m, hm, rfl, KJ, hbj, HQ⟩ := hrel
              have hbjs := hbj.size
              obtain ⟨k0, k1, k2, k3⟩ := KJ.cells
              have hv' := hv.below hbj
              by_cases hml : m < j
              · obtain ⟨b2, o2, A2, cap2, he2, _, g0, g1, g2, g3, hvm⟩ := (((hkids.keep fun b hlt _ => hb.block b hlt)).keep fun b hlt _ => hbj.block b hlt).kid m (by omega)
                obtain ⟨rfl, rfl⟩ : b = b2 ∧ o = o2 := by simpa using he2
                have KM : Box ((wq.alloc (.cells #[.int .u8 kids[m].k, .int .u64 kids[m].n, .string kids[m].s, .slice A2 kids[m].kids.length cap2] 25)).drew) wq.heap.size kids[m].k kids[m].n kids[m].s A2 kids[m].kids.length cap2 := Box.new wq kids[m].k kids[m].n kids[m].s A2 kids[m].kids.length cap2
                have hbm : Below wq.heap.size wq ((wq.alloc (.cells #[.int .u8 kids[m].k, .int .u64 kids[m].n, .string kids[m].s, .slice A2 kids[m].kids.length cap2] 25)).drew) := ((Below.refl _ _).alloc (Nat.le_refl _) _).drew
                obtain ⟨n0, n1, n2, n3⟩ := (KJ.keep hbm).cells
                have hbm0 : Below wq.heap.size wq (wq.alloc (.cells #[.int .u8 kids[m].k, .int .u64 kids[m].n, .string kids[m].s, .slice A2 kids[m].kids.length cap2] 25)) := ((Below.refl _ _).alloc (Nat.le_refl _) _)
                obtain ⟨p0, p1, p2, p3⟩ := (KJ.keep hbm0).cells
                cases h123 : (kids[j].k == 123)
                · go_wp2_with fail
                  go_quiet (fail)
                  have hbm' := below_drewN hbm0 nq
                  go_wp2_with fail
                  go_roundw
                  case rel => exact ⟨m + 1, by omega, by go_num, KJ.keep hbm', hbj.trans (hbm'.mono hbjs), Lib.hid (fun q a hq ha h => absurd h (by simpa using h123))⟩
                  case measure => simp [intOf]; omega
                · have h123' : kids[j].k = 123 := by simpa using h123
                  obtain ⟨kj, vj, hkj, hkj0, hkjb, _⟩ := hTj.entry h123'
                  obtain ⟨km, vm, hkm, hkm0, hkmb, _⟩ := (HK.out m (by omega)).1.entry ((HK.out j hlt).2 h123' m (by omega))
                  have hl1 : 0 < kids[j].kids.length := by rw [hkj]; exact Nat.succ_pos _
                  have hl2 : 0 < kids[m].kids.length := by rw [hkm]; exact Nat.succ_pos _
                  have hl1' : (0 : Int) < (kids[j].kids.length : Int) := by omega
                  have hl2' : (0 : Int) < (kids[m].kids.length : Int) := by omega
                  have hkid1 : (kids[j].kids[0]'hl1).kids = [] := by
                    have hq : kids[j].kids[0]'hl1 = kj := by simp [hkj]
                    rw [hq]; exact hkj0
                  have hkid0 := Lib.hid hkid1
                  clear hkid1
                  clear hkj hkm h123'
                  have hje := hv'.below hbm
                  have hme := hvm.below hbm
                  obtain ⟨ba, oa, Aa, capa, rfl, _, a0, a1, a2, a3, hva⟩ := hje.kids_of.kid 0 hl1
                  obtain ⟨bc, oc, Ac, capc, rfl, _, c0, c1, c2, c3, hvc⟩ := hme.kids_of.kid 0 hl2
                  simp only [Nat.zero_mul, Nat.add_zero] at a0 a1 a2 a3 hva c0 c1 c2 c3 hvc
                  obtain ⟨r0, r1, r2, r3⟩ := KM.cells
                  go_wp2_with fail
                  go_region_held3 (fun w' => w'.cell? ⟨w1.heap.size, 0, none⟩ = some (.int .u8 kids[j].k) ∧ w'.cell? ⟨w1.heap.size, 3, none⟩ = some (.slice (some ⟨ba, oa, none⟩) kids[j].kids.length cap') ∧ w'.cell? ⟨wq.heap.size, 3, none⟩ = some (.slice (some ⟨bc, oc, none⟩) kids[m].kids.length cap2) ∧
                      w'.cell? ⟨ba, oa, none⟩ = some (.int .u8 (kids[j].kids[0]'hl1).k) ∧ w'.cell? ⟨ba, oa + 1, none⟩ = some (.int .u64 (kids[j].kids[0]'hl1).n) ∧ w'.cell? ⟨ba, oa + 2, none⟩ = some (.string (kids[j].kids[0]'hl1).s) ∧ w'.cell? ⟨ba, oa + 3, none⟩ = some (.slice Aa (kids[j].kids[0]'hl1).kids.length capa) ∧
                      w'.cell? ⟨bc, oc, none⟩ = some (.int .u8 (kids[m].kids[0]'hl2).k) ∧ w'.cell? ⟨bc, oc + 1, none⟩ = some (.int .u64 (kids[m].kids[0]'hl2).n) ∧ w'.cell? ⟨bc, oc + 2, none⟩ = some (.string (kids[m].kids[0]'hl2).s) ∧ w'.cell? ⟨bc, oc + 3, none⟩ = some (.slice Ac (kids[m].kids[0]'hl2).kids.length capc))
                    (first | exact ⟨n0, n3, r3, a0, a1, a2, a3, c0, c1, c2, c3⟩ | exact ⟨cell_keep hb2.block n0, cell_keep hb2.block n3, cell_keep hb2.block r3, cell_keep hb2.block a0, cell_keep hb2.block a1, cell_keep hb2.block a2, cell_keep hb2.block a3, cell_keep hb2.block c0, cell_keep hb2.block c1, cell_keep hb2.block c2, cell_keep hb2.block c3⟩)
                    (first
                      | (go_at_call 27; refine (same_calls _ _ hkid0.out _ _ _ _ hva hvc).mono ?_; rintro e w2 ⟨rfl, hb2⟩))
                  have hbm2 := hbm.trans (hb2.mono hbm.size)
                  have hbj2 := hbj.trans (hbm2.mono hbjs)
                  cases hsm : sameB (kids[j].kids[0]'hl1) (kids[m].kids[0]'hl2)
                  · go_wp2_with fail
                    go_roundw
                    case rel => exact ⟨m + 1, by omega, by go_num, KJ.keep hbm2, hbj2, Lib.hid (HQ.out.more (by omega) hl1 hl2 hsm)⟩
                    case measure => simp [intOf]; omega
                  · go_wp2_with fail
                    go_ret
                    exact Tells.no (hb.trans (hbj2.mono hbs))
              · have hmj : m = j := by omega
                subst hmj
                have hbw := hb.trans (hbj.mono hbs)
                have XB2 := XB.keep hbj
                have hwb := hbw.size
                go_wp2_with (go_at_call 18; refine (ih _ hsz hTj _ _ _ hv').mono ?_; rintro e w1 ⟨t, rfl, ht, hb1⟩; have HT := Lib.hid ht; clear ht)
                · go_ret
                  exact Tells.no (hbw.trans (hb1.mono hwb))
                · obtain rfl : t = true := by simpa using (by assumption : (!t) = false)
                  go_roundw
                  case rel => exact ⟨m + 1, by omega, by go_num, XB2.keep hb1, hbw.trans (hb1.mono hwb), Lib.hid ⟨Fresh.more hlt HP.out.1 HQ.out, SteadyAll_take _ _ hlt HP.out.2 (HT.out rfl)⟩⟩
                  case measure => simp [intOf]; omega
          · have hil : j = kids.length := by omega
            subst hil
            go_wp2_with fail
            go_ret
            refine Tells.yes hb fun _ => ?_
            have := HP.out
            rw [List.take_length] at this
            simp only [Steady]
            exact ⟨fun h => absurd h h100, HL, fun _ => this.1, this.2⟩

mutual
def tells : V → Bool
  | .mk k _ _ kids => if k = 98 ∨ k = 105 ∨ k = 115 ∨ k = 118 then true else if k = 97 ∨ k = 40 ∨ k = 123 then (decide (0 < kids.length)) && tellsAll kids else false
def tellsAll : List V → Bool
  | [] => true
  | v :: vs => tells v && tellsAll vs
end
theorem tellsAll_append (l : List V) (v : V) : tellsAll (l ++ [v]) = (tellsAll l && tells v) := by
  induction l with
  | nil => simp [tellsAll]
  | cons x l ih => simp [tellsAll, ih, Bool.and_assoc]
theorem tellsAll_take (l : List V) (j : Nat) (h : j < l.length) : tellsAll (l.take (j + 1)) = (tellsAll (l.take j) && tells l[j]) := by
  rw [List.take_succ_eq_append_getElem h, tellsAll_append]
theorem vtTells_split (k : Int) : ((k = 98 ∨ k = 105 ∨ k = 115 ∨ k = 118) ∨ (k = 97 ∨ k = 40 ∨ k = 123)) ∨ ((k == 98) = false ∧ (k == 105) = false ∧ (k == 115) = false ∧ (k == 118) = false ∧ (k == 97) = false ∧ (k == 40) = false ∧ (k == 123) = false) := by
  simp only [beq_eq_false_iff_ne]; omega
set_option maxHeartbeats 800000 in
theorem vtTells_calls (N : Nat) : ∀ (v : V), SizeOf.sizeOf v < N → ∀ (S : Nat → Prop) (x : Value) (w : World), Rep S w v x →
    Calls Tryz.prog 12 #[x] w fun e w' => e = .returned (.bool (tells v)) ∧ Below w.heap.size w w' := by
  induction N with
  | zero => intro v h; omega
  | succ N ih =>
    intro v hN S x w hr
    obtain ⟨k, n, s, kids⟩ := v
    have hr0 := hr
    simp only [Rep] at hr
    obtain ⟨A, cap, rfl, hc1, hc2, hk, hn, hs, hkids⟩ := hr
    rcases vtTells_split k with ((rfl | rfl | rfl | rfl) | (rfl | rfl | rfl)) | ⟨e1, e2, e3, e4, e5, e6, e7⟩
    iterate 4
      · go_enter Tryz.func12, Tryz.ntmps12
        go_wp2_with fail
        go_ret
        exact ⟨by simp [tells], (Below.refl _ _).alloc (Nat.le_refl _) _⟩
    rotate_right
    · go_enter Tryz.func12, Tryz.ntmps12
      go_wp2_with fail
      go_ret
      exact ⟨by simp_all [tells], (Below.refl _ _).alloc (Nat.le_refl _) _⟩
    all_goals go_enter Tryz.func12, Tryz.ntmps12
    all_goals go_wp2_with fail
    all_goals
      go_loopw [3, 24] (fun ok i wr => ∃ j : Nat, j ≤ kids.length ∧ i = .int .i64 j ∧ ok = .bool (decide (0 < kids.length) && tellsAll (kids.take j)) ∧ Below w.heap.size w wr) (fun _ i _ => kids.length - (intOf i).toNat)
      case atStart => exact ⟨0, Nat.zero_le _, rfl, by simp [tellsAll], (Below.refl _ _).alloc (Nat.le_refl _) _⟩
      case round =>
        obtain ⟨j, hj, rfl, rfl, hb⟩ := hrel
        have hbs := hb.size
        by_cases hlt : j < kids.length
        · obtain ⟨b, o, A', cap', rfl, _, h0, h1, h2, h3, hv⟩ := (hkids.keep fun b hlt _ => hb.block b hlt).kid j hlt
          have hsz := sizeOf_kid hN hlt
          have HT := Lib.hid (tellsAll_take kids j hlt)
          cases hok : (decide (0 < kids.length) && tellsAll (kids.take j))
          · go_wp2_with fail
            go_roundw
            case rel => exact ⟨j + 1, by omega, by go_num, by rw [HT.out, ← Bool.and_assoc, hok]; rfl, hb.alloc hb.size _⟩
            case measure => simp [intOf]; omega
          · go_wp2_with (go_at_call 12; refine (ih _ hsz _ _ _ (hv.below ((Below.refl _ _).alloc (Nat.le_refl _) _))).mono ?_; rintro e w1 ⟨rfl, hb1⟩)
            go_roundw
            case rel => exact ⟨j + 1, by omega, by go_num, by rw [HT.out, ← Bool.and_assoc, hok]; rfl, (hb.alloc hb.size _).trans (hb1.mono (by simp; omega))⟩
            case measure => simp [intOf]; omega
        · go_wp2_with fail
          go_ret
          have hjl : j = kids.length := by omega
          subst hjl
          exact ⟨by simp_all [tells], hb⟩
end Go.Proofs.YtjbpphomlmlmaaaGreatDoor
