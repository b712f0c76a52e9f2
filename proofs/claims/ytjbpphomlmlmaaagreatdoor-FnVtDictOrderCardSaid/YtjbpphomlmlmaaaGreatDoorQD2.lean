/- How the values that the program makes lie in memory. -/
import Derived.Test.YtjbpphomlmlmaaaGreatDoorQD1
namespace Go.Proofs.YtjbpphomlmlmaaaGreatDoor
open Go.RowKit
set_option linter.unusedVariables false
/-- A number or a text as 'any'. -/
def numV (k n : Int) (s : ByteArray) : Value :=
  if k = 121 then .iface 5 (.int .u8 (IntKind.u8.wrap n)) else if k = 98 then .iface 4 (.bool (n != 0)) else if k = 110 then .iface 73 (.int .i16 (IntKind.i16.wrap n))
  else if k = 113 then .iface 74 (.int .u16 (IntKind.u16.wrap n)) else if k = 105 then .iface 21 (.int .i32 (wrap32 n)) else if k = 117 then .iface 75 (.int .u32 (IntKind.u32.wrap n))
  else if k = 120 then .iface 2 (.int .i64 (wrap64 n)) else if k = 116 then .iface 22 (.int .u64 n) else if k = 100 then .iface 48 (.float .f64 n.toNat)
  else if k = 104 then .iface 77 (.int .u32 (IntKind.u32.wrap n)) else if k = 115 then .iface 9 (.string s) else if k = 111 then .iface 76 (.string s) else .iface 53 (.agg #[.string s])
/-- A row of values, one cell each, behind an address. -/
def Row (S : Nat → Prop) (w : World) (A : Option Addr) (ys : List Value) : Prop :=
  ys = [] ∨ ∃ b, A = some ⟨b, 0, none⟩ ∧ S b ∧ b < w.heap.size ∧ ∀ (j : Nat) (y : Value), ys[j]? = some y → w.cell? ⟨b, j, none⟩ = some y
def fstV : Value → Value | .agg a => a[0]?.getD .nilIface | _ => .nilIface
def sndV : Value → Value | .agg a => a[1]?.getD .nilIface | _ => .nilIface
mutual
def AR (S : Nat → Prop) (w : World) : V → Value → Prop
  | .mk k n s kids, x =>
    if k = 123 then ∃ y z, x = .agg #[y, z] ∧ ARl S w kids [y, z]
    else if k = 118 then ∃ y, x = .iface 55 (.agg #[.string (bs (sigL (kids.headD (.mk 0 0 s [])))), y]) ∧ ARl S w kids [y]
    else if k = 40 then ∃ ys A cap, x = .iface 80 (.agg #[.slice A kids.length cap]) ∧ kids.length ≤ cap ∧ cap ≤ maxLen ∧ ARl S w kids ys ∧ Row S w A ys
    else if k = 97 then ∃ ys b, ARl S w kids ys ∧ S b ∧
      ((∃ (e : Ty) (A : Option Addr) (cap : Nat), s.data.toList = e.sig ∧ e.plain ∧ x = .iface 89 (.pointer (some ⟨b, 0, none⟩)) ∧ kids.length ≤ cap ∧ cap ≤ maxLen ∧ w.heap[b]? = some (.cells #[.string (bs (zty e)), .slice A kids.length cap] 91 (0, 0)) ∧ Row S w A ys) ∨
       (∃ (kc : UInt8) (e : Ty) (A : Option Addr) (cap : Nat) (B : Option Addr) (cap2 : Nat), s.data.toList = 123 :: kc :: (e.sig ++ [125]) ∧ e.plain ∧ x = .iface 113 (.pointer (some ⟨b, 0, none⟩)) ∧ kids.length ≤ cap ∧ cap ≤ maxLen ∧ kids.length ≤ cap2 ∧ cap2 ≤ maxLen ∧
         w.heap[b]? = some (.cells #[.string (bs [kc]), .string (bs (zty e)), .slice A kids.length cap, .slice B kids.length cap2] 116 (0, 0)) ∧ Row S w A (ys.map fstV) ∧ Row S w B (ys.map sndV)))
    else x = numV k n s
def ARl (S : Nat → Prop) (w : World) : List V → List Value → Prop
  | [], ys => ys = []
  | v :: vs, ys => ∃ y r, ys = y :: r ∧ AR S w v y ∧ ARl S w vs r
end
theorem Row.keep {S S' : Nat → Prop} {w w' : World} (h : ∀ b, b < w.heap.size → S b → w'.heap[b]? = w.heap[b]? ∧ S' b) (hs : w.heap.size ≤ w'.heap.size) {A : Option Addr} {ys : List Value} (hr : Row S w A ys) : Row S' w' A ys := by
  rcases hr with h0 | ⟨b, hA, hS, hlt, hc⟩
  · exact .inl h0
  · exact .inr ⟨b, hA, (h b hlt hS).2, by omega, fun j y hj => (World.cell?_of_block (a := ⟨b, j, none⟩) (h b hlt hS).1).trans (hc j y hj)⟩
mutual
theorem AR.keep {S S' : Nat → Prop} {w w' : World} (h : ∀ b, b < w.heap.size → S b → w'.heap[b]? = w.heap[b]? ∧ S' b) (hs : w.heap.size ≤ w'.heap.size) : ∀ {v : V} {x : Value}, AR S w v x → AR S' w' v x
  | .mk k n s kids, x, hr => by
    simp only [AR] at hr ⊢
    split at hr
    · rw [if_pos (by assumption)]
      obtain ⟨y, z, h1, h2⟩ := hr
      exact ⟨y, z, h1, ARl.keep h hs h2⟩
    · rw [if_neg (by assumption)]
      split at hr
      · rw [if_pos (by assumption)]
        obtain ⟨y, h1, h2⟩ := hr
        exact ⟨y, h1, ARl.keep h hs h2⟩
      · rw [if_neg (by assumption)]
        split at hr
        · rw [if_pos (by assumption)]
          obtain ⟨ys, A, cap, h1, h2, h3, h4, h5⟩ := hr
          exact ⟨ys, A, cap, h1, h2, h3, ARl.keep h hs h4, h5.keep h hs⟩
        · rw [if_neg (by assumption)]
          split at hr
          · rw [if_pos (by assumption)]
            obtain ⟨ys, b, h1, h2, h3⟩ := hr
            have hlt : b < w.heap.size := by
              rcases h3 with ⟨e, A, cap, _, _, _, _, _, hb, _⟩ | ⟨kc, e, A, cap, A', cap', _, _, _, _, _, _, _, hb, _⟩
              · exact (Array.getElem?_eq_some_iff.1 hb).1
              · exact (Array.getElem?_eq_some_iff.1 hb).1
            refine ⟨ys, b, ARl.keep h hs h1, (h b hlt h2).2, ?_⟩
            rcases h3 with ⟨e, A, cap, g1, g2, g3, g4, g5, g6, g7⟩ | ⟨kc, e, A, cap, A', cap', g1, g2, g3, g4, g5, g6, g7, g8, g9, g10⟩
            · exact .inl ⟨e, A, cap, g1, g2, g3, g4, g5, (h b hlt h2).1.trans g6, g7.keep h hs⟩
            · exact .inr ⟨kc, e, A, cap, A', cap', g1, g2, g3, g4, g5, g6, g7, (h b hlt h2).1.trans g8, g9.keep h hs, g10.keep h hs⟩
          · rw [if_neg (by assumption)]; exact hr
theorem ARl.keep {S S' : Nat → Prop} {w w' : World} (h : ∀ b, b < w.heap.size → S b → w'.heap[b]? = w.heap[b]? ∧ S' b) (hs : w.heap.size ≤ w'.heap.size) : ∀ {vs : List V} {ys : List Value}, ARl S w vs ys → ARl S' w' vs ys
  | [], _, hr => hr
  | v :: vs, ys, hr => by
    simp only [ARl] at hr ⊢
    obtain ⟨y, r, h1, h2, h3⟩ := hr
    exact ⟨y, r, h1, AR.keep h hs h2, ARl.keep h hs h3⟩
end
theorem AR.below {S : Nat → Prop} {w w' : World} {v : V} {x : Value} (h : AR S w v x) (hb : Below w.heap.size w w') : AR S w' v x := h.keep (fun b hlt hS => ⟨hb.block b hlt, hS⟩) hb.size
theorem ARl.below {S : Nat → Prop} {w w' : World} {vs : List V} {ys : List Value} (h : ARl S w vs ys) (hb : Below w.heap.size w w') : ARl S w' vs ys := h.keep (fun b hlt hS => ⟨hb.block b hlt, hS⟩) hb.size
theorem ARl.length {S : Nat → Prop} {w : World} : ∀ {vs : List V} {ys : List Value}, ARl S w vs ys → ys.length = vs.length
  | [], _, h => by simp only [ARl] at h; subst h; rfl
  | v :: vs, _, h => by
    simp only [ARl] at h
    obtain ⟨y, r, rfl, _, h3⟩ := h
    simp [ARl.length h3]
theorem ARl.at_ {S : Nat → Prop} {w : World} : ∀ {vs : List V} {ys : List Value}, ARl S w vs ys → ∀ (j : Nat) (v : V), vs[j]? = some v → ∃ y, ys[j]? = some y ∧ AR S w v y
  | v :: vs, _, h, 0, u, hu => by
    simp only [ARl] at h
    obtain ⟨y, r, rfl, h2, _⟩ := h
    obtain rfl : v = u := by simpa using hu
    exact ⟨y, rfl, h2⟩
  | v :: vs, _, h, j + 1, u, hu => by
    simp only [ARl] at h
    obtain ⟨y, r, rfl, _, h3⟩ := h
    simpa using h3.at_ j u (by simpa using hu)
theorem ARl.snoc {S : Nat → Prop} {w : World} : ∀ {vs : List V} {ys : List Value} {v : V} {y : Value}, ARl S w vs ys → AR S w v y → ARl S w (vs ++ [v]) (ys ++ [y])
  | [], _, v, y, h, hv => by simp only [ARl] at h; subst h; exact ⟨y, [], rfl, hv, rfl⟩
  | u :: vs, _, v, y, h, hv => by
    simp only [ARl] at h
    obtain ⟨z, r, rfl, h2, h3⟩ := h
    exact ⟨z, r ++ [y], rfl, h2, h3.snoc hv⟩
end Go.Proofs.YtjbpphomlmlmaaaGreatDoor
