/- Two keys, the same or not. -/
import Derived.Test.YtjbpphomlmlmaaaGreatDoorQK2
namespace Go.Proofs.YtjbpphomlmlmaaaGreatDoor
open Go.RowKit
set_option linter.unusedVariables false
/-- Two keys are the same. -/
def sameB (a b : V) : Bool := (a.k == b.k) && (a.n == b.n) && (a.s.toList == b.s.toList) && (b.kids.length == 0)
set_option maxRecDepth 100000 in
set_option maxHeartbeats 1600000 in
theorem same_calls (u v : V) (hu : u.kids = []) (S : Nat → Prop) (x y : Value) (w : World) (hx : Rep S w u x) (hy : Rep S w v y) :
    Calls Tryz.prog 27 #[x, y] w fun e w' => e = .returned (.bool (sameB u v)) ∧ Below w.heap.size w w' := by
  obtain ⟨k, n, s, kids⟩ := u
  obtain ⟨k', n', s', kids'⟩ := v
  simp only [V.kids] at hu
  subst hu
  simp only [Rep] at hx hy
  obtain ⟨A, cap, rfl, hc1, hc2, hk, hn, hs, hkids⟩ := hx
  obtain ⟨A', cap', rfl, hc1', hc2', hk', hn', hs', hkids'⟩ := hy
  have hb : ∀ o1 o2, Below w.heap.size w ((w.alloc o1).alloc o2) := fun o1 o2 => ((Below.refl _ _).alloc (Nat.le_refl _) _).alloc (by simp) _
  simp only [sameB, V.k, V.n, V.s, V.kids]
  cases h1 : (k == k')
  · have h1' : (k != k') = true := by rw [bne, h1]; rfl
    go_enter Tryz.func27, Tryz.ntmps27
    go_wp2_with fail
    go_ret
    exact ⟨by simp, hb _ _⟩
  have h1' : (k != k') = false := by rw [bne, h1]; rfl
  cases h2 : (n == n')
  · have h2' : (n != n') = true := by rw [bne, h2]; rfl
    go_enter Tryz.func27, Tryz.ntmps27
    go_wp2_with fail
    go_ret
    exact ⟨by simp, hb _ _⟩
  have h2' : (n != n') = false := by rw [bne, h2]; rfl
  cases h3 : (s.toList == s'.toList)
  · have h3' : (s.toList != s'.toList) = true := by rw [bne, h3]; rfl
    go_enter Tryz.func27, Tryz.ntmps27
    go_wp2_with fail
    go_ret
    exact ⟨by simp, hb _ _⟩
  have h3' : (s.toList != s'.toList) = false := by rw [bne, h3]; rfl
  by_cases h4 : kids'.length = 0
  · obtain rfl := List.eq_nil_of_length_eq_zero h4
    go_enter Tryz.func27, Tryz.ntmps27
    go_wp2_with fail
    go_loop [37] (fun i => i = .int .i64 0) (fun _ => 0)
    case atStart => rfl
    case round =>
      subst hrel
      go_wp2_with fail
      go_ret
      exact ⟨by simp, hb _ _⟩
  · have h4' : ((0 : Int) != ↑kids'.length) = true := by rw [bne_iff_ne]; omega
    go_enter Tryz.func27, Tryz.ntmps27
    go_wp2_with fail
    go_ret
    exact ⟨by simpa using fun h => h4 (by rw [h]; rfl), hb _ _⟩
end Go.Proofs.YtjbpphomlmlmaaaGreatDoor
