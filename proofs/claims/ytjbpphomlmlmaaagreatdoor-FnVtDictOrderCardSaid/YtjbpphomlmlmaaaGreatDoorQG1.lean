/- How a value is written: numbers, texts, variants. -/
import Derived.Test.YtjbpphomlmlmaaaGreatDoorQG0
import Derived.Test.YtjbpphomlmlmaaaGreatDoorQC3
import Derived.Test.YtjbpphomlmlmaaaGreatDoorQK7
import Derived.Lib.BufferOld
namespace Go.Proofs.YtjbpphomlmlmaaaGreatDoor
open Go.RowKit
set_option linter.unusedVariables false
set_option linter.unusedSimpArgs false
structure Base2 (w : World) : Prop where
  base : Base w
  ten : Tab10 w
  db : w.cell? ⟨8, 15, none⟩ = some (.int .u8 4)
theorem Base2.below {w w' : World} (h : Base2 w) (hb : Below w.heap.size w w') : Base2 w' := ⟨h.base.below hb, h.ten.below hb, cell_keep hb.block h.db⟩
/-- What 'format' answers. -/
def FmR (F H : Nat → List UInt8) (v : V) (w : World) (e : Ending) (w' : World) : Prop := e = .returned (.tuple #[.string ⟨(writ F H v).toArray⟩, .bool (tells v)]) ∧ Below w.heap.size w w'
def FmtV (F H : Nat → List UInt8) (v : V) (t : Ty) : Prop := ∀ (S : Nat → Prop) (u : TypeId) (y : Value) (w : World), Base2 w → AR S w v (.iface u y) →
  Calls Tryz.prog 51 #[.agg #[.string (bs t.sig), .iface u y]] w (FmR F H v w)
theorem assertT {T : TypeId} {d : TypeDesc} (hd : Tryz.prog.underlying T = some d) (hi : (match d with | .interface _ => true | _ => false) = false) (v : Value) (w : World) :
    (Instr.typeAssert (.iface T v) 20 T false).run Tryz.prog w = .ok v w := by
  simp only [Instr.typeAssert, Sem.run_bind, run_underlying hd, Result.andThen_ok]
  cases d <;> first
    | (simp at hi; done)
    | simp [Sem.run_bind]
@[go_sem] theorem assertF5 (v : Value) (w : World) : (Instr.typeAssert (.iface 5 v) 20 5 false).run Tryz.prog w = .ok v w := assertT Tryz.underlying5 rfl v w
@[go_sem] theorem assertF9 (v : Value) (w : World) : (Instr.typeAssert (.iface 9 v) 20 9 false).run Tryz.prog w = .ok v w := assertT Tryz.underlying9 rfl v w
@[go_sem] theorem assertF76 (v : Value) (w : World) : (Instr.typeAssert (.iface 76 v) 20 76 false).run Tryz.prog w = .ok v w := assertT Tryz.underlying76 rfl v w
@[go_sem] theorem assertF53 (v : Value) (w : World) : (Instr.typeAssert (.iface 53 v) 20 53 false).run Tryz.prog w = .ok v w := assertT Tryz.underlying53 rfl v w
@[go_sem] theorem assertF55 (v : Value) (w : World) : (Instr.typeAssert (.iface 55 v) 20 55 false).run Tryz.prog w = .ok v w := assertT Tryz.underlying55 rfl v w
set_option maxRecDepth 100000 in
set_option maxHeartbeats 3200000 in
theorem fm_sprint {c : UInt8} {x : Value} (hc : c = 98 ∨ c = 105 ∨ c = 110 ∨ c = 113 ∨ c = 117 ∨ c = 120 ∨ c = 116 ∨ c = 100 ∨ c = 104) (l : List UInt8) (w : World) (hx : ∃ u y, x = .iface u y)
    (h : ∀ w', Below w.heap.size w w' → Calls Tryz.prog 79 #[x] w' fun e w'' => e = .returned (.string ⟨l.toArray⟩) ∧ Below w'.heap.size w' w'') :
    Calls Tryz.prog 51 #[.agg #[.string (bs [c]), x]] w fun e w' => e = .returned (.tuple #[.string ⟨l.toArray⟩, .bool (c == 98 || c == 105)]) ∧ Below w.heap.size w w' := by
  obtain ⟨u, y, rfl⟩ := hx
  have hw : ∀ o, Below w.heap.size w (w.alloc o) := fun o => (Below.refl w.heap.size w).alloc (Nat.le_refl _) o
  have h2 := fun o => h _ (hw o)
  clear h
  rcases hc with rfl | rfl | rfl | rfl | rfl | rfl | rfl | rfl | rfl
  all_goals
    go_enter Tryz.func51, Tryz.ntmps51
    go_wp2_with fail
    refine (h2 _).mono ?_
    rintro _ w1 ⟨rfl, hb1⟩
    go_wp2_with fail
    go_ret2
    exact ⟨rfl, (hw _).trans (hb1.mono (hw _).size)⟩
@[go_sem] theorem fld53 (x : Value) (w : World) : (Instr.field 53 (.agg #[x]) 0).run Tryz.prog w = .ok x w := by kernel_rfl
@[go_sem] theorem fld55 (x y : Value) (w : World) : (Instr.field 55 (.agg #[x, y]) 0).run Tryz.prog w = .ok (.agg #[x]) w := by kernel_rfl
set_option maxRecDepth 100000 in
set_option maxHeartbeats 3200000 in
theorem fm_byte (a : Nat) (ha : a < 256) (l : List UInt8) (hl : l.length ≤ 2) (w : World)
    (h : ∀ w', Below w.heap.size w w' → Calls Tryz.prog 32 #[.int .u64 a, .int .i64 16] w' fun e w'' => e = .returned (.string ⟨l.toArray⟩) ∧ Below w'.heap.size w' w'') :
    Calls Tryz.prog 51 #[.agg #[.string (bs [121]), .iface 5 (.int .u8 a)]] w fun e w' => e = .returned (.tuple #[.string ⟨(48 :: 120 :: l).toArray⟩, .bool false]) ∧ Below w.heap.size w w' := by
  have hw : ∀ o, Below w.heap.size w (w.alloc o) := fun o => (Below.refl w.heap.size w).alloc (Nat.le_refl _) o
  have h2 := fun o => h _ (hw o)
  clear h
  have hx1 : ¬9223372036854775807 < 2 + l.length := by omega
  go_enter Tryz.func51, Tryz.ntmps51
  go_wp2_with fail
  refine (h2 _).mono ?_
  rintro _ w1 ⟨rfl, hb1⟩
  go_wp2_with fail
  go_ret2
  exact ⟨rfl, (hw _).trans (hb1.mono (hw _).size)⟩
set_option maxRecDepth 100000 in
set_option maxHeartbeats 3200000 in
theorem fm_txt {c : UInt8} (s q : ByteArray) (hc : c = 115 ∨ c = 111 ∨ c = 103) (w : World)
    (h : ∀ w', Below w.heap.size w w' → Calls Tryz.prog 35 #[.string s] w' fun e w'' => e = .returned (.string q) ∧ Below w'.heap.size w' w'') :
    Calls Tryz.prog 51 #[.agg #[.string (bs [c]), if c = 115 then .iface 9 (.string s) else if c = 111 then .iface 76 (.string s) else .iface 53 (.agg #[.string s])]] w fun e w' => e = .returned (.tuple #[.string q, .bool (c == 115)]) ∧ Below w.heap.size w w' := by
  have hw : ∀ o, Below w.heap.size w (w.alloc o) := fun o => (Below.refl w.heap.size w).alloc (Nat.le_refl _) o
  have h2 := fun o => h _ (hw o)
  clear h
  rcases hc with rfl | rfl | rfl
  all_goals
    simp only [show ((111 : UInt8) = 115) = False by decide, show ((103 : UInt8) = 115) = False by decide, show ((103 : UInt8) = 111) = False by decide, ↓reduceIte]
    go_enter Tryz.func51, Tryz.ntmps51
    go_wp2_with fail
    refine (h2 _).mono ?_
    rintro _ w1 ⟨rfl, hb1⟩
    go_wp2_with fail
    go_ret2
    exact ⟨rfl, (hw _).trans (hb1.mono (hw _).size)⟩
set_option maxRecDepth 100000 in
set_option maxHeartbeats 3200000 in
theorem fm_var (sg : List UInt8) (hsg : sg.length ≤ 255) (u : TypeId) (y : Value) (l : List UInt8) (hl : l.length ≤ 10000000) (b : Bool) (w : World)
    (h : ∀ w', Below w.heap.size w w' → Calls Tryz.prog 51 #[.agg #[.string (bs sg), .iface u y]] w' fun e w'' => e = .returned (.tuple #[.string ⟨l.toArray⟩, .bool b]) ∧ Below w'.heap.size w' w'') :
    Calls Tryz.prog 51 #[.agg #[.string (bs [118]), .iface 55 (.agg #[.string (bs sg), .iface u y])]] w fun e w' => e = .returned (.tuple #[.string ⟨(60 :: ((if b then l else 64 :: (sg ++ (32 :: l))) ++ [62])).toArray⟩, .bool true]) ∧ Below w.heap.size w w' := by
  have hw : ∀ o, Below w.heap.size w (w.alloc o) := fun o => (Below.refl w.heap.size w).alloc (Nat.le_refl _) o
  have h2 := fun o => h _ (hw o)
  clear h
  cases b
  · go_enter Tryz.func51, Tryz.ntmps51
    go_wp2_with fail
    refine (h2 _).mono ?_
    rintro _ w1 ⟨rfl, hb1⟩
    have c1 : w1.cell? ⟨w.heap.size, 1, none⟩ = some (.iface 55 (.agg #[.string (bs sg), .iface u y])) := cell_keep hb1.block (by rw [cell_of_row _ _ _ _ _ _ (heap_alloc_new w _)]; rfl)
    go_wp2_with fail
    go_ret2
    have hs : ({ data := #[60, 64] } ++ bs sg ++ { data := #[32] } ++ { data := l.toArray } ++ { data := #[62] } : ByteArray) = ⟨(60 :: ((64 :: (sg ++ (32 :: l))) ++ [62])).toArray⟩ := ba_ext (by simp [bs])
    refine ⟨?_, (hw _).trans (hb1.mono (hw _).size)⟩
    show Ending.returned (.tuple #[.string ({ data := #[60, 64] } ++ bs sg ++ { data := #[32] } ++ { data := l.toArray } ++ { data := #[62] }), .bool true]) = _
    rw [hs]; simp
  · go_enter Tryz.func51, Tryz.ntmps51
    go_wp2_with fail
    refine (h2 _).mono ?_
    rintro _ w1 ⟨rfl, hb1⟩
    go_wp2_with fail
    go_ret2
    have hs : ({ data := #[60] } ++ { data := l.toArray } ++ { data := #[62] } : ByteArray) = ⟨(60 :: (l ++ [62])).toArray⟩ := ba_ext (by simp)
    refine ⟨?_, (hw _).trans (hb1.mono (hw _).size)⟩
    show Ending.returned (.tuple #[.string ({ data := #[60] } ++ { data := l.toArray } ++ { data := #[62] }), .bool true]) = _
    rw [hs]
end Go.Proofs.YtjbpphomlmlmaaaGreatDoor
