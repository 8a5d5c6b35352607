import Derived.Test.Qxb6000359aRows
import Derived.WalkKit
import Derived.WalkSpells
import Derived.WalkLawsBesides
import Derived.ProofKit
import Derived.BigQuiet
import Derived.Deep.QuietTactic
import Derived.BigRegion
import Derived.Deep.RegionHeld3
import Derived.Maps.AppendAt
namespace Go.Proofs.Qxb6000359a
open Go.RowKit

theorem ret_int {k : IntKind} {a b : Int} (h : a = b) : Ending.returned (.int k a) = .returned (.int k b) := by rw [h]
theorem ret_bool {a b : Bool} (h : a = b) : Ending.returned (.bool a) = .returned (.bool b) := by rw [h]

theorem cell_of_block {w : World} {b o : Nat} {c : Array Value} {t : TypeId} {m : Nat × Nat} {v : Value} (h : w.heap[b]? = some (.cells c t m)) (hv : c[o]? = some v) : w.cell? ⟨b, o, none⟩ = some v := by simp [World.cell?, h, hv]
theorem free_of_block {w : World} {b o : Nat} {c : Array Value} {t : TypeId} (h : w.heap[b]? = some (.cells c t (0, 0))) : w.frozen? ⟨b, o, none⟩ = false := by simp [World.frozen?, h]

/-- w' is w with new blocks, and with block b's cells now c. -/
def Turn (b : Nat) (t : TypeId) (w : World) (c : Array Value) (w' : World) : Prop := w'.heap[b]? = some (.cells c t (0, 0)) ∧ w.grownBy w' (some b)
theorem Turn.start {b : Nat} {t : TypeId} {w : World} {c : Array Value} (h : w.heap[b]? = some (.cells c t (0, 0))) : Turn b t w c w := ⟨h, World.grownBy.refl _ _⟩
theorem Turn.set {b : Nat} {t : TypeId} {w w' : World} {c : Array Value} (h : Turn b t w c w') (o : Nat) (v : Value) : Turn b t w (c.setIfInBounds o v) (w'.setCell ⟨b, o, none⟩ v) := by
  refine ⟨?_, ?_⟩
  · rw [heap_setCell_same _ _ _ _ _ _ h.1]
  · refine h.2.trans ⟨rfl, rfl, rfl, by simp, fun k _ hk => ?_⟩
    rw [heap_setCell_other]
    intro e; apply hk; rw [e]
theorem Turn.alloc {b : Nat} {t : TypeId} {w w' : World} {c : Array Value} (h : Turn b t w c w') (o : Obj) : Turn b t w c (w'.alloc o) :=
  ⟨(Below.heap_alloc _ _ _ (lt_of_block h.1)).trans h.1, h.2.trans (World.grownBy_alloc _ _ _)⟩
theorem Turn.drew {b : Nat} {t : TypeId} {w w' : World} {c : Array Value} (h : Turn b t w c w') : Turn b t w c w'.drew :=
  ⟨h.1, ⟨h.2.os, h.2.tape, h.2.output, h.2.size, h.2.block⟩⟩
theorem Turn.drewN {b : Nat} {t : TypeId} {w w' : World} {c : Array Value} (h : Turn b t w c w') (n : Nat) : Turn b t w c (w'.drewN n) :=
  ⟨h.1, ⟨h.2.os, h.2.tape, h.2.output, h.2.size, h.2.block⟩⟩
theorem Turn.cast {b : Nat} {t : TypeId} {w w' : World} {c c' : Array Value} (h : Turn b t w c w') (e : c = c') : Turn b t w c' w' := e ▸ h
end Go.Proofs.Qxb6000359a
