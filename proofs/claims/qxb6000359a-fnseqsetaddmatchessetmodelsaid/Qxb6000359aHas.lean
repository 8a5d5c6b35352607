import Derived.Test.Qxb6000359aSetMap
import Derived.Deep.RegionLaw
import Derived.Deep.DeepCutAuto
namespace Go.Proofs.Qxb6000359a
open Go.RowKit

/-- The seqSet at block Q, its map at block M. -/
def seqC (inc low : Int) (M : Nat) : Array Value := #[.int .u64 inc, .int .u64 low, .map (some M)]
def SeqIn (w : World) (Q M n : Nat) (inc low : Int) (S : Int → Bool) : Prop := w.heap[Q]? = some (.cells (seqC inc low M) 67 (0, 0)) ∧ SetMap w M n S

/-- w' is w with new blocks, and with writes to blocks Q and M alone. -/
structure Keep (Q M : Nat) (w w' : World) : Prop where
  os : w'.os = w.os
  tape : w'.tape = w.tape
  output : w'.output = w.output
  size : w.heap.size ≤ w'.heap.size
  block : ∀ k, k < w.heap.size → k ≠ Q → k ≠ M → w'.heap[k]? = w.heap[k]?

theorem Keep.refl (Q M : Nat) (w : World) : Keep Q M w w := ⟨rfl, rfl, rfl, Nat.le_refl _, fun _ _ _ _ => rfl⟩
theorem Keep.alloc {Q M : Nat} {w w' : World} (h : Keep Q M w w') (o : Obj) : Keep Q M w (w'.alloc o) :=
  ⟨h.os, h.tape, h.output, by have := h.size; simp; omega, fun k hk h1 h2 => by rw [Below.heap_alloc _ _ _ (by have := h.size; omega)]; exact h.block k hk h1 h2⟩
theorem Keep.drew {Q M : Nat} {w w' : World} (h : Keep Q M w w') : Keep Q M w w'.drew := ⟨h.os, h.tape, h.output, h.size, h.block⟩
theorem Keep.drewN {Q M : Nat} {w w' : World} (h : Keep Q M w w') (n : Nat) : Keep Q M w (w'.drewN n) := ⟨h.os, h.tape, h.output, h.size, h.block⟩
theorem Keep.set {Q M : Nat} {w w' : World} (h : Keep Q M w w') (o : Nat) (v : Value) : Keep Q M w (w'.setCell ⟨Q, o, none⟩ v) :=
  ⟨h.os, h.tape, h.output, by have := h.size; simpa using this, fun k hk h1 h2 => by rw [Below.heap_setCell _ _ _ _ (by simpa using h1)]; exact h.block k hk h1 h2⟩
/-- a write to a map that is M or new -/
theorem Keep.grown {Q M M' : Nat} {w w' w'' : World} (h : Keep Q M w w') (hg : w'.grownBy w'' (some M')) (hM : M' = M ∨ w.heap.size ≤ M') : Keep Q M w w'' :=
  ⟨hg.os.trans h.os, hg.tape.trans h.tape, hg.output.trans h.output, Nat.le_trans h.size hg.size, fun k hk h1 h2 => by
    rw [hg.block k (by have := h.size; omega) (by intro e; cases e; rcases hM with e | e <;> omega)]; exact h.block k hk h1 h2⟩
theorem Keep.trans {Q M M' : Nat} {w w' w'' : World} (h : Keep Q M w w') (k : Keep Q M' w' w'') (hM : M' = M ∨ w.heap.size ≤ M') : Keep Q M w w'' :=
  ⟨k.os.trans h.os, k.tape.trans h.tape, k.output.trans h.output, Nat.le_trans h.size k.size, fun i hi h1 h2 => by
    rw [k.block i (by have := h.size; omega) h1 (by rcases hM with e | e <;> omega)]; exact h.block i hi h1 h2⟩
theorem Keep.below {Q M B : Nat} {W w w' : World} (h : Keep Q M w w') (hb : Below B W w) (hB : B ≤ w.heap.size) (hQ : B ≤ Q) (hM : B ≤ M) : Below B W w' :=
  hb.trans ⟨h.os, h.tape, h.output, h.size, fun k hk => h.block k (by omega) (by omega) (by omega)⟩

namespace SeqIn
variable {w : World} {Q M n : Nat} {inc low : Int} {S : Int → Bool}
theorem ne (h : SeqIn w Q M n inc low S) : M ≠ Q := h.2.ne_cells h.1
theorem alloc (h : SeqIn w Q M n inc low S) (o : Obj) : SeqIn (w.alloc o) Q M n inc low S :=
  ⟨(Below.heap_alloc _ _ _ (lt_of_block h.1)).trans h.1, h.2.of_block (Below.heap_alloc _ _ _ h.2.lt)⟩
theorem drew (h : SeqIn w Q M n inc low S) : SeqIn w.drew Q M n inc low S := h
theorem drewN (h : SeqIn w Q M n inc low S) (k : Nat) : SeqIn (w.drewN k) Q M n inc low S := h
theorem setLow (h : SeqIn w Q M n inc low S) (low' : Int) : SeqIn (w.setCell ⟨Q, 1, none⟩ (.int .u64 low')) Q M n inc low' S := by
  refine ⟨?_, h.2.of_block (Below.heap_setCell _ _ _ _ (by exact h.ne))⟩
  rw [heap_setCell_same _ _ _ _ _ _ h.1]
  simp [seqC]
theorem fresh (h : SeqIn w Q M n inc low S) (i : Int) : SeqIn ((((w.setCell ⟨Q, 0, none⟩ (.int .u64 i)).setCell ⟨Q, 1, none⟩ (.int .u64 0)).setCell ⟨Q, 2, none⟩ (.map (some w.heap.size))).alloc (.map #[] 0)) Q w.heap.size 0 i 0 (fun _ => false) := by
  refine ⟨?_, ?_⟩
  · rw [Below.heap_alloc _ _ _ (by simpa using lt_of_block h.1)]
    rw [heap_setCell_same _ _ _ _ _ _ (heap_setCell_same _ _ _ _ _ _ (heap_setCell_same _ _ _ _ _ _ h.1))]
    simp [seqC]
  · have := SetMap.made (((w.setCell ⟨Q, 0, none⟩ (.int .u64 i)).setCell ⟨Q, 1, none⟩ (.int .u64 0)).setCell ⟨Q, 2, none⟩ (.map (some w.heap.size)))
    simpa using this
theorem cell0 (h : SeqIn w Q M n inc low S) : w.cell? ⟨Q, 0, none⟩ = some (.int .u64 inc) := cell_of_block h.1 rfl
theorem cell1 (h : SeqIn w Q M n inc low S) : w.cell? ⟨Q, 1, none⟩ = some (.int .u64 low) := cell_of_block h.1 rfl
theorem cell2 (h : SeqIn w Q M n inc low S) : w.cell? ⟨Q, 2, none⟩ = some (.map (some M)) := cell_of_block h.1 rfl
theorem free (h : SeqIn w Q M n inc low S) (o : Nat) : w.frozen? ⟨Q, o, none⟩ = false := free_of_block h.1
end SeqIn

def memB (inc : Int) (T : Int → Bool) (i s : Int) : Bool := decide (i < inc) || (decide (i = inc) && T s)

set_option maxHeartbeats 1000000 in
theorem has_lt (Q M n : Nat) (inc low i s : Int) (S : Int → Bool) (o : Int) (w : World) (h : SeqIn w Q M n inc low S) (hi : i < inc) :
    Calls Try.prog 33 #[.pointer (some ⟨Q, 0, none⟩), .agg #[.int .u32 o, .int .u64 i, .int .u64 s]] w fun e w' => e = .returned (.bool true) ∧ ∃ c k, w' = (w.alloc (.cells c 70)).drewN k := by
  have hlt := lt_of_block h.1
  have c0 := h.cell0
  have c1 := h.cell1
  have c2 := h.cell2
  clear h
  go_enter Try.func33, Try.ntmps33
  go_wp2
  go_quiet (fail)
  go_wp2
  go_ret
  exact ⟨rfl, _, _, rfl⟩

set_option maxHeartbeats 1000000 in
theorem has_gt (Q M n : Nat) (inc low i s : Int) (S : Int → Bool) (o : Int) (w : World) (h : SeqIn w Q M n inc low S) (hi : inc < i) :
    Calls Try.prog 33 #[.pointer (some ⟨Q, 0, none⟩), .agg #[.int .u32 o, .int .u64 i, .int .u64 s]] w fun e w' => e = .returned (.bool false) ∧ ∃ c k, w' = (w.alloc (.cells c 70)).drewN k := by
  have hlt := lt_of_block h.1
  have c0 := h.cell0
  have c1 := h.cell1
  have c2 := h.cell2
  have d1 : decide (i < inc) = false := by simp; omega
  have d2 : (i == inc) = false := by simp; omega
  clear h
  go_enter Try.func33, Try.ntmps33
  go_wp2
  go_quiet (fail)
  go_wp2
  go_ret
  exact ⟨rfl, _, _, rfl⟩

set_option maxHeartbeats 1000000 in
theorem has_low (Q M n : Nat) (i low s : Int) (S : Int → Bool) (o : Int) (w : World) (h : SeqIn w Q M n i low S) (hs : s ≤ low) :
    Calls Try.prog 33 #[.pointer (some ⟨Q, 0, none⟩), .agg #[.int .u32 o, .int .u64 i, .int .u64 s]] w fun e w' => e = .returned (.bool true) ∧ ∃ c k, w' = (w.alloc (.cells c 70)).drewN k := by
  have hlt := lt_of_block h.1
  have c0 := h.cell0
  have c1 := h.cell1
  have c2 := h.cell2
  clear h
  go_enter Try.func33, Try.ntmps33
  go_wp2
  go_quiet (fail)
  go_wp2
  go_ret
  exact ⟨rfl, _, _, rfl⟩

set_option maxHeartbeats 1000000 in
theorem has_map (Q M n : Nat) (i low s : Int) (S : Int → Bool) (o : Int) (w : World) (h : SeqIn w Q M n i low S) (hs : low < s) (s0 : 0 ≤ s) (s1 : s ≤ 18446744073709551615) :
    Calls Try.prog 33 #[.pointer (some ⟨Q, 0, none⟩), .agg #[.int .u32 o, .int .u64 i, .int .u64 s]] w fun e w' => e = .returned (.bool (S s)) ∧ ∃ c k, w' = (w.alloc (.cells c 70)).drewN k := by
  have hlt := lt_of_block h.1
  have c0 := h.cell0
  have c1 := h.cell1
  have c2 := h.cell2
  have hlook := fun (ob : Obj) (k : Nat) => ((h.alloc ob).drewN k).2.look s0 s1
  have d1 : decide (s ≤ low) = false := by simp; omega
  clear h s0 s1
  go_enter Try.func33, Try.ntmps33
  go_wp2
  go_quiet (fail)
  go_wp2
  go_ret
  exact ⟨rfl, _, _, rfl⟩
end Go.Proofs.Qxb6000359a
