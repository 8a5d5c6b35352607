import Derived.Test.Qxb6000359aParts
import Derived.Deep.OwnRows
namespace Go.Proofs.Qxb6000359a
open Go.RowKit

/-- Block g is a row of len elements of two cells each; the first k of them are (V0 i, V1 i). -/
def PairRow (w : World) (g : Nat) (t : TypeId) (len k : Nat) (V0 V1 : Nat → Value) : Prop := ∃ f, w.rowIs g t (len * 2) f ∧ ∀ i, i < k → f (i * 2) = V0 i ∧ f (i * 2 + 1) = V1 i

namespace PairRow
variable {w : World} {g : Nat} {t : TypeId} {len k : Nat} {V0 V1 : Nat → Value}
theorem cell0 (h : PairRow w g t len k V0 V1) {i : Nat} (hi : i < k) (hl : k ≤ len) : w.cell? ⟨g, i * 2, none⟩ = some (V0 i) := by
  obtain ⟨f, hr, hf⟩ := h
  rw [hr.cell (by omega), (hf i hi).1]
theorem cell1 (h : PairRow w g t len k V0 V1) {i : Nat} (hi : i < k) (hl : k ≤ len) : w.cell? ⟨g, i * 2 + 1, none⟩ = some (V1 i) := by
  obtain ⟨f, hr, hf⟩ := h
  rw [hr.cell (by omega), (hf i hi).2]
theorem some0 (h : PairRow w g t len k V0 V1) {i : Nat} (hi : i < len) : (∃ v, w.cell? ⟨g, i * 2, none⟩ = some v) ∧ ∃ v, w.cell? ⟨g, i * 2 + 1, none⟩ = some v := by
  obtain ⟨f, hr, hf⟩ := h
  exact ⟨⟨_, hr.cell (by omega)⟩, ⟨_, hr.cell (by omega)⟩⟩
theorem free (h : PairRow w g t len k V0 V1) (i : Nat) : w.frozen? ⟨g, i, none⟩ = false := by
  obtain ⟨f, hr, hf⟩ := h
  exact hr.frozen i
theorem lt (h : PairRow w g t len k V0 V1) : g < w.heap.size := by
  obtain ⟨f, hr, hf⟩ := h
  exact hr.lt
theorem of_block {w' : World} (h : PairRow w g t len k V0 V1) (e : w'.heap[g]? = w.heap[g]?) : PairRow w' g t len k V0 V1 := by
  obtain ⟨f, hr, hf⟩ := h
  exact ⟨f, hr.of_block e, hf⟩
theorem alloc (h : PairRow w g t len k V0 V1) (o : Obj) : PairRow (w.alloc o) g t len k V0 V1 := h.of_block (Below.heap_alloc _ _ _ h.lt)
theorem store (h : PairRow w g t len k V0 V1) : PairRow ((w.setCell ⟨g, k * 2, none⟩ (V0 k)).setCell ⟨g, k * 2 + 1, none⟩ (V1 k)) g t len (k + 1) V0 V1 := by
  obtain ⟨f, hr, hf⟩ := h
  refine ⟨_, (hr.set (k * 2) (V0 k)).set (k * 2 + 1) (V1 k), fun i hi => ?_⟩
  by_cases e : i = k
  · subst e; simp
  · have := hf i (by omega)
    have e1 : ¬ i * 2 = k * 2 := by omega
    have e2 : ¬ i * 2 = k * 2 + 1 := by omega
    have e3 : ¬ i * 2 + 1 = k * 2 + 1 := by omega
    have e4 : ¬ i * 2 + 1 = k * 2 := by omega
    simp only [if_neg e1, if_neg e2, if_neg e3, if_neg e4]
    exact this
theorem made (w : World) (z : Array Value) (t : TypeId) (len : Nat) (V0 V1 : Nat → Value) : PairRow (w.alloc (.cells (madeCells z (len * 2)) t)) w.heap.size t len 0 V0 V1 := by
  refine ⟨fun i => (madeCells z (len * 2))[i]?.getD default, ?_, fun i hi => absurd hi (Nat.not_lt_zero _)⟩
  have := World.rowIs_alloc w (madeCells z (len * 2)) t (fun i => (madeCells z (len * 2))[i]?.getD default) (fun i hi => by simp [Array.getElem?_eq_getElem hi])
  rwa [size_madeCells] at this
end PairRow

theorem make_pairs (t e : TypeId) (z0 z1 : Value) (bytes : Nat) (ht : Try.prog.underlying t = some (.slice e)) (hinfo : (Try.prog.info? e).map (fun i => (i.zero, i.size, i.bytes)) = some (some (.agg #[z0, z1]), 2, bytes)) (n : Nat) (hb : bytes * n ≤ 281474976710656) (h63 : n ≤ 9223372036854775807) (w : World) :
    (Instr.makeSlice t (.int .i64 (n : Int)) (.int .i64 (n : Int))).run Try.prog w = .ok (.slice (some ⟨w.heap.size, 0, none⟩) n n) (w.alloc (.cells (madeCells (Value.agg #[z0, z1]).cells (n * 2)) e)) := by
  obtain ⟨i, hi, hzz⟩ := Option.map_eq_some_iff.1 hinfo
  simp only [Prod.mk.injEq] at hzz
  obtain ⟨hz, hs, hbb⟩ := hzz
  have hb2 : ((bytes * n : Nat) : Int) ≤ 281474976710656 := by omega
  rw [Int.natCast_mul] at hb2
  have hr := run_make (P := Try.prog) w t e i (.agg #[z0, z1]) ht hi hz .i64 .i64 n n (by omega) (Int.le_refl _) (by rw [hbb]; exact hb2) (by omega)
  simp only [Int.toNat_natCast, hs] at hr
  exact hr

theorem info42 : (Try.prog.info? 42).map (fun i => (i.zero, i.size, i.bytes)) = some (some (.agg #[.bool false, .int .u64 0]), 2, 16) := by kernel_rfl

theorem copyTicks_nil (w : World) : Calls Try.prog 19 #[.slice none 0 0] w fun e w' => e = .returned (.slice none 0 0) ∧ w' = w := by
  have hnil := fun (wx : World) (ad : Option Addr) (n c : Nat) => Lib.run_eql_slice_nil (P := Try.prog) wx 34 42 ad n c 0 0 Try.underlying34
  go_enter Try.func19, Try.ntmps19
  go_wp2
  go_ret
  exact ⟨rfl, rfl⟩

set_option maxHeartbeats 1000000 in
theorem copyTicks_any (a : Addr) (b off len cap : Nat) (A0 : Nat → Bool) (A1 : Nat → Int) (w : World) (hl : len ≤ 1000000) (ha : 0 < len → a = ⟨b, off, none⟩)
    (h0 : ∀ i, i < len → w.cell? ⟨b, off + i * 2, none⟩ = some (.bool (A0 i))) (h1 : ∀ i, i < len → w.cell? ⟨b, off + i * 2 + 1, none⟩ = some (.int .u64 (A1 i))) :
    Calls Try.prog 19 #[.slice (some a) len cap] w fun e w' => e = .returned (.slice (some ⟨w.heap.size, 0, none⟩) len len) ∧ Below w.heap.size w w' ∧ PairRow w' w.heap.size 42 len len (fun i => .bool (A0 i)) (fun i => .int .u64 (A1 i)) := by
  have hmk := make_pairs 34 42 _ _ 16 Try.underlying34 info42 len (by omega) (by omega)
  have hnil := fun (wx : World) (ad : Option Addr) (n c : Nat) => Lib.run_eql_slice_nil (P := Try.prog) wx 34 42 ad n c 0 0 Try.underlying34
  by_cases hz : len ≤ 0
  · clear ha
    go_enter Try.func19, Try.ntmps19
    go_wp2
    go_loopw [4] (fun i wr => ∃ k : Nat, k ≤ len ∧ i = .int .i64 k ∧ Below w.heap.size w wr ∧ PairRow wr w.heap.size 42 len k (fun i => .bool (A0 i)) (fun i => .int .u64 (A1 i))) (fun i _ => len - (intOf i).toNat)
    case atStart => exact ⟨0, Nat.zero_le _, rfl, (Below.refl _ _).alloc (Nat.le_refl _) _, PairRow.made _ _ _ _ _ _⟩
    case round =>
      obtain ⟨k, hk, rfl, hbel, hrow⟩ := hrel
      have hge : ¬ k < len := by omega
      go_wp2
      go_ret
      obtain rfl : k = len := by omega
      exact ⟨rfl, hbel, hrow⟩
  · obtain rfl := ha (by omega)
    clear ha
    go_enter Try.func19, Try.ntmps19
    go_wp2
    go_loopw [4] (fun i wr => ∃ k : Nat, k ≤ len ∧ i = .int .i64 k ∧ Below w.heap.size w wr ∧ PairRow wr w.heap.size 42 len k (fun i => .bool (A0 i)) (fun i => .int .u64 (A1 i))) (fun i _ => len - (intOf i).toNat)
    case atStart => exact ⟨0, Nat.zero_le _, rfl, (Below.refl _ _).alloc (Nat.le_refl _) _, PairRow.made _ _ _ _ _ _⟩
    case round =>
      obtain ⟨k, hk, rfl, hbel, hrow⟩ := hrel
      by_cases hlt : k < len
      · have bl : b < w.heap.size := World.block_lt_of_cell? w _ (h0 k hlt)
        have c0 : wr.cell? ⟨b, off + k * 2, none⟩ = some (.bool (A0 k)) := (hbel.cell (by exact bl)).trans (h0 k hlt)
        have c1 : wr.cell? ⟨b, off + k * 2 + 1, none⟩ = some (.int .u64 (A1 k)) := (hbel.cell (by exact bl)).trans (h1 k hlt)
        have f0 := hrow.free (k * 2)
        have f1 := hrow.free (k * 2 + 1)
        obtain ⟨⟨x0, d0⟩, ⟨x1, d1⟩⟩ := hrow.some0 hlt
        go_wp2
        go_roundw
        case rel => exact ⟨k + 1, by omega, by go_num, (hbel.setCell (Nat.le_refl _) _).setCell (Nat.le_refl _) _, hrow.store⟩
        case measure => simp [intOf]; omega
      · go_wp2
        go_ret
        obtain rfl : k = len := by omega
        exact ⟨rfl, hbel, hrow⟩

theorem info30 : (Try.prog.info? 30).map (fun i => (i.zero, i.size, i.bytes)) = some (some (.agg #[.int .u64 0, .int .u64 0]), 2, 16) := by kernel_rfl

theorem copyReqs_nil (w : World) : Calls Try.prog 11 #[.slice none 0 0] w fun e w' => e = .returned (.slice none 0 0) ∧ w' = w := by
  have hnil := fun (wx : World) (ad : Option Addr) (n c : Nat) => Lib.run_eql_slice_nil (P := Try.prog) wx 22 30 ad n c 0 0 Try.underlying22
  go_enter Try.func11, Try.ntmps11
  go_wp2
  go_ret
  exact ⟨rfl, rfl⟩

set_option maxHeartbeats 1000000 in
theorem copyReqs_any (a : Addr) (b off len cap : Nat) (A0 : Nat → Int) (A1 : Nat → Int) (w : World) (hl : len ≤ 1000000) (ha : 0 < len → a = ⟨b, off, none⟩)
    (h0 : ∀ i, i < len → w.cell? ⟨b, off + i * 2, none⟩ = some (.int .u64 (A0 i))) (h1 : ∀ i, i < len → w.cell? ⟨b, off + i * 2 + 1, none⟩ = some (.int .u64 (A1 i))) :
    Calls Try.prog 11 #[.slice (some a) len cap] w fun e w' => e = .returned (.slice (some ⟨w.heap.size, 0, none⟩) len len) ∧ Below w.heap.size w w' ∧ PairRow w' w.heap.size 30 len len (fun i => .int .u64 (A0 i)) (fun i => .int .u64 (A1 i)) := by
  have hmk := make_pairs 22 30 _ _ 16 Try.underlying22 info30 len (by omega) (by omega)
  have hnil := fun (wx : World) (ad : Option Addr) (n c : Nat) => Lib.run_eql_slice_nil (P := Try.prog) wx 22 30 ad n c 0 0 Try.underlying22
  by_cases hz : len ≤ 0
  · clear ha
    go_enter Try.func11, Try.ntmps11
    go_wp2
    go_loopw [4] (fun i wr => ∃ k : Nat, k ≤ len ∧ i = .int .i64 k ∧ Below w.heap.size w wr ∧ PairRow wr w.heap.size 30 len k (fun i => .int .u64 (A0 i)) (fun i => .int .u64 (A1 i))) (fun i _ => len - (intOf i).toNat)
    case atStart => exact ⟨0, Nat.zero_le _, rfl, (Below.refl _ _).alloc (Nat.le_refl _) _, PairRow.made _ _ _ _ _ _⟩
    case round =>
      obtain ⟨k, hk, rfl, hbel, hrow⟩ := hrel
      have hge : ¬ k < len := by omega
      go_wp2
      go_ret
      obtain rfl : k = len := by omega
      exact ⟨rfl, hbel, hrow⟩
  · obtain rfl := ha (by omega)
    clear ha
    go_enter Try.func11, Try.ntmps11
    go_wp2
    go_loopw [4] (fun i wr => ∃ k : Nat, k ≤ len ∧ i = .int .i64 k ∧ Below w.heap.size w wr ∧ PairRow wr w.heap.size 30 len k (fun i => .int .u64 (A0 i)) (fun i => .int .u64 (A1 i))) (fun i _ => len - (intOf i).toNat)
    case atStart => exact ⟨0, Nat.zero_le _, rfl, (Below.refl _ _).alloc (Nat.le_refl _) _, PairRow.made _ _ _ _ _ _⟩
    case round =>
      obtain ⟨k, hk, rfl, hbel, hrow⟩ := hrel
      by_cases hlt : k < len
      · have bl : b < w.heap.size := World.block_lt_of_cell? w _ (h0 k hlt)
        have c0 : wr.cell? ⟨b, off + k * 2, none⟩ = some (.int .u64 (A0 k)) := (hbel.cell (by exact bl)).trans (h0 k hlt)
        have c1 : wr.cell? ⟨b, off + k * 2 + 1, none⟩ = some (.int .u64 (A1 k)) := (hbel.cell (by exact bl)).trans (h1 k hlt)
        have f0 := hrow.free (k * 2)
        have f1 := hrow.free (k * 2 + 1)
        obtain ⟨⟨x0, d0⟩, ⟨x1, d1⟩⟩ := hrow.some0 hlt
        go_wp2
        go_roundw
        case rel => exact ⟨k + 1, by omega, by go_num, (hbel.setCell (Nat.le_refl _) _).setCell (Nat.le_refl _) _, hrow.store⟩
        case measure => simp [intOf]; omega
      · go_wp2
        go_ret
        obtain rfl : k = len := by omega
        exact ⟨rfl, hbel, hrow⟩

end Go.Proofs.Qxb6000359a
