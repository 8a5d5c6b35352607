import Derived.Test.Qxb6000359aParts
import Derived.Deep.OwnRows
namespace Go.Proofs.Qxb6000359a
open Go.RowKit

/-- A slice of triples (a uint32, a string, a uint64), nil or not: what is known of its cells. -/
structure Trip (w : World) (ad : Option Addr) (len cap : Nat) (A : Nat → Int) (B : Nat → ByteArray) (C : Nat → Int) (b off : Nat) : Prop where
  nil : ad = none → len = 0 ∧ cap = 0
  at_ : 0 < len → ad = some ⟨b, off, none⟩
  c0 : ∀ i, i < len → w.cell? ⟨b, off + i * 3, none⟩ = some (.int .u32 (A i))
  c1 : ∀ i, i < len → w.cell? ⟨b, off + i * 3 + 1, none⟩ = some (.string (B i))
  c2 : ∀ i, i < len → w.cell? ⟨b, off + i * 3 + 2, none⟩ = some (.int .u64 (C i))

theorem Trip.below {w w' : World} {ad : Option Addr} {len cap : Nat} {A : Nat → Int} {B : Nat → ByteArray} {C : Nat → Int} {b off : Nat} (h : Trip w ad len cap A B C b off) (hb : Below w.heap.size w w') : Trip w' ad len cap A B C b off :=
  ⟨h.nil, h.at_, fun i hi => (hb.cell (p := ⟨b, off + i * 3, none⟩) (World.block_lt_of_cell? w _ (h.c0 i hi))).trans (h.c0 i hi), fun i hi => (hb.cell (p := ⟨b, off + i * 3 + 1, none⟩) (World.block_lt_of_cell? w _ (h.c1 i hi))).trans (h.c1 i hi), fun i hi => (hb.cell (p := ⟨b, off + i * 3 + 2, none⟩) (World.block_lt_of_cell? w _ (h.c2 i hi))).trans (h.c2 i hi)⟩

/-- Block g is a row of len elements of three cells each; the first k of them are (V0 i, V1 i, V2 i). -/
def TripRow (w : World) (g : Nat) (t : TypeId) (len k : Nat) (V0 V1 V2 : Nat → Value) : Prop := ∃ f, w.rowIs g t (len * 3) f ∧ ∀ i, i < k → f (i * 3) = V0 i ∧ f (i * 3 + 1) = V1 i ∧ f (i * 3 + 2) = V2 i
namespace TripRow
variable {w : World} {g : Nat} {t : TypeId} {len k : Nat} {V0 V1 V2 : Nat → Value}
theorem cells (h : TripRow w g t len k V0 V1 V2) {i : Nat} (hi : i < k) (hl : k ≤ len) : w.cell? ⟨g, i * 3, none⟩ = some (V0 i) ∧ w.cell? ⟨g, i * 3 + 1, none⟩ = some (V1 i) ∧ w.cell? ⟨g, i * 3 + 2, none⟩ = some (V2 i) := by
  obtain ⟨f, hr, hf⟩ := h
  rw [hr.cell (by omega), hr.cell (by omega), hr.cell (by omega), (hf i hi).1, (hf i hi).2.1, (hf i hi).2.2]
  exact ⟨rfl, rfl, rfl⟩
theorem some3 (h : TripRow w g t len k V0 V1 V2) {i : Nat} (hi : i < len) : (∃ v, w.cell? ⟨g, i * 3, none⟩ = some v) ∧ (∃ v, w.cell? ⟨g, i * 3 + 1, none⟩ = some v) ∧ ∃ v, w.cell? ⟨g, i * 3 + 2, none⟩ = some v := by
  obtain ⟨f, hr, hf⟩ := h
  exact ⟨⟨_, hr.cell (by omega)⟩, ⟨_, hr.cell (by omega)⟩, ⟨_, hr.cell (by omega)⟩⟩
theorem free (h : TripRow w g t len k V0 V1 V2) (i : Nat) : w.frozen? ⟨g, i, none⟩ = false := by
  obtain ⟨f, hr, hf⟩ := h
  exact hr.frozen i
theorem lt (h : TripRow w g t len k V0 V1 V2) : g < w.heap.size := by
  obtain ⟨f, hr, hf⟩ := h
  exact hr.lt
theorem of_block {w' : World} (h : TripRow w g t len k V0 V1 V2) (e : w'.heap[g]? = w.heap[g]?) : TripRow w' g t len k V0 V1 V2 := by
  obtain ⟨f, hr, hf⟩ := h
  exact ⟨f, hr.of_block e, hf⟩
theorem alloc (h : TripRow w g t len k V0 V1 V2) (o : Obj) : TripRow (w.alloc o) g t len k V0 V1 V2 := h.of_block (Below.heap_alloc _ _ _ h.lt)
theorem store (h : TripRow w g t len k V0 V1 V2) : TripRow (((w.setCell ⟨g, k * 3, none⟩ (V0 k)).setCell ⟨g, k * 3 + 1, none⟩ (V1 k)).setCell ⟨g, k * 3 + 2, none⟩ (V2 k)) g t len (k + 1) V0 V1 V2 := by
  obtain ⟨f, hr, hf⟩ := h
  refine ⟨_, ((hr.set (k * 3) (V0 k)).set (k * 3 + 1) (V1 k)).set (k * 3 + 2) (V2 k), fun i hi => ?_⟩
  by_cases e : i = k
  · subst e; simp
  · have := hf i (by omega)
    have e1 : ¬ i * 3 = k * 3 := by omega
    have e2 : ¬ i * 3 = k * 3 + 1 := by omega
    have e3 : ¬ i * 3 = k * 3 + 2 := by omega
    have f1 : ¬ i * 3 + 1 = k * 3 := by omega
    have f2 : ¬ i * 3 + 1 = k * 3 + 1 := by omega
    have f3 : ¬ i * 3 + 1 = k * 3 + 2 := by omega
    have g1 : ¬ i * 3 + 2 = k * 3 := by omega
    have g2 : ¬ i * 3 + 2 = k * 3 + 1 := by omega
    have g3 : ¬ i * 3 + 2 = k * 3 + 2 := by omega
    simp only [if_neg e1, if_neg e2, if_neg e3, if_neg f1, if_neg f2, if_neg f3, if_neg g1, if_neg g2, if_neg g3]
    exact this
theorem made (w : World) (z : Array Value) (t : TypeId) (len : Nat) (V0 V1 V2 : Nat → Value) : TripRow (w.alloc (.cells (madeCells z (len * 3)) t)) w.heap.size t len 0 V0 V1 V2 := by
  refine ⟨fun i => (madeCells z (len * 3))[i]?.getD default, ?_, fun i hi => absurd hi (Nat.not_lt_zero _)⟩
  have := World.rowIs_alloc w (madeCells z (len * 3)) t (fun i => (madeCells z (len * 3))[i]?.getD default) (fun i hi => by simp [Array.getElem?_eq_getElem hi])
  rwa [size_madeCells] at this
end TripRow

theorem TripRow.trip {w : World} {g t len cap : Nat} {A : Nat → Int} {B : Nat → ByteArray} {C : Nat → Int} (h : TripRow w g t len len (fun i => .int .u32 (A i)) (fun i => .string (B i)) (fun i => .int .u64 (C i))) : Trip w (some ⟨g, 0, none⟩) len cap A B C g 0 :=
  ⟨fun e => (by cases e), fun _ => rfl, fun i hi => by rw [Nat.zero_add]; exact (h.cells hi (Nat.le_refl _)).1, fun i hi => by rw [Nat.zero_add]; exact (h.cells hi (Nat.le_refl _)).2.1, fun i hi => by rw [Nat.zero_add]; exact (h.cells hi (Nat.le_refl _)).2.2⟩

theorem make_any (t e : TypeId) (z : Value) (size bytes : Nat) (ht : Try.prog.underlying t = some (.slice e)) (hinfo : (Try.prog.info? e).map (fun i => (i.zero, i.size, i.bytes)) = some (some z, size, bytes)) (n : Nat) (hb : bytes * n ≤ 281474976710656) (h63 : n ≤ 9223372036854775807) (w : World) :
    (Instr.makeSlice t (.int .i64 (n : Int)) (.int .i64 (n : Int))).run Try.prog w = .ok (.slice (some ⟨w.heap.size, 0, none⟩) n n) (w.alloc (.cells (madeCells z.cells (n * size)) e)) := by
  obtain ⟨i, hi, hzz⟩ := Option.map_eq_some_iff.1 hinfo
  simp only [Prod.mk.injEq] at hzz
  obtain ⟨hz, hs, hbb⟩ := hzz
  have hb2 : ((bytes * n : Nat) : Int) ≤ 281474976710656 := by omega
  rw [Int.natCast_mul] at hb2
  have hr := run_make (P := Try.prog) w t e i z ht hi hz .i64 .i64 n n (by omega) (Int.le_refl _) (by rw [hbb]; exact hb2) (by omega)
  simp only [Int.toNat_natCast, hs] at hr
  exact hr

theorem info74 : (Try.prog.info? 74).map (fun i => (i.zero, i.size, i.bytes)) = some (some (.agg #[.int .u32 0, .string ByteArray.empty, .int .u64 0]), 3, 32) := by kernel_rfl
theorem info87 : (Try.prog.info? 87).map (fun i => (i.zero, i.size, i.bytes)) = some (some (.agg #[.int .u32 0, .string ByteArray.empty, .int .u64 0]), 3, 32) := by kernel_rfl

set_option maxHeartbeats 1000000 in
theorem copyMembers_any (ad : Option Addr) (len cap : Nat) (A : Nat → Int) (B : Nat → ByteArray) (C : Nat → Int) (b off : Nat) (w : World) (hl : len ≤ 1000000) (h : Trip w ad len cap A B C b off) :
    Calls Try.prog 24 #[.slice ad len cap] w fun e w' => ∃ ad' cap' b' off', e = .returned (.slice ad' len cap') ∧ Trip w' ad' len cap' A B C b' off' ∧ Below w.heap.size w w' ∧ (0 < len → w.heap.size ≤ b') := by
  have hnil := fun (wx : World) (ad : Option Addr) (n c : Nat) => Lib.run_eql_slice_nil (P := Try.prog) wx 46 74 ad n c 0 0 Try.underlying46
  cases ad with
  | none =>
    obtain ⟨rfl, rfl⟩ := h.nil rfl
    go_enter Try.func24, Try.ntmps24
    go_wp2
    go_ret
    exact ⟨none, 0, b, off, rfl, h, Below.refl _ _, fun h0 => absurd h0 (by omega)⟩
  | some a =>
    have hmk := make_any 46 74 _ 3 32 Try.underlying46 info74 len (by omega) (by omega)
    by_cases hz : len ≤ 0
    · go_enter Try.func24, Try.ntmps24
      go_wp2
      go_loopw [4] (fun i wr => ∃ k : Nat, k ≤ len ∧ i = .int .i64 k ∧ Below w.heap.size w wr ∧ TripRow wr w.heap.size 74 len k (fun i => .int .u32 (A i)) (fun i => .string (B i)) (fun i => .int .u64 (C i))) (fun i _ => len - (intOf i).toNat)
      case atStart => exact ⟨0, Nat.zero_le _, rfl, (Below.refl _ _).alloc (Nat.le_refl _) _, TripRow.made _ _ _ _ _ _ _⟩
      case round =>
        obtain ⟨k, hk, rfl, hbel, hrow⟩ := hrel
        have hge : ¬ k < len := by omega
        go_wp2
        go_ret
        obtain rfl : k = len := by omega
        exact ⟨_, _, _, _, rfl, hrow.trip, hbel, fun _ => Nat.le_refl _⟩
    · obtain rfl : a = ⟨b, off, none⟩ := by simpa using h.at_ (by omega)
      go_enter Try.func24, Try.ntmps24
      go_wp2
      go_loopw [4] (fun i wr => ∃ k : Nat, k ≤ len ∧ i = .int .i64 k ∧ Below w.heap.size w wr ∧ TripRow wr w.heap.size 74 len k (fun i => .int .u32 (A i)) (fun i => .string (B i)) (fun i => .int .u64 (C i))) (fun i _ => len - (intOf i).toNat)
      case atStart => exact ⟨0, Nat.zero_le _, rfl, (Below.refl _ _).alloc (Nat.le_refl _) _, TripRow.made _ _ _ _ _ _ _⟩
      case round =>
        obtain ⟨k, hk, rfl, hbel, hrow⟩ := hrel
        by_cases hlt : k < len
        · have hT := h.below hbel
          have c0 := hT.c0 k hlt
          have c1 := hT.c1 k hlt
          have c2 := hT.c2 k hlt
          have f0 := hrow.free (k * 3)
          have f1 := hrow.free (k * 3 + 1)
          have f2 := hrow.free (k * 3 + 2)
          obtain ⟨⟨x0, d0⟩, ⟨x1, d1⟩, ⟨x2, d2⟩⟩ := hrow.some3 hlt
          clear hT h
          go_wp2
          go_roundw
          case rel => exact ⟨k + 1, by omega, by go_num, ((hbel.setCell (Nat.le_refl _) _).setCell (Nat.le_refl _) _).setCell (Nat.le_refl _) _, hrow.store⟩
          case measure => simp [intOf]; omega
        · go_wp2
          go_ret
          obtain rfl : k = len := by omega
          exact ⟨_, _, _, _, rfl, hrow.trip, hbel, fun _ => Nat.le_refl _⟩
set_option maxHeartbeats 1000000 in
theorem buildPeers_any (ad : Option Addr) (len cap : Nat) (A : Nat → Int) (B : Nat → ByteArray) (C : Nat → Int) (b off : Nat) (w : World) (hl : len ≤ 1000000) (h : Trip w ad len cap A B C b off) :
    Calls Try.prog 35 #[.slice ad len cap] w fun e w' => ∃ ad' cap' b' off', e = .returned (.slice ad' len cap') ∧ Trip w' ad' len cap' A B C b' off' ∧ Below w.heap.size w w' ∧ (0 < len → w.heap.size ≤ b') := by
  have hnil := fun (wx : World) (ad : Option Addr) (n c : Nat) => Lib.run_eql_slice_nil (P := Try.prog) wx 46 74 ad n c 0 0 Try.underlying46
  cases ad with
  | none =>
    obtain ⟨rfl, rfl⟩ := h.nil rfl
    go_enter Try.func35, Try.ntmps35
    go_wp2
    go_ret
    exact ⟨none, 0, b, off, rfl, h, Below.refl _ _, fun h0 => absurd h0 (by omega)⟩
  | some a =>
    have hmk := make_any 55 87 _ 3 32 Try.underlying55 info87 len (by omega) (by omega)
    by_cases hz : len ≤ 0
    · go_enter Try.func35, Try.ntmps35
      go_wp2
      go_loopw [4] (fun i wr => ∃ k : Nat, k ≤ len ∧ i = .int .i64 k ∧ Below w.heap.size w wr ∧ TripRow wr w.heap.size 87 len k (fun i => .int .u32 (A i)) (fun i => .string (B i)) (fun i => .int .u64 (C i))) (fun i _ => len - (intOf i).toNat)
      case atStart => exact ⟨0, Nat.zero_le _, rfl, (Below.refl _ _).alloc (Nat.le_refl _) _, TripRow.made _ _ _ _ _ _ _⟩
      case round =>
        obtain ⟨k, hk, rfl, hbel, hrow⟩ := hrel
        have hge : ¬ k < len := by omega
        go_wp2
        go_ret
        obtain rfl : k = len := by omega
        exact ⟨_, _, _, _, rfl, hrow.trip, hbel, fun _ => Nat.le_refl _⟩
    · obtain rfl : a = ⟨b, off, none⟩ := by simpa using h.at_ (by omega)
      go_enter Try.func35, Try.ntmps35
      go_wp2
      go_loopw [4] (fun i wr => ∃ k : Nat, k ≤ len ∧ i = .int .i64 k ∧ Below w.heap.size w wr ∧ TripRow wr w.heap.size 87 len k (fun i => .int .u32 (A i)) (fun i => .string (B i)) (fun i => .int .u64 (C i))) (fun i _ => len - (intOf i).toNat)
      case atStart => exact ⟨0, Nat.zero_le _, rfl, (Below.refl _ _).alloc (Nat.le_refl _) _, TripRow.made _ _ _ _ _ _ _⟩
      case round =>
        obtain ⟨k, hk, rfl, hbel, hrow⟩ := hrel
        by_cases hlt : k < len
        · have hT := h.below hbel
          have c0 := hT.c0 k hlt
          have c1 := hT.c1 k hlt
          have c2 := hT.c2 k hlt
          have f0 := hrow.free (k * 3)
          have f1 := hrow.free (k * 3 + 1)
          have f2 := hrow.free (k * 3 + 2)
          obtain ⟨⟨x0, d0⟩, ⟨x1, d1⟩, ⟨x2, d2⟩⟩ := hrow.some3 hlt
          have bl : b < wr.heap.size := World.block_lt_of_cell? wr _ c0
          have gl := hrow.lt
          clear hT h
          go_wp2
          go_roundw
          case rel => exact ⟨k + 1, by omega, by go_num, (((hbel.setCell (Nat.le_refl _) _).setCell (Nat.le_refl _) _).setCell (Nat.le_refl _) _).alloc (by simp; omega) _, hrow.store.alloc _⟩
          case measure => simp [intOf]; omega
        · go_wp2
          go_ret
          obtain rfl : k = len := by omega
          exact ⟨_, _, _, _, rfl, hrow.trip, hbel, fun _ => Nat.le_refl _⟩
end Go.Proofs.Qxb6000359a
