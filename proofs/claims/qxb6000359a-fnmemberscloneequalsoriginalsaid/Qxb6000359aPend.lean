import Derived.Test.Qxb6000359aClone
namespace Go.Proofs.Qxb6000359a
open Go.RowKit

/-- a pending change as plain data -/
structure PD where
  o : Int
  i : Int
  s : Int
  p : Int
  pa : ByteArray
  rm : Bool
  rf : ByteArray
  fr : Int
  aw : Bool
  vt : Bool
  len : Nat
  A : Nat → Int
  B : Nat → ByteArray
  C : Nat → Int

def PD.cells (d : PD) (ad : Option Addr) (cap : Nat) : Array Value := #[.int .u32 d.o, .int .u64 d.i, .int .u64 d.s, .int .u32 d.p, .string d.pa, .bool d.rm, .string d.rf, .int .u64 d.fr, .slice ad d.len cap, .bool d.aw, .bool d.vt]

/-- The pending change d lies at (b, off); its peers at (pb, poff). -/
structure PendAt (w : World) (b off : Nat) (d : PD) (ad : Option Addr) (cap pb poff : Nat) : Prop where
  cell : ∀ j v, (d.cells ad cap)[j]? = some v → w.cell? ⟨b, off + j, none⟩ = some v
  trip : Trip w ad d.len cap d.A d.B d.C pb poff

theorem PendAt.lt {w : World} {b off : Nat} {d : PD} {ad : Option Addr} {cap pb poff : Nat} (h : PendAt w b off d ad cap pb poff) : b < w.heap.size := World.block_lt_of_cell? w _ (h.cell 0 _ rfl)
theorem PendAt.below {w w' : World} {b off : Nat} {d : PD} {ad : Option Addr} {cap pb poff : Nat} (h : PendAt w b off d ad cap pb poff) (hb : Below w.heap.size w w') : PendAt w' b off d ad cap pb poff :=
  ⟨fun j v hj => (hb.cell (p := ⟨b, off + j, none⟩) h.lt).trans (h.cell j v hj), h.trip.below hb⟩
theorem PendAt.all {w : World} {b off : Nat} {d : PD} {ad : Option Addr} {cap pb poff : Nat} (h : PendAt w b off d ad cap pb poff) :
    w.cell? ⟨b, off, none⟩ = some (.int .u32 d.o) ∧ w.cell? ⟨b, off + 1, none⟩ = some (.int .u64 d.i) ∧ w.cell? ⟨b, off + 2, none⟩ = some (.int .u64 d.s) ∧ w.cell? ⟨b, off + 3, none⟩ = some (.int .u32 d.p) ∧ w.cell? ⟨b, off + 4, none⟩ = some (.string d.pa) ∧ w.cell? ⟨b, off + 5, none⟩ = some (.bool d.rm) ∧ w.cell? ⟨b, off + 6, none⟩ = some (.string d.rf) ∧ w.cell? ⟨b, off + 7, none⟩ = some (.int .u64 d.fr) ∧ w.cell? ⟨b, off + 8, none⟩ = some (.slice ad d.len cap) ∧ w.cell? ⟨b, off + 9, none⟩ = some (.bool d.aw) ∧ w.cell? ⟨b, off + 10, none⟩ = some (.bool d.vt) :=
  ⟨h.cell 0 _ rfl, h.cell 1 _ rfl, h.cell 2 _ rfl, h.cell 3 _ rfl, h.cell 4 _ rfl, h.cell 5 _ rfl, h.cell 6 _ rfl, h.cell 7 _ rfl, h.cell 8 _ rfl, h.cell 9 _ rfl, h.cell 10 _ rfl⟩
theorem PendAt.all0 {w : World} {b : Nat} {d : PD} {ad : Option Addr} {cap pb poff : Nat} (h : PendAt w b 0 d ad cap pb poff) :
    w.cell? ⟨b, 0, none⟩ = some (.int .u32 d.o) ∧ w.cell? ⟨b, 1, none⟩ = some (.int .u64 d.i) ∧ w.cell? ⟨b, 2, none⟩ = some (.int .u64 d.s) ∧ w.cell? ⟨b, 3, none⟩ = some (.int .u32 d.p) ∧ w.cell? ⟨b, 4, none⟩ = some (.string d.pa) ∧ w.cell? ⟨b, 5, none⟩ = some (.bool d.rm) ∧ w.cell? ⟨b, 6, none⟩ = some (.string d.rf) ∧ w.cell? ⟨b, 7, none⟩ = some (.int .u64 d.fr) ∧ w.cell? ⟨b, 8, none⟩ = some (.slice ad d.len cap) ∧ w.cell? ⟨b, 9, none⟩ = some (.bool d.aw) ∧ w.cell? ⟨b, 10, none⟩ = some (.bool d.vt) := by
  have := h.all
  simpa using this
theorem PendAt.of_block {w : World} {b : Nat} {d : PD} {ad : Option Addr} {cap pb poff : Nat} {t : TypeId} (h : w.heap[b]? = some (.cells (d.cells ad cap) t (0, 0))) (ht : Trip w ad d.len cap d.A d.B d.C pb poff) : PendAt w b 0 d ad cap pb poff :=
  ⟨fun j v hj => by rw [Nat.zero_add]; exact cell_of_block h hj, ht⟩

theorem Trip.set {w : World} {ad : Option Addr} {len cap : Nat} {A : Nat → Int} {B : Nat → ByteArray} {C : Nat → Int} {b off : Nat} (h : Trip w ad len cap A B C b off) {G : Nat} (hG : 0 < len → b ≠ G) (o : Nat) (v : Value) : Trip (w.setCell ⟨G, o, none⟩ v) ad len cap A B C b off :=
  ⟨h.nil, h.at_, fun i hi => (World.cell?_of_block (w := w) (Below.heap_setCell _ _ _ _ (hG (by omega)))).trans (h.c0 i hi), fun i hi => (World.cell?_of_block (w := w) (Below.heap_setCell _ _ _ _ (hG (by omega)))).trans (h.c1 i hi), fun i hi => (World.cell?_of_block (w := w) (Below.heap_setCell _ _ _ _ (hG (by omega)))).trans (h.c2 i hi)⟩

theorem copyPend_nil (w : World) : Calls Try.prog 26 #[.pointer none] w fun e w' => e = .returned (.pointer none) ∧ w' = w := by
  go_enter Try.func26, Try.ntmps26
  go_wp2
  go_ret
  exact ⟨rfl, rfl⟩

set_option maxHeartbeats 2000000 in
theorem copyPend_any (b off : Nat) (d : PD) (ad : Option Addr) (cap pb poff : Nat) (w : World) (hl : d.len ≤ 1000000) (h : PendAt w b off d ad cap pb poff) :
    Calls Try.prog 26 #[.pointer (some ⟨b, off, none⟩)] w fun e w' => ∃ b' ad' cap' pb' poff', e = .returned (.pointer (some ⟨b', 0, none⟩)) ∧ PendAt w' b' 0 d ad' cap' pb' poff' ∧ Below w.heap.size w w' ∧ w.heap.size ≤ b' := by
  obtain ⟨c0, c1, c2, c3, c4, c5, c6, c7, c8, c9, c10⟩ := h.all
  have hlt := h.lt
  have ct := fun c => copyMembers_any ad d.len cap d.A d.B d.C pb poff (w.alloc (.cells c 76)) hl (h.trip.below ((Below.refl _ _).alloc (Nat.le_refl _) _))
  go_enter Try.func26, Try.ntmps26
  go_wp2_with (go_at_call 24; refine (ct _).mono ?_; rintro e w1 ⟨ad', cap', b', off', rfl, hT, hb, hbb⟩; have hB1 := (hb.block w.heap.size (by simp)).trans (heap_alloc_new w _); have z8 : w1.cell? ⟨w.heap.size, 8, none⟩ = some (.slice ad d.len cap) := cell_of_block hB1 rfl; have f8 := free_of_block (o := 8) hB1)
  go_ret
  have hb2 := heap_setCell_same w1 w.heap.size 8 _ _ (.slice ad' d.len cap') hB1
  have hne : 0 < d.len → b' ≠ w.heap.size := fun h0 => by have := hbb h0; simp at this; omega
  refine ⟨w.heap.size, ad', cap', b', off', rfl, PendAt.of_block (d := d) (ad := ad') (cap := cap') hb2 (hT.set hne 8 _), ?_, Nat.le_refl _⟩
  exact (((Below.refl _ _).alloc (Nat.le_refl _) _).trans (hb.mono (by simp))).setCell (Nat.le_refl _) _
end Go.Proofs.Qxb6000359a
