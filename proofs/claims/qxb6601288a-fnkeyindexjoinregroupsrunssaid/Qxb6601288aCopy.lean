import Derived.Test.Qxb6601288aParts
namespace Go.Proofs.Qxb6601288a
open Go.RowKit

def OneRow (w : World) (g : Nat) (t : TypeId) (len k : Nat) (V : Nat → Value) : Prop := ∃ f, w.rowIs g t len f ∧ ∀ i, i < k → f i = V i
namespace OneRow
variable {w : World} {g : Nat} {t : TypeId} {len k : Nat} {V : Nat → Value}
theorem cell (h : OneRow w g t len k V) {i : Nat} (hi : i < k) (hl : k ≤ len) : w.cell? ⟨g, i, none⟩ = some (V i) := by
  obtain ⟨f, hr, hf⟩ := h
  rw [hr.cell (by omega), hf i hi]
theorem some1 (h : OneRow w g t len k V) {i : Nat} (hi : i < len) : ∃ v, w.cell? ⟨g, i, none⟩ = some v := by
  obtain ⟨f, hr, hf⟩ := h
  exact ⟨_, hr.cell hi⟩
theorem free (h : OneRow w g t len k V) (i : Nat) : w.frozen? ⟨g, i, none⟩ = false := by
  obtain ⟨f, hr, hf⟩ := h
  exact hr.frozen i
theorem lt (h : OneRow w g t len k V) : g < w.heap.size := by
  obtain ⟨f, hr, hf⟩ := h
  exact hr.lt
theorem of_block {w' : World} (h : OneRow w g t len k V) (e : w'.heap[g]? = w.heap[g]?) : OneRow w' g t len k V := by
  obtain ⟨f, hr, hf⟩ := h
  exact ⟨f, hr.of_block e, hf⟩
theorem congr {V' : Nat → Value} (h : OneRow w g t len k V) (e : ∀ i, i < k → V i = V' i) : OneRow w g t len k V' := by
  obtain ⟨f, hr, hf⟩ := h
  exact ⟨f, hr, fun i hi => (hf i hi).trans (e i hi)⟩
theorem store (h : OneRow w g t len k V) : OneRow (w.setCell ⟨g, k, none⟩ (V k)) g t len (k + 1) V := by
  obtain ⟨f, hr, hf⟩ := h
  refine ⟨_, hr.set k (V k), fun i hi => ?_⟩
  by_cases e : i = k
  · subst e; simp
  · simp only [if_neg e]; exact hf i (by omega)
theorem made (w : World) (z : Value) (t : TypeId) (len : Nat) (V : Nat → Value) : OneRow (w.alloc (.cells (madeCells #[z] len) t)) w.heap.size t len 0 V :=
  ⟨_, World.rowIs_made w z len t, fun _ hi => absurd hi (Nat.not_lt_zero _)⟩
end OneRow

/-- the slice (ad, cap) is the call's own: it holds the strings l, in a block from B on -/
def OwnS (w : World) (B : Nat) (ad : Option Addr) (cap : Nat) (l : List ByteArray) : Prop := w.ownsRow B 9 1 (.slice ad l.length cap) l.length (l.map Value.string)
def blkOf (ad : Option Addr) : Option Nat := ad.map (·.block)
theorem ownBlock_slice (ad : Option Addr) (n c : Nat) : (Value.slice ad n c).ownBlock = blkOf ad := by cases ad <;> rfl
theorem OwnS.lt {w : World} {B : Nat} {ad : Option Addr} {cap : Nat} {l : List ByteArray} (h : OwnS w B ad cap l) {k : Nat} (hk : blkOf ad = some k) : B ≤ k ∧ k < w.heap.size :=
  World.ownsRow.lt h k (by rw [ownBlock_slice]; exact hk)
theorem OwnS.of_block {w w' : World} {B : Nat} {ad : Option Addr} {cap : Nat} {l : List ByteArray} (h : OwnS w B ad cap l) (hb : ∀ k, blkOf ad = some k → w'.heap[k]? = w.heap[k]?) : OwnS w' B ad cap l := by
  obtain ⟨h1, h2 | ⟨g, c, cur, hv, hB, hg, h3⟩⟩ := h
  · exact ⟨h1, .inl h2⟩
  · refine ⟨h1, .inr ⟨g, c, cur, hv, hB, ?_, h3⟩⟩
    rw [← hg]
    refine hb g ?_
    have := congrArg Value.ownBlock hv
    rw [ownBlock_slice, ownBlock_slice] at this
    exact this
theorem OwnS.below {w w' : World} {B : Nat} {ad : Option Addr} {cap : Nat} {l : List ByteArray} (h : OwnS w B ad cap l) (hb : Below w.heap.size w w') : OwnS w' B ad cap l :=
  h.of_block fun k hk => hb.block k (h.lt hk).2
theorem OwnS.mono {w : World} {B B' : Nat} {ad : Option Addr} {cap : Nat} {l : List ByteArray} (h : OwnS w B ad cap l) (hB : B' ≤ B) : OwnS w B' ad cap l := by
  obtain ⟨h1, h2 | ⟨g, c, cur, hv, hB2, h3⟩⟩ := h
  · exact ⟨h1, .inl h2⟩
  · exact ⟨h1, .inr ⟨g, c, cur, hv, Nat.le_trans hB hB2, h3⟩⟩
/-- as a slice to be read -/
theorem OwnS.strs {w : World} {B : Nat} {ad : Option Addr} {cap : Nat} {l : List ByteArray} (h : OwnS w B ad cap l) : ∃ b, Strs w ad l.length cap (fun j => l.getD j ByteArray.empty) b 0 ∧ (0 < l.length → blkOf ad = some b) := by
  have hc := fun g hg => World.ownsRow.cells h (g := g) hg
  obtain ⟨h1, ⟨h2, h3⟩ | ⟨g, c, cur, hv, hB, hg, h3⟩⟩ := h
  · simp only [Value.slice.injEq] at h2
    exact ⟨0, ⟨fun _ => ⟨h3, h2.2.2⟩, fun h0 => by omega, fun i hi => by omega⟩, fun h0 => by omega⟩
  · simp only [Value.slice.injEq] at hv
    obtain ⟨rfl, _, rfl⟩ := hv
    refine ⟨g, ⟨fun e => (by cases e), fun _ => rfl, fun i hi => ?_⟩, fun _ => rfl⟩
    have := hc g rfl i (.string (l.getD i ByteArray.empty)) (by simp [hi])
    by_cases h0 : i = 0
    · subst h0; simpa [Addr.add] using this
    · simpa [Addr.add, h0] using this

theorem info9 : (Try.prog.info? 9).map (fun i => (i.zero, i.size, i.bytes)) = some (some (.string ByteArray.empty), 1, 16) := by kernel_rfl
theorem info22 : (Try.prog.info? 22).map (fun i => (i.zero, i.size, i.bytes)) = some (some (.slice none 0 0), 1, 24) := by kernel_rfl

theorem OneRow.own {w : World} {B g : Nat} {l : List ByteArray} (h : OneRow w g 9 l.length l.length (fun i => .string (l.getD i ByteArray.empty))) (hB : B ≤ g) (hl : l.length ≤ 1000000) : OwnS w B (some ⟨g, 0, none⟩) l.length l := by
  obtain ⟨f, ⟨c, hc, hs, hf⟩, hV⟩ := h
  refine ⟨by simp, .inr ⟨g, l.length, c, rfl, hB, hc, Nat.le_refl _, by simp only [maxLen]; omega, by simpa using hs, ?_⟩⟩
  apply List.ext_getElem?
  intro i
  by_cases hi : i < l.length
  · rw [Nat.mul_one, List.getElem?_take_of_lt hi, Array.getElem?_toList, hf i hi, hV i hi]
    simp [hi]
  · rw [List.getElem?_eq_none (by simp; omega), List.getElem?_eq_none (by simp; omega)]

set_option maxHeartbeats 1000000 in
theorem copyS_any (ad : Option Addr) (cap : Nat) (l : List ByteArray) (b off : Nat) (w : World) (hl : l.length ≤ 1000000) (h : Strs w ad l.length cap (fun j => l.getD j ByteArray.empty) b off) :
    Calls Try.prog 11 #[.slice ad l.length cap] w fun e w' => ∃ ad' cap', e = .returned (.slice ad' l.length cap') ∧ OwnS w' w.heap.size ad' cap' l ∧ Below w.heap.size w w' := by
  have hnil := fun (wx : World) (ad : Option Addr) (n c : Nat) => Lib.run_eql_slice_nil (P := Try.prog) wx 22 9 ad n c 0 0 Try.underlying22
  cases ad with
  | none =>
    obtain ⟨h0, rfl⟩ := h.nil rfl
    obtain rfl : l = [] := List.eq_nil_of_length_eq_zero h0
    go_enter Try.func11, Try.ntmps11
    go_wp2
    go_ret
    exact ⟨none, 0, rfl, World.ownsRow_nil _ _ _ _, Below.refl _ _⟩
  | some a =>
    have hmk := run_make_row' (P := Try.prog) 22 9 (.string ByteArray.empty) 16 Try.underlying22 info9 rfl .i64 .i64 l.length (by omega) (by omega)
    have hend := fun (wr : World) (hr : OneRow wr w.heap.size 9 l.length l.length (fun i => .string (l.getD i ByteArray.empty))) => hr.own (Nat.le_refl _) hl
    generalize l.length = len at *
    by_cases hz : len ≤ 0
    · go_enter Try.func11, Try.ntmps11
      go_wp2
      go_loopw [4] (fun i wr => ∃ k : Nat, k ≤ len ∧ i = .int .i64 k ∧ Below w.heap.size w wr ∧ OneRow wr w.heap.size 9 len k (fun i => .string (l.getD i ByteArray.empty))) (fun i _ => len - (intOf i).toNat)
      case atStart => exact ⟨0, Nat.zero_le _, rfl, (Below.refl _ _).alloc (Nat.le_refl _) _, OneRow.made _ _ _ _ _⟩
      case round =>
        obtain ⟨k, hk, rfl, hbel, hrow⟩ := hrel
        have hge : ¬ k < len := by omega
        go_wp2
        go_ret
        obtain rfl : k = len := by omega
        exact ⟨_, _, rfl, hend _ hrow, hbel⟩
    · obtain rfl : a = ⟨b, off, none⟩ := by simpa using h.at_ (by omega)
      go_enter Try.func11, Try.ntmps11
      go_wp2
      go_loopw [4] (fun i wr => ∃ k : Nat, k ≤ len ∧ i = .int .i64 k ∧ Below w.heap.size w wr ∧ OneRow wr w.heap.size 9 len k (fun i => .string (l.getD i ByteArray.empty))) (fun i _ => len - (intOf i).toNat)
      case atStart => exact ⟨0, Nat.zero_le _, rfl, (Below.refl _ _).alloc (Nat.le_refl _) _, OneRow.made _ _ _ _ _⟩
      case round =>
        obtain ⟨k, hk, rfl, hbel, hrow⟩ := hrel
        by_cases hlt : k < len
        · have c0 := (h.below hbel).c0 k hlt
          have f0 := hrow.free k
          obtain ⟨x0, d0⟩ := hrow.some1 hlt
          have hst := hrow.store
          clear h hend
          generalize l.getD k ByteArray.empty = s at c0 hst
          go_wp2
          go_roundw
          case rel => exact ⟨k + 1, by omega, by go_num, hbel.setCell (Nat.le_refl _) _, hst⟩
          case measure => simp [intOf]; omega
        · go_wp2
          go_ret
          obtain rfl : k = len := by omega
          exact ⟨_, _, rfl, hend _ hrow, hbel⟩
end Go.Proofs.Qxb6601288a
