import Derived.Test.Qxb6601288aCopy
namespace Go.Proofs.Qxb6601288a
open Go.RowKit Go.Deep

abbrev LL (rows : Nat → List ByteArray) (i : Nat) : Nat := (rows i).length
abbrev SS (rows : Nat → List ByteArray) (i j : Nat) : ByteArray := (rows i).getD j ByteArray.empty

/-- a slice of slices that the call owns: the row G of cap cells, the first n of them the runs, each in a block of its own -/
structure Own (w : World) (B G cap n : Nat) (A : Nat → Option Addr) (C : Nat → Nat) (rows : Nat → List ByteArray) : Prop where
  row : OneRow w G 22 cap n (fun i => .slice (A i) (rows i).length (C i))
  le : n ≤ cap
  gB : B ≤ G
  own : ∀ i, i < n → OwnS w B (A i) (C i) (rows i)
  notG : ∀ i, i < n → blkOf (A i) ≠ some G
  apart : ∀ i j, i < n → j < n → i ≠ j → ∀ k, blkOf (A i) = some k → blkOf (A j) ≠ some k

theorem Own.runs {w : World} {B G cap n : Nat} {A : Nat → Option Addr} {C : Nat → Nat} {rows : Nat → List ByteArray} (h : Own w B G cap n A C rows) :
    ∃ v : RV, Runs w (some ⟨G, 0, none⟩) cap n (LL rows) (SS rows) v := by
  refine ⟨⟨G, 0, A, C, fun i => (blkOf (A i)).getD 0, fun _ => 0⟩, fun e => (by cases e), fun _ => rfl, fun i hi => ?_, fun i hi => ?_, fun i hi hp => ?_, fun i hi j hj => ?_⟩
  · rw [Nat.zero_add]; exact h.row.cell hi h.le
  · obtain ⟨b, hs, -⟩ := (h.own i hi).strs
    exact hs.nil
  · obtain ⟨b, hs, hb⟩ := (h.own i hi).strs
    have := hs.at_ hp
    simp only [this, blkOf, Option.map_some, Option.getD_some]
  · obtain ⟨b, hs, hb⟩ := (h.own i hi).strs
    have := hs.c0 j hj
    simp only [hb (Nat.lt_of_le_of_lt (Nat.zero_le _) hj), Option.getD_some]
    exact this

theorem Own.below {w w' : World} {B G cap n : Nat} {A : Nat → Option Addr} {C : Nat → Nat} {rows : Nat → List ByteArray} (h : Own w B G cap n A C rows) (hb : Below w.heap.size w w') : Own w' B G cap n A C rows :=
  ⟨h.row.of_block (hb.block _ h.row.lt), h.le, h.gB, fun i hi => (h.own i hi).below hb, h.notG, h.apart⟩

/-- one run more, in blocks that are new -/
theorem Own.push {w w1 : World} {B G cap n : Nat} {A : Nat → Option Addr} {C : Nat → Nat} {rows : Nat → List ByteArray} (h : Own w B G cap n A C rows) (hb : Below w.heap.size w w1) {a : Option Addr} {c : Nat}
    (ho : OwnS w1 w.heap.size a c (rows n)) (hn : n < cap) (hB : B ≤ w.heap.size) :
    Own (w1.setCell ⟨G, n, none⟩ (.slice a (rows n).length c)) B G cap (n + 1) (fun i => if i = n then a else A i) (fun i => if i = n then c else C i) rows := by
  have hG := h.row.lt
  have h1 := h.below hb
  have haG : blkOf a ≠ some G := fun e => by have := (ho.lt e).1; omega
  refine ⟨?_, hn, h.gB, fun i hi => ?_, fun i hi => ?_, fun i j hi hj hij k hk => ?_⟩
  · have hr := (h1.row.congr (V' := fun i => .slice (if i = n then a else A i) (rows i).length (if i = n then c else C i)) (fun i hi => by
      have : i ≠ n := by omega
      simp only [if_neg this])).store
    simpa using hr
  · by_cases e : i = n
    · subst e
      simp only [if_true]
      exact (ho.mono hB).of_block fun k hk => blk_setCell_other _ _ _ _ (fun e => haG (by rw [hk]; exact congrArg some e))
    · simp only [if_neg e]
      exact (h1.own i (by omega)).of_block fun k hk => blk_setCell_other _ _ _ _ (fun e => h1.notG i (by omega) (by rw [hk]; exact congrArg some e))
  · by_cases e : i = n
    · simp only [if_pos e]; exact haG
    · simp only [if_neg e]; exact h1.notG i (by omega)
  · by_cases e : i = n
    · have e2 : j ≠ n := by omega
      simp only [if_pos e] at hk
      simp only [if_neg e2]
      intro hj2
      have h3 := (ho.lt hk).1
      have h4 := ((h.own j (by omega)).lt hj2).2
      omega
    · simp only [if_neg e] at hk
      by_cases e2 : j = n
      · simp only [if_pos e2]
        intro hj2
        have h3 := (ho.lt hj2).1
        have h4 := ((h.own i (by omega)).lt hk).2
        omega
      · simp only [if_neg e2]
        exact h.apart i j (by omega) (by omega) hij k hk

set_option maxHeartbeats 1000000 in
theorem copyRuns_any (ad : Option Addr) (cap n : Nat) (rows : Nat → List ByteArray) (v : RV) (w : World) (hn0 : 0 < n) (hn : n ≤ 1000000) (hl : ∀ i, i < n → (rows i).length ≤ 1000000) (h : Runs w ad cap n (LL rows) (SS rows) v) :
    Calls Try.prog 28 #[.slice ad n cap] w fun e w' => ∃ A C, e = .returned (.slice (some ⟨w.heap.size, 0, none⟩) n n) ∧ Own w' w.heap.size w.heap.size n n A C rows ∧ Below w.heap.size w w' := by
  have hnil := fun (wx : World) (ad : Option Addr) (n c : Nat) => Lib.run_eql_slice_nil (P := Try.prog) wx 40 22 ad n c 0 0 Try.underlying40
  obtain rfl := h.at_ hn0
  have hmk := run_make_row' (P := Try.prog) 40 22 (.slice none 0 0) 24 Try.underlying40 info22 rfl .i64 .i64 n (by omega) (by omega)
  go_enter Try.func28, Try.ntmps28
  go_wp2
  go_loopw [4] (fun i wr => ∃ k : Nat, k ≤ n ∧ i = .int .i64 k ∧ Below w.heap.size w wr ∧ ∃ A C, Own wr w.heap.size w.heap.size n k A C rows) (fun i _ => n - (intOf i).toNat)
  case atStart => exact ⟨0, Nat.zero_le _, rfl, (Below.refl _ _).alloc (Nat.le_refl _) _, fun _ => none, fun _ => 0, OneRow.made _ _ _ _ _, Nat.zero_le _, Nat.le_refl _, fun i hi => by omega, fun i hi => by omega, fun i j hi => by omega⟩
  case round =>
    obtain ⟨k, hk, rfl, hbel, A, C, hO⟩ := hrel
    by_cases hlt : k < n
    · have hR := h.below hbel
      have c0 := hR.cell k hlt
      have ct := copyS_any (v.A k) (v.Cp k) (rows k) (v.bb k) (v.oo k) wr (hl k hlt) (hR.run hlt)
      have hGl := hO.row.lt
      have hpush := fun (w1 : World) (a : Option Addr) (c : Nat) (hb : Below wr.heap.size wr w1) (ho : OwnS w1 wr.heap.size a c (rows k)) => hO.push hb ho hlt (Nat.le_of_lt hGl)
      have hrow := fun (w1 : World) (hb : Below wr.heap.size wr w1) => (hO.below hb).row
      clear hR h hl hO
      simp only [LL] at c0
      generalize v.A k = ak at c0 ct
      generalize v.Cp k = ck at c0 ct
      generalize rows k = l at c0 ct hpush
      generalize l.length = lk at c0 ct hpush
      go_wp2_with fail
      refine ct.mono ?_
      rintro _ w1 ⟨a', c', rfl, ho, hb⟩
      have hr1 := hrow w1 hb
      have f0 := hr1.free k
      obtain ⟨x0, d0⟩ := hr1.some1 hlt
      go_wp2
      go_roundw
      case rel => exact ⟨k + 1, by omega, by go_num, (hbel.trans (hb.mono hbel.size)).setCell (Nat.le_refl _) _, _, _, hpush _ _ _ hb ho⟩
      case measure => simp [intOf]; omega
    · go_wp2
      go_ret
      obtain rfl : k = n := by omega
      exact ⟨_, _, rfl, hO, hbel⟩
end Go.Proofs.Qxb6601288a
