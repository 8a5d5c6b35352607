import Derived.Test.Qxb6000359aAdd
import Derived.Test.Qxb6000359aPairs
import Derived.Test.Qxb6000359aView
namespace Go.Proofs.Qxb6000359a
open Go.RowKit

/-- What (inc, T) is behind the requests (I j, S j), P j. -/
def Seen (I S : Nat → Int) (P : Nat → Prop) (inc : Int) (T : Int → Bool) : Prop :=
  0 ≤ inc ∧ (∀ j, P j → I j ≤ inc) ∧ (inc = 0 ∨ ∃ j, P j ∧ I j = inc) ∧ ∀ x, T x = true ↔ (x ≤ 0 ∨ ∃ j, P j ∧ I j = inc ∧ S j = x)

theorem Seen.start (I S : Nat → Int) (P : Nat → Prop) (h : ∀ j, ¬ P j) : Seen I S P 0 zeroT := by
  refine ⟨by omega, fun j hj => absurd hj (h j), Or.inl rfl, fun x => ?_⟩
  simp only [zeroT, decide_eq_true_eq]
  constructor
  · exact Or.inl
  · rintro (h1 | ⟨j, hj, _⟩)
    · exact h1
    · exact absurd hj (h j)

theorem Seen.congr {I S : Nat → Int} {P P' : Nat → Prop} {inc : Int} {T : Int → Bool} (h : Seen I S P inc T) (e : ∀ j, P j ↔ P' j) : Seen I S P' inc T := by
  have : P = P' := funext fun j => propext (e j)
  rw [← this]; exact h

theorem Seen.yes {I S : Nat → Int} {P P' : Nat → Prop} {inc : Int} {T : Int → Bool} {k : Nat} (h : Seen I S P inc T) (hP : ∀ j, P' j ↔ (P j ∨ j = k)) (hm : memB inc T (I k) (S k) = false) :
    Seen I S P' (I k) (addT inc T (I k) (S k)) := by
  obtain ⟨h0, h1, h2, h3⟩ := h
  simp only [memB, Bool.or_eq_false_iff, Bool.and_eq_false_iff, decide_eq_false_iff_not] at hm
  obtain ⟨m1, m2⟩ := hm
  refine ⟨by omega, fun j hj => ?_, Or.inr ⟨k, (hP k).2 (Or.inr rfl), rfl⟩, fun x => ?_⟩
  · rcases (hP j).1 hj with hj | rfl
    · have := h1 j hj; omega
    · exact Int.le_refl _
  · unfold addT
    by_cases e : inc < I k
    · rw [if_pos e]
      simp only [Bool.or_eq_true, decide_eq_true_eq]
      constructor
      · rintro (hx | hx)
        · exact Or.inl hx
        · exact Or.inr ⟨k, (hP k).2 (Or.inr rfl), rfl, hx.symm⟩
      · rintro (hx | ⟨j, hj, hj1, hj2⟩)
        · exact Or.inl hx
        · rcases (hP j).1 hj with hj | rfl
          · have := h1 j hj; omega
          · exact Or.inr hj2.symm
    · rw [if_neg e]
      have ei : I k = inc := by omega
      simp only [Bool.or_eq_true, decide_eq_true_eq, h3 x]
      rw [ei]
      constructor
      · rintro ((hx | ⟨j, hj, hj1, hj2⟩) | hx)
        · exact Or.inl hx
        · exact Or.inr ⟨j, (hP j).2 (Or.inl hj), hj1, hj2⟩
        · exact Or.inr ⟨k, (hP k).2 (Or.inr rfl), ei, hx.symm⟩
      · rintro (hx | ⟨j, hj, hj1, hj2⟩)
        · exact Or.inl (Or.inl hx)
        · rcases (hP j).1 hj with hj | rfl
          · exact Or.inl (Or.inr ⟨j, hj, hj1, hj2⟩)
          · exact Or.inr hj2.symm

theorem Seen.no {I S : Nat → Int} {P P' : Nat → Prop} {inc : Int} {T : Int → Bool} {k : Nat} (h : Seen I S P inc T) (hP : ∀ j, P' j ↔ (P j ∨ j = k)) (hm : memB inc T (I k) (S k) = true) :
    Seen I S P' inc T := by
  obtain ⟨h0, h1, h2, h3⟩ := h
  simp only [memB, Bool.or_eq_true, Bool.and_eq_true, decide_eq_true_eq] at hm
  refine ⟨h0, fun j hj => ?_, ?_, fun x => ?_⟩
  · rcases (hP j).1 hj with hj | rfl
    · exact h1 j hj
    · rcases hm with hm | hm <;> omega
  · rcases h2 with h2 | ⟨j, hj, hj1⟩
    · exact Or.inl h2
    · exact Or.inr ⟨j, (hP j).2 (Or.inl hj), hj1⟩
  · rw [h3 x]
    constructor
    · rintro (hx | ⟨j, hj, hj1, hj2⟩)
      · exact Or.inl hx
      · exact Or.inr ⟨j, (hP j).2 (Or.inl hj), hj1, hj2⟩
    · rintro (hx | ⟨j, hj, hj1, hj2⟩)
      · exact Or.inl hx
      · rcases (hP j).1 hj with hj | rfl
        · exact Or.inr ⟨j, hj, hj1, hj2⟩
        · rcases hm with hm | hm
          · omega
          · have := hm.2; rw [hj2] at this; exact (h3 x).1 this

theorem Seen.mem {I S : Nat → Int} {P : Nat → Prop} {inc : Int} {T : Int → Bool} {k : Nat} (h : Seen I S P inc T) (hk : P k) : memB inc T (I k) (S k) = true := by
  obtain ⟨h0, h1, h2, h3⟩ := h
  have := h1 k hk
  simp only [memB, Bool.or_eq_true, Bool.and_eq_true, decide_eq_true_eq]
  by_cases e : I k < inc
  · exact Or.inl e
  · exact Or.inr ⟨by omega, (h3 _).2 (Or.inr ⟨k, hk, by omega, rfl⟩)⟩

theorem Seen.unique {I S : Nat → Int} {P : Nat → Prop} {inc inc' : Int} {T T' : Int → Bool} (h : Seen I S P inc T) (h' : Seen I S P inc' T') : inc = inc' ∧ T = T' := by
  obtain ⟨h0, h1, h2, h3⟩ := h
  obtain ⟨g0, g1, g2, g3⟩ := h'
  have e : inc = inc' := by
    rcases h2 with h2 | ⟨j, hj, hj1⟩ <;> rcases g2 with g2 | ⟨i, hi, hi1⟩
    · omega
    · have := h1 i hi; omega
    · have := g1 j hj; omega
    · have := h1 i hi; have := g1 j hj; omega
  subst e
  refine ⟨rfl, funext fun x => ?_⟩
  rw [Bool.eq_iff_iff, h3 x, g3 x]

/-! ### the copies, nil or not -/
/-- The row that copyReqs has made (where there is an element). -/
def Row (w : World) (g len : Nat) (I S : Nat → Int) : Prop := 0 < len → PairRow w g 30 len len (fun i => .int .u64 (I i)) (fun i => .int .u64 (S i))

theorem Row.of_block {w w' : World} {g len : Nat} {I S : Nat → Int} (h : Row w g len I S) (e : 0 < len → w'.heap[g]? = w.heap[g]?) : Row w' g len I S := fun hl => (h hl).of_block (e hl)

theorem IsPairs.below {w w' : World} {ad : Option Addr} {len cap : Nat} {V0 V1 : Nat → Value} (h : IsPairs w ad len cap V0 V1) (hb : Below w.heap.size w w') : IsPairs w' ad len cap V0 V1 := by
  rcases h with h | ⟨a, b, off, rfl, h1, h2, h3⟩
  · exact Or.inl h
  · refine Or.inr ⟨a, b, off, rfl, h1, fun i hi => ?_, fun i hi => ?_⟩
    · rw [hb.cell (p := ⟨b, off + i * 2, none⟩) (World.block_lt_of_cell? w _ (h2 i hi))]; exact h2 i hi
    · rw [hb.cell (p := ⟨b, off + i * 2 + 1, none⟩) (World.block_lt_of_cell? w _ (h3 i hi))]; exact h3 i hi

theorem copyReqs_all (ad : Option Addr) (len cap : Nat) (I S : Nat → Int) (w : World) (hl : len ≤ 1000000) (h : IsPairs w ad len cap (fun i => .int .u64 (I i)) (fun i => .int .u64 (S i))) :
    Calls Try.prog 11 #[.slice ad len cap] w fun e w' => ∃ ad' cp, e = .returned (.slice ad' len cp) ∧ (0 < len → ad' = some ⟨w.heap.size, 0, none⟩) ∧ Below w.heap.size w w' ∧ Row w' w.heap.size len I S := by
  rcases h with ⟨rfl, rfl, rfl⟩ | ⟨a, b, off, rfl, h1, h2, h3⟩
  · refine (copyReqs_nil w).mono ?_
    rintro e w' ⟨rfl, rfl⟩
    exact ⟨none, 0, rfl, fun h => absurd h (by omega), Below.refl _ _, fun h => absurd h (by omega)⟩
  · refine (copyReqs_any a b off len cap I S w hl h1 h2 h3).mono ?_
    rintro e w' ⟨rfl, hb, hr⟩
    exact ⟨_, _, rfl, fun _ => rfl, hb, fun _ => hr⟩
end Go.Proofs.Qxb6000359a
