import Derived.Test.Qxb6601288aInc
namespace Go.Proofs.Qxb6601288a
open Go.RowKit Go.Deep

theorem flat_congr {rows rows' : Nat → List ByteArray} : ∀ (k : Nat), (∀ i, i < k → rows i = rows' i) → flat rows k = flat rows' k
  | 0, _ => rfl
  | k + 1, h => by
    simp only [flat]
    rw [flat_congr k (fun i hi => h i (by omega)), h k (by omega)]

theorem flat_merge (a : Nat) (rows : Nat → List ByteArray) : ∀ d, flat (mergeRows a rows) (a + 1 + d) = flat rows (a + 2 + d)
  | 0 => by
    show flat (mergeRows a rows) a ++ mergeRows a rows a = (flat rows a ++ rows a) ++ rows (a + 1)
    rw [flat_congr (rows' := rows) a (fun i hi => by simp only [mergeRows, if_pos hi])]
    simp [mergeRows]
  | d + 1 => by
    show flat (mergeRows a rows) (a + 1 + d) ++ mergeRows a rows (a + 1 + d) = flat rows (a + 2 + d) ++ rows (a + 2 + d)
    rw [flat_merge a rows d]
    simp only [mergeRows, if_neg (show ¬ a + 1 + d < a by omega), if_neg (show a + 1 + d ≠ a by omega)]
    rw [show a + 1 + d + 1 = a + 2 + d by omega]

theorem flat_split (r : Nat) (rows : Nat → List ByteArray) : ∀ d, flat (splitRows r rows) (r + 2 + d) = flat rows (r + 1 + d)
  | 0 => by
    show (flat (splitRows r rows) r ++ splitRows r rows r) ++ splitRows r rows (r + 1) = flat rows r ++ rows r
    rw [flat_congr (rows' := rows) r (fun i hi => by simp only [splitRows, if_pos hi])]
    simp only [splitRows, if_neg (show ¬ r < r by omega), if_true, if_neg (show ¬ r + 1 < r by omega), if_neg (show r + 1 ≠ r by omega), List.append_assoc, List.take_append_drop]
  | d + 1 => by
    show flat (splitRows r rows) (r + 2 + d) ++ splitRows r rows (r + 2 + d) = flat rows (r + 1 + d) ++ rows (r + 1 + d)
    rw [flat_split r rows d]
    simp only [splitRows, if_neg (show ¬ r + 2 + d < r by omega), if_neg (show r + 2 + d ≠ r by omega), if_neg (show r + 2 + d ≠ r + 1 by omega)]
    rw [show r + 2 + d - 1 = r + 1 + d by omega]

theorem aOf_lt {n r : Nat} (hn : 2 ≤ n) (hr : r < n) : aOf n r + 1 < n := by unfold aOf; split <;> omega

/-- the names and their order stay -/
theorem flat_out {n r : Nat} {rows : Nat → List ByteArray} (hr : r < n) : flat (outR n r rows) (outN n r rows) = flat rows n := by
  unfold outR outN
  by_cases h1 : n = 1
  · subst h1
    rw [if_pos rfl, if_pos rfl]
    by_cases h2 : (rows 0).length = 0
    · rw [if_pos h2]
      have : rows 0 = [] := List.eq_nil_of_length_eq_zero h2
      simp [flat, this]
    · rw [if_neg h2]
  · rw [if_neg h1, if_neg h1]
    have ha := aOf_lt (n := n) (r := r) (by omega) hr
    generalize aOf n r = a at ha
    unfold joinLen joinRows
    by_cases h2 : (rows a).length + (rows (a + 1)).length ≤ 512
    · rw [if_pos h2, if_pos h2]
      have := flat_merge a rows (n - (a + 2))
      rw [show a + 1 + (n - (a + 2)) = n - 1 by omega, show a + 2 + (n - (a + 2)) = n by omega] at this
      exact this
    · rw [if_neg h2, if_neg h2]
      have h3 := flat_split a (mergeRows a rows) (n - (a + 2))
      have h4 := flat_merge a rows (n - (a + 2))
      rw [show a + 2 + (n - (a + 2)) = n by omega] at h3 h4
      exact h3.trans h4

theorem outN_le {n r : Nat} {rows : Nat → List ByteArray} (hr : r < n) : outN n r rows ≤ n ∧ n - 1 ≤ outN n r rows := by
  unfold outN
  by_cases h1 : n = 1
  · rw [if_pos h1]
    split <;> omega
  · rw [if_neg h1]
    unfold joinLen
    split <;> omega

/-- a valid index stays one -/
theorem out_runs {n r : Nat} {rows : Nat → List ByteArray} (hr : r < n) (hP : Prem n r rows) : ∀ i, i < outN n r rows → (outR n r rows i).length ≠ 0 ∧ (outR n r rows i).length ≤ 512 := by
  obtain ⟨h1, h2, -⟩ := hP
  intro i hi
  unfold outN at hi
  unfold outR
  by_cases hn : n = 1
  · subst hn
    rw [if_pos rfl] at hi ⊢
    by_cases h3 : (rows 0).length = 0
    · rw [if_pos h3] at hi; omega
    · rw [if_neg h3] at hi
      obtain rfl : i = 0 := by omega
      exact ⟨h3, (h1 0 (by omega)).1⟩
  · rw [if_neg hn] at hi ⊢
    have ha := aOf_lt (n := n) (r := r) (by omega) hr
    have hra : r = aOf n r ∨ r = aOf n r + 1 := by unfold aOf; split <;> omega
    generalize aOf n r = a at *
    have ga := h1 a (by omega)
    have gb := h1 (a + 1) (by omega)
    have hs : 0 < (rows a).length + (rows (a + 1)).length ∧ (rows a).length + (rows (a + 1)).length ≤ 767 := by
      rcases hra with e | e
      · have := gb.2 (by omega)
        rw [e] at h2
        omega
      · have := ga.2 (by omega)
        rw [e] at h2
        omega
    have hne : ∀ k, k < n → k ≠ a → k ≠ a + 1 → (rows k).length ≠ 0 ∧ (rows k).length ≤ 512 := fun k hk e1 e2 => ⟨(h1 k hk).2 (by omega), (h1 k hk).1⟩
    unfold joinLen at hi
    unfold joinRows
    by_cases h5 : (rows a).length + (rows (a + 1)).length ≤ 512
    · rw [if_pos h5] at hi ⊢
      unfold mergeRows
      by_cases c1 : i < a
      · rw [if_pos c1]; exact hne i (by omega) (by omega) (by omega)
      · by_cases c2 : i = a
        · rw [if_neg c1, if_pos c2, List.length_append]; omega
        · rw [if_neg c1, if_neg c2]; exact hne (i + 1) (by omega) (by omega) (by omega)
    · rw [if_neg h5] at hi ⊢
      unfold splitRows
      have em : mergeRows a rows a = rows a ++ rows (a + 1) := by simp [mergeRows]
      by_cases c1 : i < a
      · rw [if_pos c1]
        simp only [mergeRows, if_pos c1]
        exact hne i (by omega) (by omega) (by omega)
      · by_cases c2 : i = a
        · rw [if_neg c1, if_pos c2, em, List.length_take, List.length_append]; omega
        · by_cases c3 : i = a + 1
          · rw [if_neg c1, if_neg c2, if_pos c3, em, List.length_drop, List.length_append]; omega
          · rw [if_neg c1, if_neg c2, if_neg c3]
            simp only [mergeRows, if_neg (show ¬ i - 1 < a by omega), if_neg (show i - 1 ≠ a by omega)]
            exact hne (i - 1 + 1) (by omega) (by omega) (by omega)
end Go.Proofs.Qxb6601288a
