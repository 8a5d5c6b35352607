import Derived.Test.Qxb6000359aDueAll
namespace Go.Proofs.Qxb6000359a
open Go.RowKit

/-- The gap that holds: at least one tick. -/
def G (every : Int) (bo : Bool) (t : Int) : Int := if gapv every bo t < 1 then 1 else gapv every bo t
def atLeast1 (x : Int) : Int := if x < 1 then 1 else x

theorem boff_eq {every : Int} (e0 : every ≤ 288230376151711743) (e1 : -288230376151711743 ≤ every) (t : Int) : boff every t = every * 2 ^ (min (t.toNat - 1) 5) := by
  unfold boff wrap64
  have h : min (t.toNat - 1) 5 ≤ 5 := Nat.min_le_right _ _
  generalize min (t.toNat - 1) 5 = n at h ⊢
  match n, h with
  | 0, _ => omega
  | 1, _ => omega
  | 2, _ => omega
  | 3, _ => omega
  | 4, _ => omega
  | 5, _ => omega
  | n + 6, h => omega

theorem G_ge (every : Int) (bo : Bool) (t : Int) : 1 ≤ G every bo t ∧ gapv every bo t ≤ G every bo t ∧ (1 < G every bo t → G every bo t = gapv every bo t) := by
  unfold G; split <;> omega

theorem G_range {every : Int} (e0 : every ≤ 288230376151711743) (e1 : -288230376151711743 ≤ every) (bo : Bool) (t : Int) :
    atLeast1 every ≤ G every bo t ∧ G every bo t ≤ 32 * atLeast1 every ∧ (bo = false → G every bo t = atLeast1 every) := by
  unfold G atLeast1 gapv
  cases bo
  · simp; omega
  · simp only [if_true, boff_eq e0 e1]
    have h : min (t.toNat - 1) 5 ≤ 5 := Nat.min_le_right _ _
    generalize min (t.toNat - 1) 5 = n at h ⊢
    match n, h with
    | 0, _ => simp; omega
    | 1, _ => simp; omega
    | 2, _ => simp; omega
    | 3, _ => simp; omega
    | 4, _ => simp; omega
    | 5, _ => simp; omega
    | n + 6, h => omega

theorem G_step {every : Int} (e0 : every ≤ 288230376151711743) (e1 : -288230376151711743 ≤ every) (bo : Bool) (t : Int) (ht : 2 ≤ t) : G every bo (t - 1) ≤ G every bo t := by
  unfold G gapv
  cases bo
  · simp
  · simp only [if_true, boff_eq e0 e1]
    have h : min (t.toNat - 1) 5 ≤ 5 := Nat.min_le_right _ _
    have h' : min ((t - 1).toNat - 1) 5 + 1 = min (t.toNat - 1) 5 ∨ min ((t - 1).toNat - 1) 5 = min (t.toNat - 1) 5 := by omega
    generalize min (t.toNat - 1) 5 = n at h h' ⊢
    generalize min ((t - 1).toNat - 1) 5 = m at h' ⊢
    rcases h' with h' | h'
    · subst h'
      match m, h with
      | 0, _ => simp; split <;> split <;> omega
      | 1, _ => simp; split <;> split <;> omega
      | 2, _ => simp; split <;> split <;> omega
      | 3, _ => simp; split <;> split <;> omega
      | 4, _ => simp; split <;> split <;> omega
      | m + 5, h => omega
    · subst h'; omega

theorem due0 {k first every : Int} {bo : Bool} (hk : 1 ≤ k) (hs : k ≤ atLeast1 first) : isDue k 0 0 first every bo = decide (k = atLeast1 first) := by
  unfold isDue atLeast1 at *
  by_cases h : k < first
  · simp [h]; split <;> omega
  · simp [h]; split <;> split at hs <;> omega

theorem due1 {k t l first every : Int} {bo : Bool} (ht : 1 ≤ t) (hl : atLeast1 first ≤ l) (hk : l < k) (hG : k - l ≤ G every bo t) : isDue k t l first every bo = decide (k - l = G every bo t) := by
  have g := G_ge every bo t
  have h1 : ¬ k < first := by unfold atLeast1 at hl; split at hl <;> omega
  have h2 : 0 < t := by omega
  unfold isDue
  rw [Bool.eq_iff_iff]
  simp [h1, h2]
  omega

/-- What holds at the loop's head: tick k comes next; t tries so far, the last at tick l; pg: the gap before the last. -/
def WI (every first : Int) (bo : Bool) (n k t l pg : Int) : Prop :=
  1 ≤ k ∧ k ≤ n + 1 ∧ 0 ≤ t ∧ t ≤ k - 1 ∧ 0 ≤ l ∧ l ≤ k - 1 ∧ (t = 0 → l = 0 ∧ k ≤ atLeast1 first) ∧ (1 ≤ t → atLeast1 first ≤ l ∧ k - l ≤ G every bo t) ∧ (2 ≤ t → pg = G every bo (t - 1))

theorem WI.start {every first n : Int} {bo : Bool} (h : 0 ≤ n) : WI every first bo n 1 0 0 0 := by
  refine ⟨by omega, by omega, by omega, by omega, by omega, by omega, fun _ => ⟨rfl, ?_⟩, by omega, by omega⟩
  unfold atLeast1; split <;> omega

theorem WI.first {every first n k pg : Int} {bo : Bool} (h : WI every first bo n k 0 0 pg) (hn : k ≤ n) (hd : isDue k 0 0 first every bo = true) : k = atLeast1 first ∧ WI every first bo n (k + 1) 1 k pg := by
  obtain ⟨h1, h2, h3, h4, h5, h6, h7, h8, h9⟩ := h
  have := h7 rfl
  rw [due0 h1 this.2] at hd
  have hk : k = atLeast1 first := by simpa using hd
  refine ⟨hk, by omega, by omega, by omega, by omega, by omega, by omega, by omega, fun _ => ⟨by omega, ?_⟩, by omega⟩
  have := (G_ge every bo 1).1
  omega

theorem WI.notFirst {every first n k pg : Int} {bo : Bool} (h : WI every first bo n k 0 0 pg) (hn : k ≤ n) (hd : isDue k 0 0 first every bo = false) : k < atLeast1 first ∧ WI every first bo n (k + 1) 0 0 pg := by
  obtain ⟨h1, h2, h3, h4, h5, h6, h7, h8, h9⟩ := h
  have := h7 rfl
  rw [due0 h1 this.2] at hd
  have hk : ¬ k = atLeast1 first := by simpa using hd
  exact ⟨by omega, by omega, by omega, by omega, by omega, by omega, by omega, by omega, by omega, by omega⟩

theorem WI.later {every first n k t l pg : Int} {bo : Bool} (e0 : every ≤ 288230376151711743) (e1 : -288230376151711743 ≤ every) (h : WI every first bo n k t l pg) (hn : k ≤ n) (ht : 1 ≤ t) (hd : isDue k t l first every bo = true) :
    atLeast1 every ≤ k - l ∧ k - l ≤ 32 * atLeast1 every ∧ (bo = false → k - l = atLeast1 every) ∧ (2 ≤ t → pg ≤ k - l) ∧ WI every first bo n (k + 1) (t + 1) k (k - l) := by
  obtain ⟨h1, h2, h3, h4, h5, h6, h7, h8, h9⟩ := h
  have hh := h8 ht
  rw [due1 ht hh.1 (by omega) hh.2] at hd
  have hk : k - l = G every bo t := by simpa using hd
  have gr := G_range e0 e1 bo t
  rw [hk]
  refine ⟨gr.1, gr.2.1, gr.2.2, fun h2t => ?_, by omega, by omega, by omega, by omega, by omega, by omega, by omega, fun _ => ⟨by omega, ?_⟩, fun _ => ?_⟩
  · rw [h9 h2t]; exact G_step e0 e1 bo t h2t
  · have := (G_ge every bo (t + 1)).1; omega
  · rw [Int.add_sub_cancel]

theorem WI.notLater {every first n k t l pg : Int} {bo : Bool} (e0 : every ≤ 288230376151711743) (e1 : -288230376151711743 ≤ every) (h : WI every first bo n k t l pg) (hn : k ≤ n) (ht : 1 ≤ t) (hd : isDue k t l first every bo = false) :
    k - l < 32 * atLeast1 every ∧ WI every first bo n (k + 1) t l pg := by
  obtain ⟨h1, h2, h3, h4, h5, h6, h7, h8, h9⟩ := h
  have hh := h8 ht
  rw [due1 ht hh.1 (by omega) hh.2] at hd
  have hk : ¬ k - l = G every bo t := by simpa using hd
  have gr := G_range e0 e1 bo t
  exact ⟨by omega, by omega, by omega, by omega, by omega, by omega, by omega, by omega, fun _ => ⟨hh.1, by omega⟩, h9⟩
end Go.Proofs.Qxb6000359a
