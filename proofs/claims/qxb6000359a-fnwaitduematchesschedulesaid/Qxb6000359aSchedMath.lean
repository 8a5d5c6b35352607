import Derived.Test.Qxb6000359aWaitGap
namespace Go.Proofs.Qxb6000359a
open Go.RowKit

theorem atLeast1_ge2 (x : Int) : 1 ≤ atLeast1 x ∧ x ≤ atLeast1 x := by unfold atLeast1; split <;> omega
theorem G_top {every : Int} (e1 : every ≤ 9223372036854775807) (bo : Bool) (t : Int) : G every bo t ≤ 9223372036854775807 := by
  unfold G gapv boff wrap64
  cases bo
  · simp; omega
  · simp only [if_true]
    generalize every * 2 ^ (min (t.toNat - 1) 5) = y
    split <;> omega

theorem wrap_hit {k l g : Int} (h1 : 0 ≤ l) (h2 : l < k) (h3 : k ≤ 1000000) (h4 : 1 ≤ g) (h5 : g ≤ 9223372036854775807) : (k = wrap64 (l + g)) ↔ k - l = g := by
  unfold wrap64; omega

/-- Behind n ticks: the model's curAt, k, j, nextDue; the Wait holds (cA, kk, jj, l). -/
def SI (first every : Int) (bo : Bool) (n kk jj l nd : Int) : Prop :=
  0 ≤ kk ∧ kk ≤ n ∧ 0 ≤ jj ∧ jj ≤ kk ∧ 0 ≤ l ∧ l ≤ kk ∧ (jj = 0 → l = 0) ∧ (1 ≤ kk → jj = 0 → nd = atLeast1 first ∧ kk < nd) ∧ (1 ≤ jj → atLeast1 first ≤ l ∧ nd = wrap64 (l + G every bo jj) ∧ kk - l < G every bo jj)

theorem SI.start {first every n nd : Int} {bo : Bool} (h : 0 ≤ n) : SI first every bo n 0 0 0 nd := by
  exact ⟨by omega, by omega, by omega, by omega, by omega, by omega, by omega, by omega, by omega⟩

theorem wt_reset {cA p kk jj l : Int} (h : p ≠ cA ∨ (kk = 0 ∧ jj = 0 ∧ l = 0)) : wtk cA kk p = 1 ∧ wtr cA jj p = 0 ∧ wtd cA l p = 0 := by
  unfold wtk wtr wtd
  by_cases e : cA = p
  · simp only [if_pos e]
    rcases h with h | h
    · exact absurd e.symm h
    · omega
  · simp [e]

theorem wt_cont {p kk jj l : Int} : wtk p kk p = kk + 1 ∧ wtr p jj p = jj ∧ wtd p l p = l := by simp [wtk, wtr, wtd]

theorem SI.resetDue {first every n : Int} {bo : Bool} (hn : 0 ≤ n) (hd : isDue 1 0 0 first every bo = true) : atLeast1 first = 1 ∧ SI first every bo (n + 1) 1 1 1 (wrap64 (1 + G every bo 1)) := by
  have a := atLeast1_ge2 first
  rw [due0 (by omega) (by omega)] at hd
  have hk : 1 = atLeast1 first := by simpa using hd
  have g := G_ge every bo 1
  exact ⟨hk.symm, by omega, by omega, by omega, by omega, by omega, by omega, by omega, by omega, fun _ => ⟨by omega, rfl, by omega⟩⟩

theorem SI.resetNot {first every n : Int} {bo : Bool} (hn : 0 ≤ n) (hd : isDue 1 0 0 first every bo = false) : 1 < atLeast1 first ∧ SI first every bo (n + 1) 1 0 0 (atLeast1 first) := by
  have a := atLeast1_ge2 first
  rw [due0 (by omega) (by omega)] at hd
  have hk : ¬ 1 = atLeast1 first := by simpa using hd
  exact ⟨by omega, by omega, by omega, by omega, by omega, by omega, by omega, by omega, fun _ _ => ⟨rfl, by omega⟩, by omega⟩

theorem SI.contDue {first every n kk jj l nd : Int} {bo : Bool} (h : SI first every bo n kk jj l nd) (hk : 1 ≤ kk) (hn : n ≤ 65536) (e1 : every ≤ 9223372036854775807) (hd : isDue (kk + 1) jj l first every bo = true) :
    kk + 1 = nd ∧ SI first every bo (n + 1) (kk + 1) (jj + 1) (kk + 1) (wrap64 (kk + 1 + G every bo (jj + 1))) := by
  obtain ⟨h1, h2, h3, h4, h5, h6, h7, h8, h9⟩ := h
  have g := G_ge every bo (jj + 1)
  by_cases hj : jj = 0
  · subst hj
    have := h7 rfl; subst this
    obtain ⟨q1, q2⟩ := h8 hk rfl
    rw [due0 (by omega) (by omega)] at hd
    have hk : kk + 1 = atLeast1 first := by simpa using hd
    exact ⟨by omega, by omega, by omega, by omega, by omega, by omega, by omega, by omega, by omega, fun _ => ⟨by omega, rfl, by omega⟩⟩
  · obtain ⟨q1, q2, q3⟩ := h9 (by omega)
    rw [due1 (by omega) q1 (by omega) (by omega)] at hd
    have hk : kk + 1 - l = G every bo jj := by simpa using hd
    have gj := G_ge every bo jj
    have gt := G_top e1 bo jj
    have := (wrap_hit (k := kk + 1) (l := l) (g := G every bo jj) (by omega) (by omega) (by omega) (by omega) gt).2 hk
    exact ⟨by omega, by omega, by omega, by omega, by omega, by omega, by omega, by omega, by omega, fun _ => ⟨by omega, rfl, by omega⟩⟩

theorem SI.contNot {first every n kk jj l nd : Int} {bo : Bool} (h : SI first every bo n kk jj l nd) (hk : 1 ≤ kk) (hn : n ≤ 65536) (e1 : every ≤ 9223372036854775807) (hd : isDue (kk + 1) jj l first every bo = false) :
    kk + 1 ≠ nd ∧ SI first every bo (n + 1) (kk + 1) jj l nd := by
  obtain ⟨h1, h2, h3, h4, h5, h6, h7, h8, h9⟩ := h
  by_cases hj : jj = 0
  · subst hj
    have := h7 rfl; subst this
    obtain ⟨q1, q2⟩ := h8 hk rfl
    rw [due0 (by omega) (by omega)] at hd
    have hk : ¬ kk + 1 = atLeast1 first := by simpa using hd
    exact ⟨by omega, by omega, by omega, by omega, by omega, by omega, by omega, by omega, fun _ _ => ⟨by omega, by omega⟩, by omega⟩
  · obtain ⟨q1, q2, q3⟩ := h9 (by omega)
    rw [due1 (by omega) q1 (by omega) (by omega)] at hd
    have hk : ¬ kk + 1 - l = G every bo jj := by simpa using hd
    have gj := G_ge every bo jj
    have gt := G_top e1 bo jj
    have : ¬ kk + 1 = wrap64 (l + G every bo jj) := fun e => hk ((wrap_hit (k := kk + 1) (l := l) (g := G every bo jj) (by omega) (by omega) (by omega) (by omega) gt).1 e)
    exact ⟨by omega, by omega, by omega, by omega, by omega, by omega, by omega, by omega, by omega, fun _ => ⟨q1, q2, by omega⟩⟩
end Go.Proofs.Qxb6000359a
