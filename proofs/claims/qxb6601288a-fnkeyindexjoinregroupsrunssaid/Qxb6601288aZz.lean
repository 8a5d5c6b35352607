import Derived.Test.Qxb6601288aJoin
namespace Go.Proofs.Qxb6601288a
open Go.RowKit Go.Deep

def aOf (n r : Nat) : Nat := if r = n - 1 then n - 2 else r
def outN (n r : Nat) (rows : Nat → List ByteArray) : Nat := if n = 1 then (if (rows 0).length = 0 then 0 else 1) else joinLen n (aOf n r) rows
def outR (n r : Nat) (rows : Nat → List ByteArray) : Nat → List ByteArray := if n = 1 then rows else joinRows (aOf n r) rows

/-- what the join leaves, to be read -/
def JOut (X G n r : Nat) (A : Nat → Option Addr) (rows : Nat → List ByteArray) (w w' : World) : Prop :=
  ∃ ad' cap' v, w'.cell? ⟨X, 0, none⟩ = some (.slice ad' (outN n r rows) cap') ∧ Runs w' ad' cap' (outN n r rows) (LL (outR n r rows)) (SS (outR n r rows)) v ∧
    Kept (fun k => k = X ∨ k = G ∨ ∃ i, i < n ∧ blkOf (A i) = some k) w w' ∧ (n = 1 → (rows 0).length = 0 → ad' = none)

theorem JOut.of_post {B X G n r : Nat} {A : Nat → Option Addr} {rows : Nat → List ByteArray} {w w' : World} (hn : 2 ≤ n) (h : JPost B X G n (aOf n r) A rows w w') : JOut X G n r A rows w w' := by
  obtain ⟨A', C', h1, h2, h3⟩ := h
  obtain ⟨v, hv⟩ := h2.runs
  unfold JOut outN outR
  rw [if_neg (show n ≠ 1 by omega), if_neg (show n ≠ 1 by omega)]
  exact ⟨_, _, v, cell_of_block h1 rfl, hv, h3, fun e => by omega⟩
theorem JOut.one {B X G r : Nat} {A : Nat → Option Addr} {C : Nat → Nat} {rows : Nat → List ByteArray} {w : World} (h1 : w.cell? ⟨X, 0, none⟩ = some (.slice (some ⟨G, 0, none⟩) 1 1)) (hO : Own w B G 1 1 A C rows) (h : (rows 0).length ≠ 0) : JOut X G 1 r A rows w w := by
  obtain ⟨v, hv⟩ := hO.runs
  unfold JOut outN outR
  rw [if_pos rfl, if_pos rfl, if_neg h]
  exact ⟨_, _, v, h1, hv, ⟨rfl, rfl, rfl, Nat.le_refl _, fun _ _ _ => rfl⟩, fun _ e => absurd e h⟩
theorem JOut.none {X G r : Nat} {A : Nat → Option Addr} {rows : Nat → List ByteArray} {w : World} {v0 : Value} (h1 : w.cell? ⟨X, 0, none⟩ = some v0) (h : (rows 0).length = 0) : JOut X G 1 r A rows w (w.setCell ⟨X, 0, none⟩ (.slice none 0 0)) := by
  unfold JOut outN outR
  rw [if_pos rfl, if_pos rfl, if_pos h]
  refine ⟨_, _, ⟨0, 0, fun _ => Option.none, fun _ => 0, fun _ => 0, fun _ => 0⟩, by simp [go_sem, h1], ⟨fun _ => ⟨rfl, rfl⟩, fun h0 => by omega, fun i hi => by omega, fun i hi => by omega, fun i hi => by omega, fun i hi => by omega⟩, ?_, fun _ _ => rfl⟩
  exact (Kept.setCell (T := fun k => k = X ∨ k = G ∨ ∃ i, i < 1 ∧ blkOf (A i) = some k) ⟨rfl, rfl, rfl, Nat.le_refl _, fun _ _ _ => rfl⟩ (p := ⟨X, 0, Option.none⟩) (.inl rfl) _)

set_option maxHeartbeats 1000000 in
theorem join_one (B X G r : Nat) (A : Nat → Option Addr) (C : Nat → Nat) (rows : Nat → List ByteArray) (w : World)
    (hX : w.heap[X]? = some (.cells #[.slice (some ⟨G, 0, none⟩) 1 1] 58 (0, 0))) (hO : Own w B G 1 1 A C rows) :
    Calls Try.prog 41 #[.pointer (some ⟨X, 0, none⟩), .int .i64 (r : Int)] w fun e w' => e = .returned (.tuple #[]) ∧ JOut X G 1 r A rows w w' := by
  have c0 : w.cell? ⟨X, 0, none⟩ = some (.slice (some ⟨G, 0, none⟩) 1 1) := cell_of_block hX rfl
  have g0 : w.frozen? ⟨X, 0, none⟩ = false := free_of_block hX
  have c1 := hO.row.cell (i := 0) (by omega) (Nat.le_refl _)
  have HO : Hid (Own w B G 1 1 A C rows) := hO
  clear hO
  generalize hla : (rows 0).length = la at c1
  have Hla : Hid ((rows 0).length = la) := hla
  clear hla
  by_cases h0 : la = 0
  · subst h0
    go_enter Try.func41, Try.ntmps41
    go_wp2_with fail
    first | go_end0 | refine bodyPost_ret (results_none rfl _ _ _) rfl ?_
    exact ⟨rfl, JOut.none c0 Hla⟩
  · have h1 : ¬ (la : Int) = 0 := by omega
    go_enter Try.func41, Try.ntmps41
    go_wp2_with fail
    first | go_end0 | refine bodyPost_ret (results_none rfl _ _ _) rfl ?_
    exact ⟨rfl, JOut.one c0 HO (by rw [show (rows 0).length = la from Hla]; exact h0)⟩

set_option maxHeartbeats 1000000 in
theorem zzJoin (B X G n r : Nat) (A : Nat → Option Addr) (C : Nat → Nat) (rows : Nat → List ByteArray) (w : World)
    (hX : w.heap[X]? = some (.cells #[.slice (some ⟨G, 0, none⟩) n n] 58 (0, 0))) (hO : Own w B G n n A C rows) (hXG : X ≠ G) (hXr : ∀ i, i < n → blkOf (A i) ≠ some X)
    (hr : r < n) (hnm : n ≤ 1000000) (hl : ∀ a, a + 1 < n → (rows a).length + (rows (a + 1)).length ≤ 1000000) (hBX : B ≤ w.heap.size) :
    Calls Try.prog 31 #[.pointer (some ⟨X, 0, none⟩), .int .i64 (r : Int)] w fun e w' => e = .returned (.tuple #[]) ∧ JOut X G n r A rows w w' := by
  have ct : Calls Try.prog 41 #[.pointer (some ⟨X, 0, none⟩), .int .i64 (r : Int)] w fun e w' => e = .returned (.tuple #[]) ∧ JOut X G n r A rows w w' := by
    by_cases hn : n = 1
    · subst hn
      exact join_one B X G r A C rows w hX hO
    · have ha2 : aOf n r + 1 < n := by unfold aOf; split <;> omega
      refine (join_many B X G n r (aOf n r) A C rows w hX hO hXG hXr (by omega) hr rfl hnm (hl _ ha2) hBX).mono ?_
      rintro e w' ⟨h1, h2⟩
      exact ⟨h1, JOut.of_post (by omega) h2⟩
  go_enter Try.func31, Try.ntmps31
  go_wp2_with fail
  refine ct.mono ?_
  rintro _ w' ⟨rfl, hJ⟩
  go_wp2_with fail
  first | go_end0 | refine bodyPost_ret (results_none rfl _ _ _) rfl ?_
  exact ⟨rfl, hJ⟩

theorem zzNew (ad : Option Addr) (n cap : Nat) (w : World) : Calls Try.prog 30 #[.slice ad n cap] w fun e w' => e = .returned (.pointer (some ⟨w.heap.size, 0, none⟩)) ∧ w' = w.alloc (.cells #[.slice ad n cap] 58) := by
  go_enter Try.func30, Try.ntmps30
  go_wp2
  go_ret
  exact ⟨rfl, rfl⟩
theorem zzRuns (X : Nat) (v : Value) (w : World) {ad : Option Addr} {n cap : Nat} (hv : v = .slice ad n cap) (h : w.cell? ⟨X, 0, none⟩ = some v) : Calls Try.prog 32 #[.pointer (some ⟨X, 0, none⟩)] w fun e w' => e = .returned v ∧ w' = w := by
  subst hv
  go_enter Try.func32, Try.ntmps32
  go_wp2
  go_ret
  exact ⟨rfl, rfl⟩
end Go.Proofs.Qxb6601288a
