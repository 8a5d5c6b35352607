import Derived.Test.Qxb6000359aDue
namespace Go.Proofs.Qxb6000359a
open Go.RowKit
set_option maxHeartbeats 1000000 in
theorem due_old_try (b : Nat) (tk tr td p first every : Int) (bo : Bool) (w : World)
    (hb : w.heap[b]? = some (.cells (waitC p tk tr td) 38 (0, 0))) (k0 : 0 ≤ tk) (k1 : tk ≤ 1000000) (hf : first ≤ tk + 1) (t0 : 1 ≤ tr) (t1 : tr ≤ 1000000) (d0 : 0 ≤ td) (d1 : td ≤ tk) (hg : gapv every bo tr ≤ tk + 1 - td) :
    Calls Try.prog 21 #[.pointer (some ⟨b, 0, none⟩), .bool true, .int .u64 p, .agg #[.int .i64 first, .int .i64 every, .bool bo]] w fun e w' =>
      e = .returned (.bool true) ∧ Turn b 38 w (waitC p (tk + 1) (tr + 1) (tk + 1)) w' := by
  have hlt := lt_of_block hb
  have HB := Turn.start hb
  have c0 : w.cell? ⟨b, 0, none⟩ = some (.int .u64 p) := cell_of_block (o := 0) hb rfl
  have c1 : w.cell? ⟨b, 1, none⟩ = some (.int .i64 tk) := cell_of_block (o := 1) hb rfl
  have c2 : w.cell? ⟨b, 2, none⟩ = some (.int .i64 tr) := cell_of_block (o := 2) hb rfl
  have c3 : w.cell? ⟨b, 3, none⟩ = some (.int .i64 td) := cell_of_block (o := 3) hb rfl
  have f0 := free_of_block (o := 0) hb
  have f1 := free_of_block (o := 1) hb
  have f2 := free_of_block (o := 2) hb
  have f3 := free_of_block (o := 3) hb
  clear hb
  have hfd : decide (tk + 1 < first) = false := by simp; omega
  have htd : decide (0 < tr) = true := by simp; omega
  have hwr : IntKind.i64.wrap (tk + 1 - td) = tk + 1 - td := by rw [IntKind.wrap_i64]; omega
  go_enter Try.func21, Try.ntmps21
  go_wp2
  go_region_held3 (fun w' => w'.cell? ⟨w.heap.size, 0, none⟩ = some (.int .i64 first) ∧ w'.cell? ⟨w.heap.size, 1, none⟩ = some (.int .i64 every) ∧ w'.cell? ⟨w.heap.size, 2, none⟩ = some (.bool bo) ∧ w'.cell? ⟨b, 1, none⟩ = some (.int .i64 (tk + 1)) ∧ w'.cell? ⟨b, 2, none⟩ = some (.int .i64 tr) ∧ w'.cell? ⟨b, 3, none⟩ = some (.int .i64 td)) (simp [go_sem, World.cell?_alloc_past, hlt, c1, c2, c3])
    (first | (go_at_call 34; refine (gap_any _ _ _ _ _ (by omega) (by omega)).mono ?_; rintro e w' ⟨rfl, c, rfl⟩))
  go_wp2
  go_region
  go_wp2
  go_ret
  exact ⟨rfl, (((((HB.set 1 _).set 2 _).set 3 _).alloc _).alloc _).drew.drew |>.cast (by simp [waitC])⟩

/-- The ticks of the wait, this one counted in. -/
def wtk (a tk p : Int) : Int := if a = p then tk + 1 else 1
def wtr (a tr p : Int) : Int := if a = p then tr else 0
def wtd (a td p : Int) : Int := if a = p then td else 0
/-- Is it due at tick k of the wait, after t tries, the last at tick l? -/
def isDue (k t l first every : Int) (bo : Bool) : Bool := !(decide (k < first) || (decide (0 < t) && decide (k - l < gapv every bo t)))

theorem due_yes (b : Nat) (a tk tr td p first every : Int) (bo : Bool) (w : World)
    (hb : w.heap[b]? = some (.cells (waitC a tk tr td) 38 (0, 0))) (k0 : 0 ≤ tk) (k1 : tk ≤ 1000000) (t0 : 0 ≤ tr) (t1 : tr ≤ 1000000) (d0 : 0 ≤ td) (d1 : td ≤ tk)
    (hd : isDue (wtk a tk p) (wtr a tr p) (wtd a td p) first every bo = true) :
    Calls Try.prog 21 #[.pointer (some ⟨b, 0, none⟩), .bool true, .int .u64 p, .agg #[.int .i64 first, .int .i64 every, .bool bo]] w fun e w' =>
      e = .returned (.bool true) ∧ Turn b 38 w (waitC p (wtk a tk p) (wtr a tr p + 1) (wtk a tk p)) w' := by
  by_cases e : a = p
  · subst e
    simp only [wtk, wtr, wtd, if_true] at hd ⊢
    simp only [isDue, Bool.not_eq_true', Bool.or_eq_false_iff, decide_eq_false_iff_not, Bool.and_eq_false_iff] at hd
    by_cases e0 : tr = 0
    · refine (due_old_first b tk tr td a first every bo w hb k0 k1 (by omega) e0).mono ?_
      rintro e w' ⟨rfl, ht⟩
      exact ⟨rfl, ht.cast (by rw [e0]; rfl)⟩
    · exact due_old_try b tk tr td a first every bo w hb k0 k1 (by omega) (by omega) t1 d0 d1 (by rcases hd.2 with h | h <;> omega)
  · simp only [wtk, wtr, wtd, if_neg e] at hd ⊢
    simp [isDue] at hd
    exact due_new_yes b a tk tr td p first every bo w hb (by simpa using e) (by omega)

theorem due_no (b : Nat) (a tk tr td p first every : Int) (bo : Bool) (w : World)
    (hb : w.heap[b]? = some (.cells (waitC a tk tr td) 38 (0, 0))) (k0 : 0 ≤ tk) (k1 : tk ≤ 1000000) (t1 : tr ≤ 1000000) (d0 : 0 ≤ td) (d1 : td ≤ tk)
    (hd : isDue (wtk a tk p) (wtr a tr p) (wtd a td p) first every bo = false) :
    Calls Try.prog 21 #[.pointer (some ⟨b, 0, none⟩), .bool true, .int .u64 p, .agg #[.int .i64 first, .int .i64 every, .bool bo]] w fun e w' =>
      e = .returned (.bool false) ∧ Turn b 38 w (waitC p (wtk a tk p) (wtr a tr p) (wtd a td p)) w' := by
  by_cases e : a = p
  · subst e
    simp only [wtk, wtr, wtd, if_true] at hd ⊢
    simp only [isDue, Bool.not_eq_false', Bool.or_eq_true, decide_eq_true_eq, Bool.and_eq_true] at hd
    by_cases e0 : tk + 1 < first
    · exact due_old_early b tk tr td a first every bo w hb k0 k1 e0
    · exact due_old_wait b tk tr td a first every bo w hb k0 k1 (by omega) (by rcases hd with h | h <;> omega) t1 d0 d1 (by rcases hd with h | h <;> omega)
  · simp only [wtk, wtr, wtd, if_neg e] at hd ⊢
    simp [isDue] at hd
    exact due_new_no b a tk tr td p first every bo w hb (by simpa using e) (by omega)
end Go.Proofs.Qxb6000359a
