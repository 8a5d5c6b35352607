import Derived.Test.Qxb6000359aParts
namespace Go.Proofs.Qxb6000359a
open Go.RowKit

def boff (g t : Int) : Int := wrap64 (g * 2 ^ (min (t.toNat - 1) 5))
def gapv (every : Int) (bo : Bool) (t : Int) : Int := if bo then boff every t else every

set_option maxHeartbeats 400000 in
theorem backoff_any (g t : Int) (w : World) (h0 : 1 ≤ t) (h1 : t ≤ 1000000) :
    Calls Try.prog 38 #[.int .i64 g, .int .i64 t] w fun e w' => e = .returned (.int .i64 (boff g t)) ∧ w' = w := by
  by_cases h5 : 5 < t - 1
  · have e1 : Hid (boff g t = wrap64 (g * 32)) := by
      unfold boff; rw [Nat.min_eq_right (by omega)]; rfl
    go_enter Try.func38, Try.ntmps38
    go_wp2
    go_ret
    exact ⟨ret_int e1.out.symm, rfl⟩
  · have e1 : Hid (boff g t = wrap64 (g * 2 ^ (t.toNat - 1))) := by
      unfold boff; rw [Nat.min_eq_left (by omega)]; rfl
    go_enter Try.func38, Try.ntmps38
    go_wp2
    go_ret
    exact ⟨ret_int e1.out.symm, rfl⟩

set_option maxHeartbeats 400000 in
theorem gap_any (first every : Int) (bo : Bool) (t : Int) (w : World) (h0 : 1 ≤ t) (h1 : t ≤ 1000000) :
    Calls Try.prog 34 #[.agg #[.int .i64 first, .int .i64 every, .bool bo], .int .i64 t] w fun e w' => e = .returned (.int .i64 (gapv every bo t)) ∧ ∃ c, w' = w.alloc (.cells c 40) := by
  cases bo
  · go_enter Try.func34, Try.ntmps34
    go_wp2
    go_ret
    exact ⟨by simp [gapv], _, rfl⟩
  · go_enter Try.func34, Try.ntmps34
    go_wp2_with (go_at_call 38; refine (backoff_any _ _ _ (by omega) (by omega)).mono ?_; rintro e w' ⟨rfl, rfl⟩)
    go_ret
    exact ⟨by simp [gapv], _, rfl⟩

/-- the Wait at block b -/
def waitC (a tk tr td : Int) : Array Value := #[.int .u64 a, .int .i64 tk, .int .i64 tr, .int .i64 td]

set_option maxHeartbeats 1000000 in
theorem due_off (b : Nat) (a tk tr td p first every : Int) (bo : Bool) (w : World)
    (hb : w.heap[b]? = some (.cells (waitC a tk tr td) 38 (0, 0))) :
    Calls Try.prog 21 #[.pointer (some ⟨b, 0, none⟩), .bool false, .int .u64 p, .agg #[.int .i64 first, .int .i64 every, .bool bo]] w fun e w' =>
      e = .returned (.bool false) ∧ Turn b 38 w (waitC 0 0 0 0) w' := by
  have hlt := lt_of_block hb
  have HB := Turn.start hb
  have c0 : w.cell? ⟨b, 0, none⟩ = some (.int .u64 a) := cell_of_block (o := 0) hb rfl
  have c1 : w.cell? ⟨b, 1, none⟩ = some (.int .i64 tk) := cell_of_block (o := 1) hb rfl
  have c2 : w.cell? ⟨b, 2, none⟩ = some (.int .i64 tr) := cell_of_block (o := 2) hb rfl
  have c3 : w.cell? ⟨b, 3, none⟩ = some (.int .i64 td) := cell_of_block (o := 3) hb rfl
  have f0 := free_of_block (o := 0) hb
  have f1 := free_of_block (o := 1) hb
  have f2 := free_of_block (o := 2) hb
  have f3 := free_of_block (o := 3) hb
  clear hb
  go_enter Try.func21, Try.ntmps21
  go_wp2
  go_ret
  exact ⟨rfl, (((((HB.set 0 _).set 1 _).set 2 _).set 3 _).alloc _).cast (by simp [waitC])⟩

set_option maxHeartbeats 1000000 in
theorem due_new_no (b : Nat) (a tk tr td p first every : Int) (bo : Bool) (w : World)
    (hb : w.heap[b]? = some (.cells (waitC a tk tr td) 38 (0, 0))) (hne : (a != p) = true) (hf : 1 < first) :
    Calls Try.prog 21 #[.pointer (some ⟨b, 0, none⟩), .bool true, .int .u64 p, .agg #[.int .i64 first, .int .i64 every, .bool bo]] w fun e w' =>
      e = .returned (.bool false) ∧ Turn b 38 w (waitC p 1 0 0) w' := by
  have hlt := lt_of_block hb
  have HB := Turn.start hb
  have c0 : w.cell? ⟨b, 0, none⟩ = some (.int .u64 a) := cell_of_block (o := 0) hb rfl
  have c1 : w.cell? ⟨b, 1, none⟩ = some (.int .i64 tk) := cell_of_block (o := 1) hb rfl
  have c2 : w.cell? ⟨b, 2, none⟩ = some (.int .i64 tr) := cell_of_block (o := 2) hb rfl
  have c3 : w.cell? ⟨b, 3, none⟩ = some (.int .i64 td) := cell_of_block (o := 3) hb rfl
  have f0 := free_of_block (o := 0) hb
  have f1 := free_of_block (o := 1) hb
  have f2 := free_of_block (o := 2) hb
  have f3 := free_of_block (o := 3) hb
  clear hb
  go_enter Try.func21, Try.ntmps21
  go_wp2
  go_quiet (fail)
  go_wp2
  go_ret
  exact ⟨rfl, ((((((HB.set 0 _).set 1 _).set 2 _).set 3 _).alloc _).drewN _).cast (by simp [waitC])⟩

set_option maxHeartbeats 1000000 in
theorem due_new_yes (b : Nat) (a tk tr td p first every : Int) (bo : Bool) (w : World)
    (hb : w.heap[b]? = some (.cells (waitC a tk tr td) 38 (0, 0))) (hne : (a != p) = true) (hf : first ≤ 1) :
    Calls Try.prog 21 #[.pointer (some ⟨b, 0, none⟩), .bool true, .int .u64 p, .agg #[.int .i64 first, .int .i64 every, .bool bo]] w fun e w' =>
      e = .returned (.bool true) ∧ Turn b 38 w (waitC p 1 1 1) w' := by
  have hlt := lt_of_block hb
  have HB := Turn.start hb
  have c0 : w.cell? ⟨b, 0, none⟩ = some (.int .u64 a) := cell_of_block (o := 0) hb rfl
  have c1 : w.cell? ⟨b, 1, none⟩ = some (.int .i64 tk) := cell_of_block (o := 1) hb rfl
  have c2 : w.cell? ⟨b, 2, none⟩ = some (.int .i64 tr) := cell_of_block (o := 2) hb rfl
  have c3 : w.cell? ⟨b, 3, none⟩ = some (.int .i64 td) := cell_of_block (o := 3) hb rfl
  have f0 := free_of_block (o := 0) hb
  have f1 := free_of_block (o := 1) hb
  have f2 := free_of_block (o := 2) hb
  have f3 := free_of_block (o := 3) hb
  have hfd : decide (1 < first) = false := by simp; omega
  clear hb
  go_enter Try.func21, Try.ntmps21
  go_wp2
  go_quiet (fail)
  go_wp2
  go_region
  go_wp2
  go_ret
  exact ⟨rfl, (((((((((HB.set 0 _).set 1 _).set 2 _).set 3 _).alloc _).drewN _).set 2 _).set 3 _)).cast (by simp [waitC])⟩

set_option maxHeartbeats 1000000 in
theorem due_old_early (b : Nat) (tk tr td p first every : Int) (bo : Bool) (w : World)
    (hb : w.heap[b]? = some (.cells (waitC p tk tr td) 38 (0, 0))) (k0 : 0 ≤ tk) (k1 : tk ≤ 1000000) (hf : tk + 1 < first) :
    Calls Try.prog 21 #[.pointer (some ⟨b, 0, none⟩), .bool true, .int .u64 p, .agg #[.int .i64 first, .int .i64 every, .bool bo]] w fun e w' =>
      e = .returned (.bool false) ∧ Turn b 38 w (waitC p (tk + 1) tr td) w' := by
  have hlt := lt_of_block hb
  have HB := Turn.start hb
  have c0 : w.cell? ⟨b, 0, none⟩ = some (.int .u64 p) := cell_of_block (o := 0) hb rfl
  have c1 : w.cell? ⟨b, 1, none⟩ = some (.int .i64 tk) := cell_of_block (o := 1) hb rfl
  have c2 : w.cell? ⟨b, 2, none⟩ = some (.int .i64 tr) := cell_of_block (o := 2) hb rfl
  have c3 : w.cell? ⟨b, 3, none⟩ = some (.int .i64 td) := cell_of_block (o := 3) hb rfl
  have f0 := free_of_block (o := 0) hb
  have f1 := free_of_block (o := 1) hb
  have f2 := free_of_block (o := 2) hb
  have f3 := free_of_block (o := 3) hb
  clear hb
  go_enter Try.func21, Try.ntmps21
  go_wp2
  go_quiet (fail)
  go_wp2
  go_ret
  exact ⟨rfl, ((HB.set 1 _).alloc _).drewN _ |>.cast (by simp [waitC])⟩

set_option maxHeartbeats 1000000 in
theorem due_old_first (b : Nat) (tk tr td p first every : Int) (bo : Bool) (w : World)
    (hb : w.heap[b]? = some (.cells (waitC p tk tr td) 38 (0, 0))) (k0 : 0 ≤ tk) (k1 : tk ≤ 1000000) (hf : first ≤ tk + 1) (ht : tr = 0) :
    Calls Try.prog 21 #[.pointer (some ⟨b, 0, none⟩), .bool true, .int .u64 p, .agg #[.int .i64 first, .int .i64 every, .bool bo]] w fun e w' =>
      e = .returned (.bool true) ∧ Turn b 38 w (waitC p (tk + 1) 1 (tk + 1)) w' := by
  have hlt := lt_of_block hb
  have HB := Turn.start hb
  have c0 : w.cell? ⟨b, 0, none⟩ = some (.int .u64 p) := cell_of_block (o := 0) hb rfl
  have c1 : w.cell? ⟨b, 1, none⟩ = some (.int .i64 tk) := cell_of_block (o := 1) hb rfl
  have c2 : w.cell? ⟨b, 2, none⟩ = some (.int .i64 tr) := cell_of_block (o := 2) hb rfl
  have c3 : w.cell? ⟨b, 3, none⟩ = some (.int .i64 td) := cell_of_block (o := 3) hb rfl
  have f0 := free_of_block (o := 0) hb
  have f1 := free_of_block (o := 1) hb
  have f2 := free_of_block (o := 2) hb
  have f3 := free_of_block (o := 3) hb
  clear hb
  subst ht
  have hfd : decide (tk + 1 < first) = false := by simp; omega
  go_enter Try.func21, Try.ntmps21
  go_wp2
  go_quiet (fail)
  go_wp2
  go_region
  go_wp2
  go_ret
  exact ⟨rfl, ((((HB.set 1 _).alloc _).drewN _).set 2 _).set 3 _ |>.cast (by simp [waitC])⟩

set_option maxHeartbeats 1000000 in
theorem due_old_wait (b : Nat) (tk tr td p first every : Int) (bo : Bool) (w : World)
    (hb : w.heap[b]? = some (.cells (waitC p tk tr td) 38 (0, 0))) (k0 : 0 ≤ tk) (k1 : tk ≤ 1000000) (hf : first ≤ tk + 1) (t0 : 1 ≤ tr) (t1 : tr ≤ 1000000) (d0 : 0 ≤ td) (d1 : td ≤ tk) (hg : tk + 1 - td < gapv every bo tr) :
    Calls Try.prog 21 #[.pointer (some ⟨b, 0, none⟩), .bool true, .int .u64 p, .agg #[.int .i64 first, .int .i64 every, .bool bo]] w fun e w' =>
      e = .returned (.bool false) ∧ Turn b 38 w (waitC p (tk + 1) tr td) w' := by
  have hlt := lt_of_block hb
  have HB := Turn.start hb
  have c0 : w.cell? ⟨b, 0, none⟩ = some (.int .u64 p) := cell_of_block (o := 0) hb rfl
  have c1 : w.cell? ⟨b, 1, none⟩ = some (.int .i64 tk) := cell_of_block (o := 1) hb rfl
  have c2 : w.cell? ⟨b, 2, none⟩ = some (.int .i64 tr) := cell_of_block (o := 2) hb rfl
  have c3 : w.cell? ⟨b, 3, none⟩ = some (.int .i64 td) := cell_of_block (o := 3) hb rfl
  have f0 := free_of_block (o := 0) hb
  have f1 := free_of_block (o := 1) hb
  have f2 := free_of_block (o := 2) hb
  have f3 := free_of_block (o := 3) hb
  clear hb
  have hfd : decide (tk + 1 < first) = false := by simp; omega
  have htd : decide (0 < tr) = true := by simp; omega
  have hwr : IntKind.i64.wrap (tk + 1 - td) = tk + 1 - td := by rw [IntKind.wrap_i64]; omega
  go_enter Try.func21, Try.ntmps21
  go_wp2
  go_region_held3 (fun w' => w'.cell? ⟨w.heap.size, 0, none⟩ = some (.int .i64 first) ∧ w'.cell? ⟨w.heap.size, 1, none⟩ = some (.int .i64 every) ∧ w'.cell? ⟨w.heap.size, 2, none⟩ = some (.bool bo) ∧ w'.cell? ⟨b, 1, none⟩ = some (.int .i64 (tk + 1)) ∧ w'.cell? ⟨b, 2, none⟩ = some (.int .i64 tr) ∧ w'.cell? ⟨b, 3, none⟩ = some (.int .i64 td)) (simp [go_sem, World.cell?_alloc_past, hlt, c1, c2, c3])
    (first | (go_at_call 34; refine (gap_any _ _ _ _ _ (by omega) (by omega)).mono ?_; rintro e w' ⟨rfl, c, rfl⟩))
  go_wp2
  go_ret
  exact ⟨rfl, (((HB.set 1 _).alloc _).alloc _).drew |>.cast (by simp [waitC])⟩
end Go.Proofs.Qxb6000359a
