import Derived.Test.Qxb6000359aHas
namespace Go.Proofs.Qxb6000359a
open Go.RowKit

/-- the numbers of the incarnation that the set holds -/
def setT (low : Int) (S : Int → Bool) (x : Int) : Bool := decide (x ≤ low) || S x

/-- what the numbers come to: ahead of the new one; with it -/
def midT (inc : Int) (T : Int → Bool) (i x : Int) : Bool := if inc < i then decide (x ≤ 0) else T x
def addT (inc : Int) (T : Int → Bool) (i s x : Int) : Bool := if inc < i then decide (x ≤ 0) || decide (x = s) else T x || decide (x = s)
theorem addT_mid (inc : Int) (T : Int → Bool) (i s x : Int) : addT inc T i s x = (midT inc T i x || decide (x = s)) := by unfold addT midT; split <;> rfl

theorem has_any (Q M n : Nat) (inc low i s : Int) (S : Int → Bool) (o : Int) (w : World) (h : SeqIn w Q M n inc low S) (s0 : 0 ≤ s) (s1 : s ≤ 18446744073709551615) :
    Calls Try.prog 33 #[.pointer (some ⟨Q, 0, none⟩), .agg #[.int .u32 o, .int .u64 i, .int .u64 s]] w fun e w' => e = .returned (.bool (memB inc (setT low S) i s)) ∧ ∃ c k, w' = (w.alloc (.cells c 70)).drewN k := by
  rcases Int.lt_trichotomy i inc with hi | hi | hi
  · have e : memB inc (setT low S) i s = true := by simp [memB, hi]
    rw [e]; exact has_lt Q M n inc low i s S o w h hi
  · subst hi
    by_cases hs : s ≤ low
    · have e : memB i (setT low S) i s = true := by simp [memB, setT, hs]
      rw [e]; exact has_low Q M n i low s S o w h hs
    · have e : memB i (setT low S) i s = S s := by simp [memB, setT, hs]
      rw [e]; exact has_map Q M n i low s S o w h (by omega) s0 s1
  · have e : memB inc (setT low S) i s = false := by
      have h1 : ¬ i < inc := by omega
      have h2 : ¬ i = inc := by omega
      simp [memB, h1, h2]
    rw [e]; exact has_gt Q M n inc low i s S o w h hi

theorem zzHas_any (Q M n : Nat) (inc low i s : Int) (S : Int → Bool) (w : World) (h : SeqIn w Q M n inc low S) (s0 : 0 ≤ s) (s1 : s ≤ 18446744073709551615) :
    Calls Try.prog 15 #[.pointer (some ⟨Q, 0, none⟩), .int .u64 i, .int .u64 s] w fun e w' => e = .returned (.bool (memB inc (setT low S) i s)) ∧ ∃ c k, w' = (w.alloc (.cells c 70)).drewN k := by
  go_enter Try.func15, Try.ntmps15
  go_wp2_with (go_at_call 33; refine (has_any Q M n inc low i s S _ _ h s0 s1).mono ?_; rintro e w' ⟨rfl, c, k, rfl⟩)
  go_ret
  exact ⟨rfl, _, _, rfl⟩

theorem new_any (w : World) : Calls Try.prog 12 #[] w fun e w' => e = .returned (.pointer (some ⟨w.heap.size + 1, 0, none⟩)) ∧ w' = (w.alloc (.map #[] 0)).alloc (.cells (seqC 0 0 w.heap.size) 67) := by
  have hmm := @run_makeMap Try.prog
  go_enter Try.func12, Try.ntmps12
  go_wp2
  go_ret
  exact ⟨rfl, rfl⟩

set_option maxHeartbeats 1000000 in
theorem add_no (Q M n : Nat) (inc low i s : Int) (S : Int → Bool) (o : Int) (w : World) (h : SeqIn w Q M n inc low S) (s0 : 0 ≤ s) (s1 : s ≤ 18446744073709551615) (hm : memB inc (setT low S) i s = true) :
    Calls Try.prog 32 #[.pointer (some ⟨Q, 0, none⟩), .agg #[.int .u32 o, .int .u64 i, .int .u64 s]] w fun e w' => e = .returned (.bool false) ∧ SeqIn w' Q M n inc low S ∧ Keep Q M w w' := by
  have ct := fun ob => has_any Q M n inc low i s S o (w.alloc ob) (h.alloc ob) s0 s1
  rw [hm] at ct
  go_enter Try.func32, Try.ntmps32
  go_wp2_with (go_at_call 33; refine (ct _).mono ?_; rintro e w' ⟨rfl, c, k, rfl⟩)
  go_ret
  exact ⟨rfl, ((h.alloc _).alloc _).drewN _, (((Keep.refl _ _ _).alloc _).alloc _).drewN _⟩

set_option maxRecDepth 100000 in
set_option maxHeartbeats 2000000 in
theorem add_yes (Q M n : Nat) (inc low i s : Int) (S : Int → Bool) (o : Int) (w : World) (h : SeqIn w Q M n inc low S) (s0 : 0 ≤ s) (s1 : s ≤ 18446744073709551615) (l0 : 0 ≤ low) (l1 : low + n ≤ 1000000)
    (hm : memB inc (setT low S) i s = false) :
    Calls Try.prog 32 #[.pointer (some ⟨Q, 0, none⟩), .agg #[.int .u32 o, .int .u64 i, .int .u64 s]] w fun e w' => e = .returned (.bool true) ∧
      ∃ (M' n' : Nat) (low' : Int) (S' : Int → Bool), SeqIn w' Q M' n' i low' S' ∧ (M' = M ∨ w.heap.size ≤ M') ∧ Keep Q M w w' ∧ 0 ≤ low' ∧ low' + n' ≤ low + n + 1 ∧
        ∀ x, setT low' S' x = addT inc (setT low S) i s x := by
  have hge : inc ≤ i := by
    simp [memB] at hm
    omega
  have ct := fun ob => has_any Q M n inc low i s S o (w.alloc ob) (h.alloc ob) s0 s1
  rw [hm] at ct
  have hlt := lt_of_block h.1
  have c0 := h.cell0
  have hmm := @run_makeMap Try.prog
  go_enter Try.func32, Try.ntmps32
  go_upto_region 3 with (go_at_call 33; refine (ct _).mono ?_; rintro e w' ⟨rfl, c, k, rfl⟩)
  go_cut [15] (fun s15 wc => s15 = .bool (decide (inc < i)) ∧ SeqIn wc Q M n inc low S ∧ Keep Q M w wc ∧ wc.cell? ⟨w.heap.size, 1, none⟩ = some (.int .u64 i) ∧ wc.cell? ⟨w.heap.size, 2, none⟩ = some (.int .u64 s))
  case first =>
    go_quiet (fail)
    go_wp2_with fail
    go_meet
    case rel => exact ⟨rfl, (((h.alloc _).alloc _).drewN _).drewN _, ((((Keep.refl _ _ _).alloc _).alloc _).drewN _).drewN _, by simp [go_sem, World.cell?_alloc_past], by simp [go_sem, World.cell?_alloc_past]⟩
  case rest =>
    obtain ⟨rfl, g1, g2, ci, cs⟩ := hcut
    have hwlt := g2.size
    clear c0 ct
    have c0 := g1.cell0
    have c1 := g1.cell1
    have c2 := g1.cell2
    have f0 := g1.free 0
    have f1 := g1.free 1
    have f2 := g1.free 2
    have hlt2 := lt_of_block g1.1
    go_upto_if 15 with fail
    go_cut [] (fun wd => ∃ (M1 n1 : Nat) (low1 : Int) (S1 : Int → Bool), SeqIn wd Q M1 n1 i low1 S1 ∧ (M1 = M ∨ w.heap.size ≤ M1) ∧ Keep Q M w wd ∧ 0 ≤ low1 ∧ low1 + n1 ≤ low + n ∧ (∀ x, setT low1 S1 x = midT inc (setT low S) i x) ∧ wd.cell? ⟨w.heap.size, 2, none⟩ = some (.int .u64 s))
    case first =>
      go_wp2_with fail
      all_goals go_meet
      · case rel =>
        have hif : inc < i := by assumption
        refine ⟨wc.heap.size, 0, 0, fun _ => false, g1.fresh i, Or.inr hwlt, (((g2.set 0 _).set 1 _).set 2 _).alloc _, by omega, by omega, fun x => ?_, ?_⟩
        · unfold midT; rw [if_pos hif]; simp [setT]
        · have e1 : Q ≠ w.heap.size := by omega
          have hwl := World.block_lt_of_cell? wc _ cs
          rw [World.cell?_of_block (w := wc) (by rw [Below.heap_alloc _ _ _ (by simpa using hwl), Below.heap_setCell _ _ _ _ (by simpa using e1.symm), Below.heap_setCell _ _ _ _ (by simpa using e1.symm), Below.heap_setCell _ _ _ _ (by simpa using e1.symm)])]
          exact cs
      · case rel =>
        have hif : i ≤ inc := by assumption
        obtain rfl : i = inc := by omega
        exact ⟨M, n, low, S, g1, Or.inl rfl, g2, l0, Int.le_refl _, fun x => by unfold midT; rw [if_neg (by omega)], cs⟩
    case rest =>
      obtain ⟨M1, n1, low1, S1, h1, hM1, hK1, q0, q1, hT1, cs⟩ := hcut
      have HT : Hid (∀ x, (setT low1 S1 x || decide (x = s)) = addT inc (setT low S) i s x) := by
        intro x; rw [hT1 x, addT_mid]
      clear hT1 c0 c1 c2 f0 f1 f2 ci g1 g2 hlt2 hwlt hlt
      have c0 := h1.cell0
      have c1 := h1.cell1
      have c2 := h1.cell2
      have f1 := h1.free 1
      by_cases hs : s = low1 + 1
      · have hq : (s != low1 + 1) = false := by simpa using hs
        have HS : Hid (s = low1 + 1) := hs
        clear hs
        go_wp2_with fail
        have hst : SeqIn (wc.setCell ⟨Q, 1, none⟩ (.int .u64 (low1 + 1))) Q M1 n1 i (low1 + 1) S1 := h1.setLow _
        have hkst := hK1.set 1 (.int .u64 (low1 + 1))
        have hT2 : Hid (∀ x, setT (low1 + 1) S1 x = addT inc (setT low S) i s x) := by
          intro x
          rw [← HT.out x, HS.out]
          unfold setT
          cases S1 x
          · rw [Bool.eq_iff_iff]; simp; omega
          · simp
        clear HT HS c0 c1 c2 f1 hq cs
        go_loopg [] n1 (fun g wr => ∃ (lw : Int) (SS : Int → Bool), SeqIn wr Q M1 g i lw SS ∧ Keep Q M w wr ∧ 0 ≤ lw ∧ lw + g ≤ low + n + 1 ∧ Hid (∀ x, setT lw SS x = addT inc (setT low S) i s x))
        case atStart => exact ⟨low1 + 1, S1, hst, hkst, by omega, by omega, hT2⟩
        case round =>
          clear hst hkst hT2 h1 hK1 q0 q1
          obtain ⟨lw, SS, h1, hK1, q0, q1, hT⟩ := hrel
          have c0 := h1.cell0
          have c1 := h1.cell1
          have c2 := h1.cell2
          have f1 := h1.free 1
          have hlook := fun (k : Nat) => (h1.drewN k).2.look (x := lw + 1) (by omega) (by omega)
          cases hSS : SS (lw + 1)
          · rw [hSS] at hlook
            go_wp2_with fail
            go_quiet (fail)
            go_wp2
            go_ret
            exact ⟨rfl, M1, _, lw, SS, h1.drewN _, hM1, hK1.drewN _, q0, q1, hT.out⟩
          · rw [hSS] at hlook
            go_wp2_with fail
            go_quiet (fail)
            go_wp2_with fail
            obtain ⟨hn1, w1, hrun, hS1, hg⟩ := (h1.drewN (nq + 1)).2.drop (x := lw + 1) (by omega) (by omega) hSS 0
            have d1 : w1.cell? ⟨Q, 1, none⟩ = some (.int .u64 lw) := by
              rw [World.cell?_of_block (w := wr.drewN (nq + 1)) (hg.block Q (lt_of_block h1.1) (by simpa using h1.ne.symm))]; exact c1
            have g1 : w1.frozen? ⟨Q, 1, none⟩ = false := by
              rw [World.frozen?_of_block (w := wr.drewN (nq + 1)) (hg.block Q (lt_of_block h1.1) (by simpa using h1.ne.symm))]; exact f1
            have h2 : SeqIn w1 Q M1 (gk - 1) i lw (fun y => SS y && !decide (y = lw + 1)) := ⟨by rw [hg.block Q (lt_of_block h1.1) (by simpa using h1.ne.symm)]; exact h1.1, hS1⟩
            have hK2 := (hK1.drewN (nq + 1)).grown hg hM1
            clear hS1 hg
            have HT2 : Hid (∀ x, setT (lw + 1) (fun y => SS y && !decide (y = lw + 1)) x = addT inc (setT low S) i s x) := by
              intro x
              rw [← hT.out x]
              unfold setT
              by_cases ex : x = lw + 1
              · subst ex; simp [hSS]
              · have e2 : decide (x ≤ lw + 1) = decide (x ≤ lw) := by rw [decide_eq_decide]; omega
                simp [ex, e2]
            go_region
            go_wp2
            go_roundg (gk - 1)
            case measure => omega
            case rel => exact ⟨lw + 1, _, h2.setLow _, hK2.set 1 _, by omega, by omega, HT2⟩
      · have hq : (s != low1 + 1) = true := by simpa using hs
        obtain ⟨w1, hrun, hS1, hg⟩ := h1.2.store s0 s1 (by omega)
        go_wp2
        go_ret
        refine ⟨rfl, M1, n1 + 1, low1, _, ⟨?_, hS1⟩, hM1, hK1.grown hg hM1, q0, by omega, fun x => ?_⟩
        · rw [hg.block Q (lt_of_block h1.1) (by simpa using h1.ne.symm)]; exact h1.1
        · rw [← HT.out x]; simp [setT, Bool.or_assoc]

theorem zzAdd_no (Q M n : Nat) (inc low i s : Int) (S : Int → Bool) (w : World) (h : SeqIn w Q M n inc low S) (s0 : 0 ≤ s) (s1 : s ≤ 18446744073709551615) (hm : memB inc (setT low S) i s = true) :
    Calls Try.prog 14 #[.pointer (some ⟨Q, 0, none⟩), .int .u64 i, .int .u64 s] w fun e w' => e = .returned (.bool false) ∧ SeqIn w' Q M n inc low S ∧ Keep Q M w w' := by
  go_enter Try.func14, Try.ntmps14
  go_wp2_with (go_at_call 32; refine (add_no Q M n inc low i s S _ _ h s0 s1 hm).mono ?_; rintro e w' ⟨rfl, hp⟩)
  go_ret
  exact ⟨rfl, hp⟩

theorem zzAdd_yes (Q M n : Nat) (inc low i s : Int) (S : Int → Bool) (w : World) (h : SeqIn w Q M n inc low S) (s0 : 0 ≤ s) (s1 : s ≤ 18446744073709551615) (l0 : 0 ≤ low) (l1 : low + n ≤ 1000000)
    (hm : memB inc (setT low S) i s = false) :
    Calls Try.prog 14 #[.pointer (some ⟨Q, 0, none⟩), .int .u64 i, .int .u64 s] w fun e w' => e = .returned (.bool true) ∧
      ∃ (M' n' : Nat) (low' : Int) (S' : Int → Bool), SeqIn w' Q M' n' i low' S' ∧ (M' = M ∨ w.heap.size ≤ M') ∧ Keep Q M w w' ∧ 0 ≤ low' ∧ low' + n' ≤ low + n + 1 ∧ ∀ x, setT low' S' x = addT inc (setT low S) i s x := by
  go_enter Try.func14, Try.ntmps14
  go_wp2_with (go_at_call 32; refine (add_yes Q M n inc low i s S _ _ h s0 s1 l0 l1 hm).mono ?_; rintro e w' ⟨rfl, hp⟩)
  go_ret
  exact ⟨rfl, hp⟩

/-- THE SET AS THE LAWS SEE IT: of incarnation inc the numbers T; c adds so far at most; its map lies at M. -/
def SeqAt (w : World) (Q M c : Nat) (inc : Int) (T : Int → Bool) : Prop := ∃ (n : Nat) (low : Int) (S : Int → Bool), SeqIn w Q M n inc low S ∧ 0 ≤ low ∧ low + n ≤ c ∧ ∀ x, setT low S x = T x

theorem SeqAt.funs {low : Int} {S T : Int → Bool} (h : ∀ x, setT low S x = T x) : setT low S = T := funext h

theorem seqHas (Q M c : Nat) (inc i s : Int) (T : Int → Bool) (w : World) (h : SeqAt w Q M c inc T) (s0 : 0 ≤ s) (s1 : s ≤ 18446744073709551615) :
    Calls Try.prog 15 #[.pointer (some ⟨Q, 0, none⟩), .int .u64 i, .int .u64 s] w fun e w' => e = .returned (.bool (memB inc T i s)) ∧ ∃ c k, w' = (w.alloc (.cells c 70)).drewN k := by
  obtain ⟨n, low, S, h1, l0, l1, hT⟩ := h
  rw [← SeqAt.funs hT]
  exact zzHas_any Q M n inc low i s S w h1 s0 s1

theorem seqAdd_no (Q M c : Nat) (inc i s : Int) (T : Int → Bool) (w : World) (h : SeqAt w Q M c inc T) (s0 : 0 ≤ s) (s1 : s ≤ 18446744073709551615) (hm : memB inc T i s = true) :
    Calls Try.prog 14 #[.pointer (some ⟨Q, 0, none⟩), .int .u64 i, .int .u64 s] w fun e w' => e = .returned (.bool false) ∧ SeqAt w' Q M c inc T ∧ Keep Q M w w' := by
  obtain ⟨n, low, S, h1, l0, l1, hT⟩ := h
  rw [← SeqAt.funs hT] at hm
  refine (zzAdd_no Q M n inc low i s S w h1 s0 s1 hm).mono ?_
  rintro e w' ⟨rfl, h2, hk⟩
  exact ⟨rfl, ⟨n, low, S, h2, l0, l1, hT⟩, hk⟩

theorem seqAdd_yes (Q M c : Nat) (inc i s : Int) (T : Int → Bool) (w : World) (h : SeqAt w Q M c inc T) (s0 : 0 ≤ s) (s1 : s ≤ 18446744073709551615) (hc : c ≤ 1000000) (hm : memB inc T i s = false) :
    Calls Try.prog 14 #[.pointer (some ⟨Q, 0, none⟩), .int .u64 i, .int .u64 s] w fun e w' => e = .returned (.bool true) ∧ ∃ M', SeqAt w' Q M' (c + 1) i (addT inc T i s) ∧ (M' = M ∨ w.heap.size ≤ M') ∧ Keep Q M w w' := by
  obtain ⟨n, low, S, h1, l0, l1, hT⟩ := h
  rw [← SeqAt.funs hT] at hm ⊢
  refine (zzAdd_yes Q M n inc low i s S w h1 s0 s1 l0 (by omega) hm).mono ?_
  rintro e w' ⟨rfl, M', n', low', S', h2, hM, hk, q0, q1, hT'⟩
  exact ⟨rfl, M', ⟨n', low', S', h2, q0, by omega, hT'⟩, hM, hk⟩

theorem SeqAt.of_blocks {w w' : World} {Q M c : Nat} {inc : Int} {T : Int → Bool} (h : SeqAt w Q M c inc T) (e1 : w'.heap[Q]? = w.heap[Q]?) (e2 : w'.heap[M]? = w.heap[M]?) : SeqAt w' Q M c inc T := by
  obtain ⟨n, low, S, h1, r⟩ := h
  exact ⟨n, low, S, ⟨e1.trans h1.1, h1.2.of_block e2⟩, r⟩
theorem SeqAt.lts {w : World} {Q M c : Nat} {inc : Int} {T : Int → Bool} (h : SeqAt w Q M c inc T) : Q < w.heap.size ∧ M < w.heap.size := by
  obtain ⟨n, low, S, h1, r⟩ := h
  exact ⟨lt_of_block h1.1, h1.2.lt⟩
theorem SeqAt.alloc {w : World} {Q M c : Nat} {inc : Int} {T : Int → Bool} (h : SeqAt w Q M c inc T) (o : Obj) : SeqAt (w.alloc o) Q M c inc T :=
  h.of_blocks (Below.heap_alloc _ _ _ h.lts.1) (Below.heap_alloc _ _ _ h.lts.2)
theorem SeqAt.drewN {w : World} {Q M c : Nat} {inc : Int} {T : Int → Bool} (h : SeqAt w Q M c inc T) (k : Nat) : SeqAt (w.drewN k) Q M c inc T := h.of_blocks rfl rfl
theorem SeqAt.ne_cells {w : World} {Q M c : Nat} {inc : Int} {T : Int → Bool} (h : SeqAt w Q M c inc T) {g : Nat} {cs : Array Value} {t : TypeId} {m : Nat × Nat} (hg : w.heap[g]? = some (.cells cs t m)) : M ≠ g := by
  obtain ⟨n, low, S, h1, r⟩ := h
  exact h1.2.ne_cells hg
theorem SeqAt.mono {w : World} {Q M c c' : Nat} {inc : Int} {T : Int → Bool} (h : SeqAt w Q M c inc T) (hc : c ≤ c') : SeqAt w Q M c' inc T := by
  obtain ⟨n, low, S, h1, l0, l1, hT⟩ := h
  exact ⟨n, low, S, h1, l0, by omega, hT⟩

def zeroT (x : Int) : Bool := decide (x ≤ 0)
theorem SeqAt.made (w : World) : SeqAt ((w.alloc (.map #[] 0)).alloc (.cells (seqC 0 0 w.heap.size) 67)) (w.heap.size + 1) w.heap.size 0 0 zeroT := by
  refine ⟨0, 0, fun _ => false, ⟨?_, (SetMap.made w).of_block (Below.heap_alloc _ _ _ (by simp))⟩, by omega, by omega, fun x => by simp [setT, zeroT]⟩
  have := heap_alloc_new (w.alloc (.map #[] 0)) (.cells (seqC 0 0 w.heap.size) 67)
  simpa using this
end Go.Proofs.Qxb6000359a
