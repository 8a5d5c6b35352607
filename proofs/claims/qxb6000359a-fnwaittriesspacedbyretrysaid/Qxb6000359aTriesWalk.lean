import Derived.Test.Qxb6000359aWaitMath
import Derived.Deep.DeepCutAuto
namespace Go.Proofs.Qxb6000359a
open Go.RowKit

theorem atLeast1_ge (x : Int) : 1 ≤ atLeast1 x ∧ x ≤ atLeast1 x := by unfold atLeast1; split <;> omega

/-- What the loop knows of memory: the Wait at B, the Retry at B + 1; below B all is as it was. -/
def WM (B : Nat) (w : World) (p first every : Int) (bo : Bool) (k t l : Int) (wr : World) : Prop :=
  ∃ a, wtk a (k - 1) p = k ∧ wtr a t p = t ∧ wtd a l p = l ∧ wr.heap[B]? = some (.cells (waitC a (k - 1) t l) 38 (0, 0)) ∧ wr.heap[B + 1]? = some (.cells #[.int .i64 first, .int .i64 every, .bool bo] 40 (0, 0)) ∧ Below B w wr

theorem WM.start (w : World) (p first every : Int) (bo : Bool) : WM w.heap.size w p first every bo 1 0 0 ((w.alloc (.cells #[.int .u64 0, .int .i64 0, .int .i64 0, .int .i64 0] 38)).alloc (.cells #[.int .i64 first, .int .i64 every, .bool bo] 40)) := by
  refine ⟨0, ?_, ?_, ?_, ?_, ?_, ?_⟩
  · unfold wtk; split <;> rfl
  · unfold wtr; split <;> rfl
  · unfold wtd; split <;> rfl
  · rw [Below.heap_alloc _ _ _ (by simp)]; exact heap_alloc_new _ _
  · have := heap_alloc_new (w.alloc (.cells #[.int .u64 0, .int .i64 0, .int .i64 0, .int .i64 0] 38)) (.cells #[.int .i64 first, .int .i64 every, .bool bo] 40)
    simpa using this
  · exact ((Below.refl _ _).alloc (Nat.le_refl _) _).alloc (by simp) _

theorem WM.turn {B : Nat} {w wr w1 : World} {p first every k t l t' l' : Int} {bo : Bool} (h : WM B w p first every bo k t l wr) (ht : Turn B 38 wr (waitC p k t' l') w1) : WM B w p first every bo (k + 1) t' l' w1 := by
  obtain ⟨a, h1, h2, h3, h4, h5, h6⟩ := h
  refine ⟨p, ?_, ?_, ?_, ?_, ?_, ?_⟩
  · unfold wtk; rw [if_pos rfl]; omega
  · unfold wtr; rw [if_pos rfl]
  · unfold wtd; rw [if_pos rfl]
  · rw [Int.add_sub_cancel]; exact ht.1
  · rw [ht.2.block _ (lt_of_block h5) (by simp)]; exact h5
  · exact h6.grown ht.2 (Nat.le_of_lt (lt_of_block h4)) (fun j hj => by cases hj; exact Nat.le_refl _)

set_option maxRecDepth 100000 in
set_option maxHeartbeats 4000000 in
theorem tries_loop (p n first every : Int) (bo : Bool) (w : World) (n0 : 0 ≤ n) (n1 : n ≤ 65536) (e0 : every ≤ 288230376151711743) (e1 : -288230376151711743 ≤ every)  :
    Calls Try.prog 7 #[.int .u64 p, .int .i64 n, .int .i64 first, .int .i64 every, .bool bo] w fun e w' => e = .returned (.bool true) ∧ Below w.heap.size w w' := by
  obtain ⟨e, he⟩ : ∃ e : Int, Hid (e = atLeast1 every) := ⟨_, rfl⟩
  obtain ⟨s, hs⟩ : ∃ s : Int, Hid (s = atLeast1 first) := ⟨_, rfl⟩
  have be : 1 ≤ e ∧ e ≤ 288230376151711743 := by
    rw [he.out]; unfold atLeast1; split <;> omega
  obtain ⟨be0, be1⟩ := be
  go_enter Try.func7, Try.ntmps7
  go_upto_if 39 with fail
  go_cut [13] (fun s13 w' => s13 = .int .i64 e ∧ w' = (w.alloc (.cells #[.int .u64 0, .int .i64 0, .int .i64 0, .int .i64 0] 38)).alloc (.cells #[.int .i64 first, .int .i64 every, .bool bo] 40))
  case first =>
    go_wp2_with fail
    all_goals go_meet
    all_goals case rel =>
      refine ⟨?_, rfl⟩
      rw [he.out]; unfold atLeast1
      first | rw [if_pos (by assumption)] | rw [if_neg (by omega)]
  case rest =>
    obtain ⟨rfl, rfl⟩ := hcut
    go_upto_if 44 with fail
    go_cut [15] (fun s15 w' => s15 = .int .i64 s ∧ w' = (w.alloc (.cells #[.int .u64 0, .int .i64 0, .int .i64 0, .int .i64 0] 38)).alloc (.cells #[.int .i64 first, .int .i64 every, .bool bo] 40))
    case first =>
      go_wp2_with fail
      all_goals go_meet
      all_goals case rel =>
        refine ⟨?_, rfl⟩
        rw [hs.out]; unfold atLeast1
        first | rw [if_pos (by assumption)] | rw [if_neg (by omega)]
    case rest =>
      obtain ⟨rfl, rfl⟩ := hcut
      go_wp2_with fail
      have hst := WM.start w p first every bo
      go_loopw [16, 17, 18, 19] (fun s16 s17 s18 s19 wr => ∃ k t l pg : Int, s16 = .int .i64 l ∧ s17 = .int .i64 pg ∧ s18 = .int .i64 t ∧ s19 = .int .i64 k ∧ WI every first bo n k t l pg ∧ WM w.heap.size w p first every bo k t l wr) (fun _ _ _ s19 _ => (n + 1 - intOf s19).toNat)
      case atStart => exact ⟨1, 0, 0, 0, rfl, rfl, rfl, rfl, WI.start n0, hst⟩
      case round =>
        clear hst
        obtain ⟨k, t, l, pg, rfl, rfl, rfl, rfl, hI, hM⟩ := hrel
        have hB := hI
        obtain ⟨b1, b2, b3, b4, b5, b6, -, -, -⟩ := hB
        by_cases hkn : k ≤ n
        · obtain ⟨a, hA⟩ : ∃ a, Hid (wtk a (k - 1) p = k ∧ wtr a t p = t ∧ wtd a l p = l ∧ wr.heap[w.heap.size]? = some (.cells (waitC a (k - 1) t l) 38 (0, 0)) ∧ wr.heap[w.heap.size + 1]? = some (.cells #[.int .i64 first, .int .i64 every, .bool bo] 40 (0, 0)) ∧ Below w.heap.size w wr) := by have h := hM; exact h
          have c0 : wr.cell? ⟨w.heap.size + 1, 0, none⟩ = some (.int .i64 first) := cell_of_block hA.out.2.2.2.2.1 rfl
          have c1 : wr.cell? ⟨w.heap.size + 1, 1, none⟩ = some (.int .i64 every) := cell_of_block hA.out.2.2.2.2.1 rfl
          have c2 : wr.cell? ⟨w.heap.size + 1, 2, none⟩ = some (.bool bo) := cell_of_block hA.out.2.2.2.2.1 rfl
          cases hd : isDue k t l first every bo
          · have HD : Hid (isDue k t l first every bo = false) := hd
            clear hd
            have ct := due_no w.heap.size a (k - 1) t l p first every bo wr hA.out.2.2.2.1 (by omega) (by omega) (by omega) (by omega) (by omega) (by rw [hA.out.1, hA.out.2.1, hA.out.2.2.1]; exact HD.out)
            rw [hA.out.1, hA.out.2.1, hA.out.2.2.1] at ct
            by_cases ht : 1 ≤ t
            · obtain ⟨q1, q2⟩ := WI.notLater e0 e1 hI hkn ht HD.out
              rw [← he.out] at q1
              have q0 : (t == 0) = false := by simp; omega
              go_wp2_with (go_at_call 21; refine ct.mono ?_; rintro e w' ⟨rfl, hT⟩)
              go_roundw
              case rel => exact ⟨k + 1, t, l, pg, rfl, rfl, rfl, rfl, q2, hM.turn hT⟩
              case measure => simp [intOf]; omega
            · have t0 : t = 0 := by omega
              subst t0
              have l0 : l = 0 := (hI.2.2.2.2.2.2.1 rfl).1
              subst l0
              obtain ⟨q1, q2⟩ := WI.notFirst hI hkn HD.out
              rw [← hs.out] at q1
              have q0 : (k == s) = false := by simp; omega
              go_wp2_with (go_at_call 21; refine ct.mono ?_; rintro e w' ⟨rfl, hT⟩)
              go_roundw
              case rel => exact ⟨k + 1, 0, 0, pg, rfl, rfl, rfl, rfl, q2, hM.turn hT⟩
              case measure => simp [intOf]; omega
          · have HD : Hid (isDue k t l first every bo = true) := hd
            clear hd
            have ct := due_yes w.heap.size a (k - 1) t l p first every bo wr hA.out.2.2.2.1 (by omega) (by omega) (by omega) (by omega) (by omega) (by omega) (by rw [hA.out.1, hA.out.2.1, hA.out.2.2.1]; exact HD.out)
            rw [hA.out.1, hA.out.2.1] at ct
            by_cases ht : 1 ≤ t
            · obtain ⟨q1, q2, q3, q4, q5⟩ := WI.later e0 e1 hI hkn ht HD.out
              rw [← he.out] at q1 q2 q3
              have q0 : (t == 0) = false := by simp; omega
              by_cases h2 : 2 ≤ t
              · have q4' := q4 h2
                clear q4
                cases bo
                · have q3' := q3 rfl
                  clear q3
                  have q6 : (k - l != e) = false := by simp; omega
                  have Q3 : Hid (k - l = e) := q3'
                  clear q3'
                  go_wp2_with (go_at_call 21; refine ct.mono ?_; rintro e w' ⟨rfl, hT⟩)
                  go_roundw
                  case rel => exact ⟨k + 1, t + 1, k, k - l, rfl, rfl, rfl, rfl, q5, hM.turn hT⟩
                  case measure => simp [intOf]; omega
                · clear q3
                  go_wp2_with (go_at_call 21; refine ct.mono ?_; rintro e w' ⟨rfl, hT⟩)
                  go_roundw
                  case rel => exact ⟨k + 1, t + 1, k, k - l, rfl, rfl, rfl, rfl, q5, hM.turn hT⟩
                  case measure => simp [intOf]; omega
              · clear q4
                cases bo
                · have q3' := q3 rfl
                  clear q3
                  have q6 : (k - l != e) = false := by simp; omega
                  have Q3 : Hid (k - l = e) := q3'
                  clear q3'
                  go_wp2_with (go_at_call 21; refine ct.mono ?_; rintro e w' ⟨rfl, hT⟩)
                  go_roundw
                  case rel => exact ⟨k + 1, t + 1, k, k - l, rfl, rfl, rfl, rfl, q5, hM.turn hT⟩
                  case measure => simp [intOf]; omega
                · clear q3
                  go_wp2_with (go_at_call 21; refine ct.mono ?_; rintro e w' ⟨rfl, hT⟩)
                  go_roundw
                  case rel => exact ⟨k + 1, t + 1, k, k - l, rfl, rfl, rfl, rfl, q5, hM.turn hT⟩
                  case measure => simp [intOf]; omega
            · have t0 : t = 0 := by omega
              subst t0
              have l0 : l = 0 := (hI.2.2.2.2.2.2.1 rfl).1
              subst l0
              obtain ⟨q1, q2⟩ := WI.first hI hkn HD.out
              rw [← hs.out] at q1
              have q0 : (k != s) = false := by simp; omega
              have Q1 : Hid (k = s) := q1
              clear q1
              go_wp2_with (go_at_call 21; refine ct.mono ?_; rintro e w' ⟨rfl, hT⟩)
              go_roundw
              case rel => exact ⟨k + 1, 1, k, pg, rfl, rfl, rfl, rfl, q2, hM.turn hT⟩
              case measure => simp [intOf]; omega
        · go_wp2
          go_ret
          obtain ⟨_, _, _, _, _, _, hb⟩ := hM
          exact ⟨rfl, hb⟩
end Go.Proofs.Qxb6000359a
