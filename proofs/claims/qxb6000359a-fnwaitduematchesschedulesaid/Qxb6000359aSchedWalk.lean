import Derived.Test.Qxb6000359aSchedMath
import Derived.Deep.DeepCutAuto
namespace Go.Proofs.Qxb6000359a
open Go.RowKit

/-- What the loop knows of memory: the ticks at g, the Wait (cells c) at B, the Retry at B + 1; what was there is as it was. -/
def SM (w : World) (g B len : Nat) (V0 V1 : Nat → Value) (first every : Int) (bo : Bool) (c : Array Value) (wr : World) : Prop :=
  wr.heap[B]? = some (.cells c 38 (0, 0)) ∧ wr.heap[B + 1]? = some (.cells #[.int .i64 first, .int .i64 every, .bool bo] 40 (0, 0)) ∧ g < B ∧ w.heap.size ≤ B ∧ PairRow wr g 42 len len V0 V1 ∧ Below w.heap.size w wr

theorem SM.start {w w1 : World} {g len : Nat} {V0 V1 : Nat → Value} {first every : Int} {bo : Bool} (hr : PairRow w1 g 42 len len V0 V1) (hb : Below w.heap.size w w1) :
    SM w g w1.heap.size len V0 V1 first every bo (waitC 0 0 0 0) ((w1.alloc (.cells #[.int .u64 0, .int .i64 0, .int .i64 0, .int .i64 0] 38)).alloc (.cells #[.int .i64 first, .int .i64 every, .bool bo] 40)) := by
  refine ⟨?_, ?_, hr.lt, hb.size, (hr.alloc _).alloc _, (hb.alloc hb.size _).alloc ?_ _⟩
  · rw [Below.heap_alloc _ _ _ (by simp)]; exact heap_alloc_new _ _
  · have := heap_alloc_new (w1.alloc (.cells #[.int .u64 0, .int .i64 0, .int .i64 0, .int .i64 0] 38)) (.cells #[.int .i64 first, .int .i64 every, .bool bo] 40)
    simpa using this
  · have := hb.size; simp; omega

theorem SM.turn {w : World} {g B len : Nat} {V0 V1 : Nat → Value} {first every : Int} {bo : Bool} {c c' : Array Value} {wr w1 : World} {o : Obj} (h : SM w g B len V0 V1 first every bo c wr) (ht : Turn B 38 (wr.alloc o) c' w1) : SM w g B len V0 V1 first every bo c' w1 := by
  obtain ⟨h1, h2, h3, h4, h5, h6⟩ := h
  have s1 := lt_of_block h1
  have s2 := lt_of_block h2
  have s5 := h5.lt
  refine ⟨ht.1, ?_, h3, h4, h5.of_block ?_, (h6.alloc (by omega) o).grown ht.2 (by simp; omega) (fun j hj => by cases hj; exact h4)⟩
  · rw [ht.2.block _ (by simp; omega) (by simp), Below.heap_alloc _ _ _ s2]; exact h2
  · rw [ht.2.block _ (by simp; omega) (by simp; omega), Below.heap_alloc _ _ _ s5]

theorem SM.wait {w : World} {g B len : Nat} {V0 V1 : Nat → Value} {first every : Int} {bo : Bool} {c : Array Value} {wr : World} (h : SM w g B len V0 V1 first every bo c wr) (o : Obj) : (wr.alloc o).heap[B]? = some (.cells c 38 (0, 0)) := by
  rw [Below.heap_alloc _ _ _ (lt_of_block h.1)]; exact h.1

theorem atLeast1_big {x : Int} (h : 1 < atLeast1 x) : atLeast1 x = x := by
  unfold atLeast1 at *
  split at h
  · omega
  · rw [if_neg (by assumption)]

theorem sched_nil (first every : Int) (bo : Bool) (w : World) :
    Calls Try.prog 6 #[.slice none 0 0, .int .i64 first, .int .i64 every, .bool bo] w fun e w' => e = .returned (.bool true) ∧ Below w.heap.size w w' := by
  go_enter Try.func6, Try.ntmps6
  go_wp2_with (first | (go_at_call 19; refine (copyTicks_nil _).mono ?_; rintro e w' ⟨rfl, rfl⟩) | go_in)
  refine wp_loop_rounds 1 ?_
  rw [rounds_succ]
  go_wp2
  go_ret
  exact ⟨rfl, ((Below.refl _ _).alloc (Nat.le_refl _) _).alloc (by simp) _⟩

theorem sched_big (ad : Option Addr) (len cap : Nat) (first every : Int) (bo : Bool) (w : World) (hl : 65536 < len) :
    Calls Try.prog 6 #[.slice ad len cap, .int .i64 first, .int .i64 every, .bool bo] w fun e w' => e = .returned (.bool true) ∧ Below w.heap.size w w' := by
  have hl' : (65536 : Int) < (len : Int) := by omega
  by_cases h2 : (1048576 : Int) < (len : Int)
  · go_enter Try.func6, Try.ntmps6
    go_wp2
    go_ret
    exact ⟨rfl, Below.refl _ _⟩
  · go_enter Try.func6, Try.ntmps6
    go_wp2
    go_ret
    exact ⟨rfl, Below.refl _ _⟩

set_option maxRecDepth 100000 in
set_option maxHeartbeats 4000000 in
theorem sched_walk (a : Addr) (b off len cap : Nat) (A0 : Nat → Bool) (A1 : Nat → Int) (first every : Int) (bo : Bool) (w : World) (hl : len ≤ 65536) (ha : 0 < len → a = ⟨b, off, none⟩)
    (h0 : ∀ i, i < len → w.cell? ⟨b, off + i * 2, none⟩ = some (.bool (A0 i))) (h1 : ∀ i, i < len → w.cell? ⟨b, off + i * 2 + 1, none⟩ = some (.int .u64 (A1 i)))
    (e0 : -9223372036854775808 ≤ every) (e1 : every ≤ 9223372036854775807) :
    Calls Try.prog 6 #[.slice (some a) len cap, .int .i64 first, .int .i64 every, .bool bo] w fun e w' => e = .returned (.bool true) ∧ Below w.heap.size w w' := by
  have ct := copyTicks_any a b off len cap A0 A1 w (by omega) ha h0 h1
  clear ha h0 h1
  have hl1 : ¬ (65536 : Int) < (len : Int) := by omega
  go_enter Try.func6, Try.ntmps6
  go_wp2_with (first | (go_at_call 19; refine ct.mono ?_; rintro e w1 ⟨rfl, hbel, hrow⟩) | go_in)
  have hst := SM.start (first := first) (every := every) (bo := bo) hrow hbel
  have hs1 := hbel.size
  clear ct hrow hbel
  go_loopw [11, 12, 13, 14, 15] (fun s11 s12 s13 s14 s15 wr => ∃ (n : Nat) (cA kk jj l nd : Int), n ≤ len ∧ s11 = .int .u64 cA ∧ s12 = .int .i64 kk ∧ s13 = .int .i64 jj ∧ s14 = .int .i64 nd ∧ s15 = .int .i64 n ∧ SI first every bo n kk jj l nd ∧ SM w w.heap.size w1.heap.size len (fun i => .bool (A0 i)) (fun i => .int .u64 (A1 i)) first every bo (waitC cA kk jj l) wr) (fun _ _ _ _ s15 _ => len - (intOf s15).toNat)
  case atStart => exact ⟨0, 0, 0, 0, 0, 0, Nat.zero_le _, rfl, rfl, rfl, rfl, rfl, SI.start (by omega), hst⟩
  case round =>
    clear hst
    obtain ⟨n, cA, kk, jj, l, nd, hn, rfl, rfl, rfl, rfl, rfl, hI, hM⟩ := hrel
    obtain ⟨b1, b2, b3, b4, b5, b6, b7, -, -⟩ := id hI
    by_cases hlt : n < len
    · have c0 : wr.cell? ⟨w.heap.size, n * 2, none⟩ = some (.bool (A0 n)) := hM.2.2.2.2.1.cell0 hlt (Nat.le_refl _)
      have c1 : wr.cell? ⟨w.heap.size, n * 2 + 1, none⟩ = some (.int .u64 (A1 n)) := hM.2.2.2.2.1.cell1 hlt (Nat.le_refl _)
      have r0 : wr.cell? ⟨w1.heap.size + 1, 0, none⟩ = some (.int .i64 first) := cell_of_block hM.2.1 rfl
      have r1 : wr.cell? ⟨w1.heap.size + 1, 1, none⟩ = some (.int .i64 every) := cell_of_block hM.2.1 rfl
      have r2 : wr.cell? ⟨w1.heap.size + 1, 2, none⟩ = some (.bool bo) := cell_of_block hM.2.1 rfl
      have z0 := lt_of_block hM.2.1
      generalize A0 n = wt at c0
      generalize A1 n = p at c1
      cases wt
      · go_wp2_with (go_at_call 21; refine (due_off w1.heap.size cA kk jj l p first every bo _ (hM.wait _)).mono ?_; rintro e w2 ⟨rfl, hT⟩)
        go_roundw
        case rel => exact ⟨n + 1, 0, 0, 0, 0, nd, by omega, rfl, rfl, rfl, rfl, by go_num, SI.start (by omega), hM.turn hT⟩
        case measure => simp [intOf]; omega
      · by_cases hp : p = cA
        · subst hp
          by_cases hk0 : kk = 0
          · subst hk0
            obtain rfl : jj = 0 := by omega
            obtain rfl : l = 0 := by omega
            have W := wt_reset (cA := p) (p := p) (kk := 0) (jj := 0) (l := 0) (Or.inr ⟨rfl, rfl, rfl⟩)
            cases hd : isDue 1 0 0 first every bo
            · have HD : Hid (isDue 1 0 0 first every bo = false) := hd
              clear hd
              have cn := fun o => due_no w1.heap.size p 0 0 0 p first every bo (wr.alloc o) (hM.wait o) (by omega) (by omega) (by omega) (by omega) (by omega) (by rw [W.1, W.2.1, W.2.2]; exact HD.out)
              rw [W.1, W.2.1, W.2.2] at cn
              obtain ⟨q1, q2⟩ := SI.resetNot (n := n) (by omega) HD.out
              have hA1 : Hid (atLeast1 first = first) := atLeast1_big q1
              rw [hA1.out] at q1
              go_wp2_with (go_at_call 21; refine (cn _).mono ?_; rintro e w2 ⟨rfl, hT⟩)
              go_roundw
              case rel => exact ⟨n + 1, p, 1, 0, 0, first, by omega, rfl, rfl, rfl, rfl, by go_num, by rw [hA1.out] at q2; exact q2, hM.turn hT⟩
              case measure => simp [intOf]; omega
            · have HD : Hid (isDue 1 0 0 first every bo = true) := hd
              clear hd
              have cy := fun o => due_yes w1.heap.size p 0 0 0 p first every bo (wr.alloc o) (hM.wait o) (by omega) (by omega) (by omega) (by omega) (by omega) (by omega) (by rw [W.1, W.2.1, W.2.2]; exact HD.out)
              rw [W.1, W.2.1] at cy
              obtain ⟨q1, q2⟩ := SI.resetDue (n := n) (by omega) HD.out
              have hg := waitGap_any every bo 1
              by_cases hf : first < 1
              · by_cases hgp : gapv every bo 1 < 1
                · have hG : Hid (G every bo 1 = 1) := by unfold G; rw [if_pos hgp]; rfl
                  go_wp2_with (first | (go_at_call 20; refine (hg _ (by omega) (by omega) e0 e1).mono ?_; rintro e w2 ⟨rfl, rfl⟩) | (go_at_call 21; refine (cy _).mono ?_; rintro e w2 ⟨rfl, hT⟩))
                  go_roundw
                  case rel => exact ⟨n + 1, p, 1, 1, 1, _, by omega, rfl, rfl, rfl, rfl, by go_num, by rw [hG.out, wrap_id (by omega) (by omega)] at q2; exact q2, hM.turn hT⟩
                  case measure => simp [intOf]; omega
                · have hG : Hid (G every bo 1 = gapv every bo 1) := by unfold G; rw [if_neg hgp]; rfl
                  go_wp2_with (first | (go_at_call 20; refine (hg _ (by omega) (by omega) e0 e1).mono ?_; rintro e w2 ⟨rfl, rfl⟩) | (go_at_call 21; refine (cy _).mono ?_; rintro e w2 ⟨rfl, hT⟩))
                  go_roundw
                  case rel => exact ⟨n + 1, p, 1, 1, 1, _, by omega, rfl, rfl, rfl, rfl, by go_num, by rw [hG.out] at q2; exact q2, hM.turn hT⟩
                  case measure => simp [intOf]; omega
              · have hq : ((1 : Int) == first) = true := by
                  unfold atLeast1 at q1; rw [if_neg hf] at q1; simp; omega
                clear q1
                by_cases hgp : gapv every bo 1 < 1
                · have hG : Hid (G every bo 1 = 1) := by unfold G; rw [if_pos hgp]; rfl
                  go_wp2_with (first | (go_at_call 20; refine (hg _ (by omega) (by omega) e0 e1).mono ?_; rintro e w2 ⟨rfl, rfl⟩) | (go_at_call 21; refine (cy _).mono ?_; rintro e w2 ⟨rfl, hT⟩))
                  go_roundw
                  case rel => exact ⟨n + 1, p, 1, 1, 1, _, by omega, rfl, rfl, rfl, rfl, by go_num, by rw [hG.out, wrap_id (by omega) (by omega)] at q2; exact q2, hM.turn hT⟩
                  case measure => simp [intOf]; omega
                · have hG : Hid (G every bo 1 = gapv every bo 1) := by unfold G; rw [if_neg hgp]; rfl
                  go_wp2_with (first | (go_at_call 20; refine (hg _ (by omega) (by omega) e0 e1).mono ?_; rintro e w2 ⟨rfl, rfl⟩) | (go_at_call 21; refine (cy _).mono ?_; rintro e w2 ⟨rfl, hT⟩))
                  go_roundw
                  case rel => exact ⟨n + 1, p, 1, 1, 1, _, by omega, rfl, rfl, rfl, rfl, by go_num, by rw [hG.out] at q2; exact q2, hM.turn hT⟩
                  case measure => simp [intOf]; omega
          · have hk1 : (kk == 0) = false := by simpa using hk0
            have W := wt_cont (p := p) (kk := kk) (jj := jj) (l := l)
            cases hd : isDue (kk + 1) jj l first every bo
            · have HD : Hid (isDue (kk + 1) jj l first every bo = false) := hd
              clear hd
              have cn := fun o => due_no w1.heap.size p kk jj l p first every bo (wr.alloc o) (hM.wait o) (by omega) (by omega) (by omega) (by omega) (by omega) (by rw [W.1, W.2.1, W.2.2]; exact HD.out)
              rw [W.1, W.2.1, W.2.2] at cn
              obtain ⟨q1, q2⟩ := SI.contNot hI (by omega) (by omega) e1 HD.out
              have hq : (kk + 1 == nd) = false := by simpa using q1
              clear q1
              go_wp2_with (go_at_call 21; refine (cn _).mono ?_; rintro e w2 ⟨rfl, hT⟩)
              go_roundw
              case rel => exact ⟨n + 1, p, kk + 1, jj, l, nd, by omega, rfl, rfl, rfl, rfl, by go_num, q2, hM.turn hT⟩
              case measure => simp [intOf]; omega
            · have HD : Hid (isDue (kk + 1) jj l first every bo = true) := hd
              clear hd
              have cy := fun o => due_yes w1.heap.size p kk jj l p first every bo (wr.alloc o) (hM.wait o) (by omega) (by omega) (by omega) (by omega) (by omega) (by omega) (by rw [W.1, W.2.1, W.2.2]; exact HD.out)
              rw [W.1, W.2.1] at cy
              obtain ⟨q1, q2⟩ := SI.contDue hI (by omega) (by omega) e1 HD.out
              have hq : (kk + 1 == nd) = true := by simpa using q1
              clear q1
              have hg := waitGap_any every bo (jj + 1)
              by_cases hgp : gapv every bo (jj + 1) < 1
              · have hG : Hid (G every bo (jj + 1) = 1) := by unfold G; rw [if_pos hgp]; rfl
                go_wp2_with (first | (go_at_call 20; refine (hg _ (by omega) (by omega) e0 e1).mono ?_; rintro e w2 ⟨rfl, rfl⟩) | (go_at_call 21; refine (cy _).mono ?_; rintro e w2 ⟨rfl, hT⟩))
                go_roundw
                case rel => exact ⟨n + 1, p, kk + 1, jj + 1, kk + 1, _, by omega, rfl, rfl, rfl, rfl, by go_num, by rw [hG.out, wrap_id (by omega) (by omega)] at q2; exact q2, hM.turn hT⟩
                case measure => simp [intOf]; omega
              · have hG : Hid (G every bo (jj + 1) = gapv every bo (jj + 1)) := by unfold G; rw [if_neg hgp]; rfl
                go_wp2_with (first | (go_at_call 20; refine (hg _ (by omega) (by omega) e0 e1).mono ?_; rintro e w2 ⟨rfl, rfl⟩) | (go_at_call 21; refine (cy _).mono ?_; rintro e w2 ⟨rfl, hT⟩))
                go_roundw
                case rel => exact ⟨n + 1, p, kk + 1, jj + 1, kk + 1, _, by omega, rfl, rfl, rfl, rfl, by go_num, by rw [hG.out] at q2; exact q2, hM.turn hT⟩
                case measure => simp [intOf]; omega
        · have hpn : (p != cA) = true := by simpa using hp
          have W := wt_reset (cA := cA) (p := p) (kk := kk) (jj := jj) (l := l) (Or.inl hp)
          cases hd : isDue 1 0 0 first every bo
          · have HD : Hid (isDue 1 0 0 first every bo = false) := hd
            clear hd
            have cn := fun o => due_no w1.heap.size cA kk jj l p first every bo (wr.alloc o) (hM.wait o) (by omega) (by omega) (by omega) (by omega) (by omega) (by rw [W.1, W.2.1, W.2.2]; exact HD.out)
            rw [W.1, W.2.1, W.2.2] at cn
            obtain ⟨q1, q2⟩ := SI.resetNot (n := n) (by omega) HD.out
            have hA1 : Hid (atLeast1 first = first) := atLeast1_big q1
            rw [hA1.out] at q1
            go_wp2_with (go_at_call 21; refine (cn _).mono ?_; rintro e w2 ⟨rfl, hT⟩)
            go_roundw
            case rel => exact ⟨n + 1, p, 1, 0, 0, first, by omega, rfl, rfl, rfl, rfl, by go_num, by rw [hA1.out] at q2; exact q2, hM.turn hT⟩
            case measure => simp [intOf]; omega
          · have HD : Hid (isDue 1 0 0 first every bo = true) := hd
            clear hd
            have cy := fun o => due_yes w1.heap.size cA kk jj l p first every bo (wr.alloc o) (hM.wait o) (by omega) (by omega) (by omega) (by omega) (by omega) (by omega) (by rw [W.1, W.2.1, W.2.2]; exact HD.out)
            rw [W.1, W.2.1] at cy
            obtain ⟨q1, q2⟩ := SI.resetDue (n := n) (by omega) HD.out
            have hg := waitGap_any every bo 1
            by_cases hf : first < 1
            · by_cases hgp : gapv every bo 1 < 1
              · have hG : Hid (G every bo 1 = 1) := by unfold G; rw [if_pos hgp]; rfl
                go_wp2_with (first | (go_at_call 20; refine (hg _ (by omega) (by omega) e0 e1).mono ?_; rintro e w2 ⟨rfl, rfl⟩) | (go_at_call 21; refine (cy _).mono ?_; rintro e w2 ⟨rfl, hT⟩))
                go_roundw
                case rel => exact ⟨n + 1, p, 1, 1, 1, _, by omega, rfl, rfl, rfl, rfl, by go_num, by rw [hG.out, wrap_id (by omega) (by omega)] at q2; exact q2, hM.turn hT⟩
                case measure => simp [intOf]; omega
              · have hG : Hid (G every bo 1 = gapv every bo 1) := by unfold G; rw [if_neg hgp]; rfl
                go_wp2_with (first | (go_at_call 20; refine (hg _ (by omega) (by omega) e0 e1).mono ?_; rintro e w2 ⟨rfl, rfl⟩) | (go_at_call 21; refine (cy _).mono ?_; rintro e w2 ⟨rfl, hT⟩))
                go_roundw
                case rel => exact ⟨n + 1, p, 1, 1, 1, _, by omega, rfl, rfl, rfl, rfl, by go_num, by rw [hG.out] at q2; exact q2, hM.turn hT⟩
                case measure => simp [intOf]; omega
            · have hq : ((1 : Int) == first) = true := by
                unfold atLeast1 at q1; rw [if_neg hf] at q1; simp; omega
              clear q1
              by_cases hgp : gapv every bo 1 < 1
              · have hG : Hid (G every bo 1 = 1) := by unfold G; rw [if_pos hgp]; rfl
                go_wp2_with (first | (go_at_call 20; refine (hg _ (by omega) (by omega) e0 e1).mono ?_; rintro e w2 ⟨rfl, rfl⟩) | (go_at_call 21; refine (cy _).mono ?_; rintro e w2 ⟨rfl, hT⟩))
                go_roundw
                case rel => exact ⟨n + 1, p, 1, 1, 1, _, by omega, rfl, rfl, rfl, rfl, by go_num, by rw [hG.out, wrap_id (by omega) (by omega)] at q2; exact q2, hM.turn hT⟩
                case measure => simp [intOf]; omega
              · have hG : Hid (G every bo 1 = gapv every bo 1) := by unfold G; rw [if_neg hgp]; rfl
                go_wp2_with (first | (go_at_call 20; refine (hg _ (by omega) (by omega) e0 e1).mono ?_; rintro e w2 ⟨rfl, rfl⟩) | (go_at_call 21; refine (cy _).mono ?_; rintro e w2 ⟨rfl, hT⟩))
                go_roundw
                case rel => exact ⟨n + 1, p, 1, 1, 1, _, by omega, rfl, rfl, rfl, rfl, by go_num, by rw [hG.out] at q2; exact q2, hM.turn hT⟩
                case measure => simp [intOf]; omega
    · go_wp2
      go_ret
      exact ⟨rfl, hM.2.2.2.2.2⟩
end Go.Proofs.Qxb6000359a
