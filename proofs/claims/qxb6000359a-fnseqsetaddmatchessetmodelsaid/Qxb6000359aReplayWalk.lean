import Derived.Test.Qxb6000359aSeqMath
namespace Go.Proofs.Qxb6000359a
open Go.RowKit

theorem below_drewN1 (B : Nat) (w : World) (n : Nat) : Below B w (w.drewN n) := ⟨rfl, rfl, rfl, Nat.le_refl _, fun _ _ => rfl⟩

/-- ONE SET AND TWO ROWS IN MEMORY. -/
structure Mem5 (W : World) (g1 g2 Q len1 len2 : Nat) (I S J R : Nat → Int) (M c : Nat) (inc : Int) (T : Int → Bool) (wr : World) : Prop where
  bel : Below W.heap.size W wr
  bQ : W.heap.size ≤ Q
  bM : W.heap.size ≤ M
  g1Q : g1 ≠ Q
  g2Q : g2 ≠ Q
  set : SeqAt wr Q M c inc T
  row1 : Row wr g1 len1 I S
  row2 : Row wr g2 len2 J R

theorem Row.neM {w : World} {g len Q M c : Nat} {I S : Nat → Int} {inc : Int} {T : Int → Bool} (h : Row w g len I S) (hs : SeqAt w Q M c inc T) (hl : 0 < len) : g ≠ M ∧ g < w.heap.size := by
  obtain ⟨f, hr, _⟩ := h hl
  obtain ⟨cs, hcs⟩ : ∃ cs, w.heap[g]? = some (.cells cs 30 (0, 0)) := by
    obtain ⟨cs, h1, _⟩ := hr
    exact ⟨cs, h1⟩
  exact ⟨fun e => hs.ne_cells hcs e.symm, lt_of_block hcs⟩

section
variable {W : World} {g1 g2 Q len1 len2 : Nat} {I S J R : Nat → Int} {M c : Nat} {inc : Int} {T : Int → Bool} {wr : World}
theorem Mem5.grow (h : Mem5 W g1 g2 Q len1 len2 I S J R M c inc T wr) {w' : World} (hb : Below wr.heap.size wr w') : Mem5 W g1 g2 Q len1 len2 I S J R M c inc T w' :=
  ⟨h.bel.trans (hb.mono h.bel.size), h.bQ, h.bM, h.g1Q, h.g2Q, h.set.of_blocks (hb.block _ h.set.lts.1) (hb.block _ h.set.lts.2), h.row1.of_block (fun hl => hb.block _ (h.row1 hl).lt), h.row2.of_block (fun hl => hb.block _ (h.row2 hl).lt)⟩
theorem Mem5.add (h : Mem5 W g1 g2 Q len1 len2 I S J R M c inc T wr) {w' : World} {M' c' : Nat} {inc' : Int} {T' : Int → Bool} (ha : SeqAt w' Q M' c' inc' T') (hM : M' = M ∨ wr.heap.size ≤ M') (k : Keep Q M wr w') :
    Mem5 W g1 g2 Q len1 len2 I S J R M' c' inc' T' w' := by
  have hs := h.bel.size
  have := h.bM
  refine ⟨k.below h.bel hs h.bQ h.bM, h.bQ, ?_, h.g1Q, h.g2Q, ha, h.row1.of_block (fun hl => k.block _ (h.row1.neM h.set hl).2 h.g1Q (h.row1.neM h.set hl).1), h.row2.of_block (fun hl => k.block _ (h.row2.neM h.set hl).2 h.g2Q (h.row2.neM h.set hl).1)⟩
  rcases hM with e | e <;> omega
/-- a store into a block of cells of the call's own, none of these -/
theorem Mem5.other (h : Mem5 W g1 g2 Q len1 len2 I S J R M c inc T wr) {w' : World} {G : Nat} (hg : wr.grownBy w' (some G)) (hG : W.heap.size ≤ G) (hQ : G ≠ Q) (hM : G ≠ M) (h1 : G ≠ g1) (h2 : G ≠ g2) : Mem5 W g1 g2 Q len1 len2 I S J R M c inc T w' := by
  refine ⟨h.bel.grown hg h.bel.size (fun k hk => by cases hk; exact hG), h.bQ, h.bM, h.g1Q, h.g2Q, h.set.of_blocks (hg.block _ h.set.lts.1 (by simpa using hQ.symm)) (hg.block _ h.set.lts.2 (by simpa using hM.symm)),
    h.row1.of_block (fun hl => hg.block _ (h.row1 hl).lt (by simpa using h1.symm)), h.row2.of_block (fun hl => hg.block _ (h.row2 hl).lt (by simpa using h2.symm))⟩
end

theorem Mem5.start {w w1 w2 : World} {len1 len2 : Nat} {I S J R : Nat → Int} (hb1 : Below w.heap.size w w1) (hb2 : Below w1.heap.size w1 w2) (hr1 : Row w1 w.heap.size len1 I S) (hr2 : Row w2 w1.heap.size len2 J R) :
    Mem5 w w.heap.size w1.heap.size (w2.heap.size + 1) len1 len2 I S J R w2.heap.size 0 0 zeroT ((w2.alloc (.map #[] 0)).alloc (.cells (seqC 0 0 w2.heap.size) 67)) := by
  have s1 := hb1.size
  have s2 := hb2.size
  have hb : Below w2.heap.size w2 ((w2.alloc (.map #[] 0)).alloc (.cells (seqC 0 0 w2.heap.size) 67)) := ((Below.refl _ _).alloc (Nat.le_refl _) _).alloc (by simp) _
  exact ⟨(hb1.trans (hb2.mono s1)).trans (hb.mono (by omega)), by omega, by omega, by omega, by omega, SeqAt.made w2,
    (hr1.of_block (fun hl => hb2.block _ (hr1 hl).lt)).of_block (fun hl => hb.block _ (Nat.lt_of_lt_of_le (hr1 hl).lt s2)), hr2.of_block (fun hl => hb.block _ (hr2 hl).lt)⟩

theorem Row.c0 {w : World} {g len : Nat} {I S : Nat → Int} (h : Row w g len I S) {k : Nat} (hk : k < len) : w.cell? ⟨g, k * 2, none⟩ = some (.int .u64 (I k)) := (h (by omega)).cell0 hk (Nat.le_refl _)
theorem Row.c1 {w : World} {g len : Nat} {I S : Nat → Int} (h : Row w g len I S) {k : Nat} (hk : k < len) : w.cell? ⟨g, k * 2 + 1, none⟩ = some (.int .u64 (S k)) := (h (by omega)).cell1 hk (Nat.le_refl _)

/-- The row of answers: the first n are F. -/
def Bf (w : World) (G len n : Nat) (F : Nat → Bool) : Prop := ∃ f, w.rowIs G 4 len f ∧ ∀ j, j < n → f j = .bool (F j)
section
variable {w : World} {G len n : Nat} {F : Nat → Bool}
theorem Bf.of_block {w' : World} (h : Bf w G len n F) (e : w'.heap[G]? = w.heap[G]?) : Bf w' G len n F := by
  obtain ⟨f, hr, hf⟩ := h
  exact ⟨f, hr.of_block e, hf⟩
theorem Bf.lt (h : Bf w G len n F) : G < w.heap.size := by
  obtain ⟨f, hr, hf⟩ := h
  exact hr.lt
theorem Bf.cells (h : Bf w G len n F) : ∃ cs, w.heap[G]? = some (.cells cs 4 (0, 0)) := by
  obtain ⟨f, ⟨cs, h1, _⟩, hf⟩ := h
  exact ⟨cs, h1⟩
theorem Bf.cell (h : Bf w G len n F) {j : Nat} (hj : j < n) (hl : n ≤ len) : w.cell? ⟨G, j, none⟩ = some (.bool (F j)) := by
  obtain ⟨f, hr, hf⟩ := h
  rw [hr.cell (by omega), hf j hj]
theorem Bf.some (h : Bf w G len n F) {j : Nat} (hj : j < len) : ∃ v, w.cell? ⟨G, j, none⟩ = some v := by
  obtain ⟨f, hr, hf⟩ := h
  exact ⟨_, hr.cell hj⟩
theorem Bf.free (h : Bf w G len n F) (j : Nat) : w.frozen? ⟨G, j, none⟩ = false := by
  obtain ⟨f, hr, hf⟩ := h
  exact hr.frozen j
theorem Bf.store (h : Bf w G len n F) : Bf (w.setCell ⟨G, n, none⟩ (.bool (F n))) G len (n + 1) F := by
  obtain ⟨f, hr, hf⟩ := h
  refine ⟨_, hr.set n (.bool (F n)), fun j hj => ?_⟩
  by_cases e : j = n
  · subst e; simp
  · simp only [if_neg e]; exact hf j (by omega)
end
theorem Bf.made (w : World) (len : Nat) (F : Nat → Bool) : Bf (w.alloc (.cells (madeCells #[.bool false] len) 4)) w.heap.size len 0 F :=
  ⟨_, World.rowIs_made w (.bool false) len 4, fun _ hj => absurd hj (Nat.not_lt_zero _)⟩

theorem grownBy_set1 (w : World) (G o : Nat) (v : Value) : w.grownBy (w.setCell ⟨G, o, none⟩ v) (some G) :=
  ⟨rfl, rfl, rfl, by simp, fun k _ hk => Below.heap_setCell _ _ _ _ (by intro e; exact hk (by rw [e]))⟩

theorem info4 : (Try.prog.info? 4).map (fun i => (i.zero, i.size, i.bytes)) = some (some (.bool false), 1, 1) := by kernel_rfl

set_option maxRecDepth 100000 in
set_option maxHeartbeats 4000000 in
theorem replay_walk (ad1 ad2 : Option Addr) (len1 cap1 len2 cap2 : Nat) (I S J R : Nat → Int) (w : World) (hl : len1 + len2 ≤ 65536)
    (h1 : IsPairs w ad1 len1 cap1 (fun i => .int .u64 (I i)) (fun i => .int .u64 (S i))) (h2 : IsPairs w ad2 len2 cap2 (fun i => .int .u64 (J i)) (fun i => .int .u64 (R i)))
    (b1 : ∀ i, i < len1 → (0 ≤ I i ∧ I i ≤ 18446744073709551615) ∧ 0 ≤ S i ∧ S i ≤ 18446744073709551615) (b2 : ∀ i, i < len2 → (0 ≤ J i ∧ J i ≤ 18446744073709551615) ∧ 0 ≤ R i ∧ R i ≤ 18446744073709551615) :
    Calls Try.prog 5 #[.slice ad1 len1 cap1, .slice ad2 len2 cap2] w fun e w' => e = .returned (.bool true) ∧ Below w.heap.size w w' := by
  have ct1 := copyReqs_all ad1 len1 cap1 I S w (by omega) h1
  have ct2 := fun w1 (hb : Below w.heap.size w w1) => copyReqs_all ad2 len2 cap2 J R w1 (by omega) (h2.below hb)
  clear h1 h2
  have hmk := run_make_row' (P := Try.prog) 33 4 (.bool false) 1 Try.underlying33 info4 rfl .i64 .i64 len2 (by omega) (by omega)
  go_enter Try.func5, Try.ntmps5
  go_wp2_with (first | (go_at_call 11; go_at_call_of 11 cap1; refine ct1.mono ?_; rintro e w1 ⟨d1, cp1, rfl, hd1, hb1, hr1⟩) | (go_at_call 11; refine (ct2 _ hb1).mono ?_; rintro e w2 ⟨d2, cp2, rfl, hd2, hb2, hr2⟩) | (go_at_call 12; refine (new_any _).mono ?_; rintro e w' ⟨rfl, rfl⟩) | go_in)
  have hst := Mem5.start hb1 hb2 hr1 hr2
  have hz1 := hb1.size
  have hz2 := hb2.size
  clear ct1 ct2 hb1 hb2 hr1 hr2
  go_loopw [6] (fun s6 wr => ∃ (k M c : Nat) (inc : Int) (T : Int → Bool), k ≤ len1 ∧ s6 = .int .i64 k ∧ c ≤ k ∧ Seen I S (fun j => j < k) inc T ∧ Mem5 w w.heap.size w1.heap.size (w2.heap.size + 1) len1 len2 I S J R M c inc T wr ∧ w2.heap.size + 1 < wr.heap.size) (fun s6 _ => len1 - (intOf s6).toNat)
  case atStart => exact ⟨0, _, 0, _, _, Nat.zero_le _, rfl, Nat.le_refl _, Seen.start I S _ (fun j => Nat.not_lt_zero j), hst, by simp⟩
  case round =>
    clear hst
    obtain ⟨k, M, c, inc, T, hk, rfl, hc, hS, hM, hsz⟩ := hrel
    by_cases hlt : k < len1
    · obtain rfl := hd1 (by omega)
      have c0 := hM.row1.c0 hlt
      have c1 := hM.row1.c1 hlt
      obtain ⟨⟨i0, i1⟩, s0, s1⟩ := b1 k hlt
      have hMd := hM.grow (Below.refl _ _).drew
      cases hm : memB inc T (I k) (S k)
      · have ct := seqAdd_yes (w2.heap.size + 1) M c inc (I k) (S k) T wr.drew hMd.set s0 s1 (by omega) hm
        have hS' : Seen I S (fun j => j < k + 1) (I k) (addT inc T (I k) (S k)) := hS.yes (fun j => by omega) hm
        have HM : Hid (memB inc T (I k) (S k) = false) := hm
        clear hm hS
        go_wp2_with fail
        go_region_held3 (fun w' => w'.cell? ⟨w.heap.size, k * 2, none⟩ = some (.int .u64 (I k)) ∧ w'.cell? ⟨w.heap.size, k * 2 + 1, none⟩ = some (.int .u64 (S k))) (first | exact ⟨by assumption, by assumption⟩ | (simp [go_sem, c0, c1]; done))
          (first | (go_at_call 14; refine ct.mono ?_; rintro e w' ⟨rfl, M', ha, hMa, hkp⟩; have hM2 := hMd.add ha hMa hkp; have z0 := hM2.row1.c0 hlt; have z1 := hM2.row1.c1 hlt; have z2 := hkp.size))
        go_wp2
        go_roundw
        case rel => exact ⟨k + 1, M', c + 1, _, _, by omega, by go_num, by omega, hS', hM2, Nat.lt_of_lt_of_le hsz z2⟩
        case measure => simp [intOf]; omega
      · have ct := seqAdd_no (w2.heap.size + 1) M c inc (I k) (S k) T wr.drew hMd.set s0 s1 hm
        have hS' : Seen I S (fun j => j < k + 1) inc T := hS.no (fun j => by omega) hm
        have HM : Hid (memB inc T (I k) (S k) = true) := hm
        clear hm hS
        go_wp2_with fail
        go_region_held3 (fun w' => w'.cell? ⟨w.heap.size, k * 2, none⟩ = some (.int .u64 (I k)) ∧ w'.cell? ⟨w.heap.size, k * 2 + 1, none⟩ = some (.int .u64 (S k))) (first | exact ⟨by assumption, by assumption⟩ | (simp [go_sem, c0, c1]; done))
          (first | (go_at_call 14; refine ct.mono ?_; rintro e w' ⟨rfl, ha, hkp⟩; have hM2 := hMd.add ha (Or.inl rfl) hkp; have z0 := hM2.row1.c0 hlt; have z1 := hM2.row1.c1 hlt; have z2 := hkp.size))
        go_wp2
        go_roundw
        case rel => exact ⟨k + 1, M, c, _, _, by omega, by go_num, by omega, hS', hM2, Nat.lt_of_lt_of_le hsz z2⟩
        case measure => simp [intOf]; omega
    · obtain rfl : k = len1 := by omega
      go_wp2_with fail
      obtain ⟨wo, rfl⟩ : ∃ wo : World, wo = wr := ⟨_, rfl⟩
      have hM0 := hM.grow ((Below.refl _ _).alloc (Nat.le_refl _) (.cells (madeCells #[.bool false] len2) 4))
      have hB0 := Bf.made wo len2 (fun j => memB inc T (J j) (R j))
      have hMl := hM.set.lts.2
      clear hM hlt hk
      go_loopw [8] (fun s8 wr => ∃ n : Nat, n ≤ len2 ∧ s8 = .int .i64 n ∧ Mem5 w w.heap.size w1.heap.size (w2.heap.size + 1) k len2 I S J R M c inc T wr ∧ Bf wr wo.heap.size len2 n (fun j => memB inc T (J j) (R j))) (fun s8 _ => len2 - (intOf s8).toNat)
      case atStart => exact ⟨0, Nat.zero_le _, rfl, hM0, hB0⟩
      case round =>
        clear hM0 hB0
        obtain ⟨n, hn, rfl, hM, hB⟩ := hrel
        by_cases hlt : n < len2
        · obtain rfl := hd2 (by omega)
          have c0 := hM.row2.c0 hlt
          have c1 := hM.row2.c1 hlt
          obtain ⟨⟨i0, i1⟩, s0, s1⟩ := b2 n hlt
          have hMd := hM.grow (Below.refl _ _).drew
          have ct := seqHas (w2.heap.size + 1) M c inc (J n) (R n) T wr.drew hMd.set s0 s1
          obtain ⟨bb, hbb⟩ : ∃ bb, Hid (bb = memB inc T (J n) (R n)) := ⟨_, rfl⟩
          rw [← hbb.out] at ct
          have hg2 : w1.heap.size < wr.heap.size := (hM.row2.neM hM.set (by omega)).2
          have hGl := hB.lt
          obtain ⟨x0, e0⟩ := hB.some hlt
          have f0 := hB.free n
          go_wp2_with fail
          go_region_held3 (fun w' => w'.cell? ⟨w1.heap.size, n * 2, none⟩ = some (.int .u64 (J n)) ∧ w'.cell? ⟨w1.heap.size, n * 2 + 1, none⟩ = some (.int .u64 (R n))) (first | exact ⟨by assumption, by assumption⟩ | (simp [go_sem, c0, c1, hg2, World.cell?_alloc_past]; done))
            (first | (go_at_call 15; refine ct.mono ?_; rintro e w' ⟨rfl, cc, kk, rfl⟩))
          go_wp2
          go_roundw
          case rel =>
            refine ⟨n + 1, by omega, by go_num, ((hM.grow ((Below.refl _ _).alloc (Nat.le_refl _) (.cells cc 70))).grow (below_drewN1 _ _ _)).other (grownBy_set1 _ _ _ _) (by omega) (by omega) (by omega) (by omega) (by omega), ?_⟩
            rw [hbb.out]
            exact ((hB.of_block (w' := wr.alloc (.cells cc 70)) (Below.heap_alloc _ _ _ hGl)).of_block (w' := (wr.alloc (.cells cc 70)).drewN (1 + kk)) rfl).store
          case measure => simp [intOf]; omega
        · obtain rfl : n = len2 := by omega
          have hM0 := hM
          have hB0 := hB
          clear hM hB hlt hn
          go_wp2_with fail
          go_loopw [9] (fun s9 wr => ∃ j : Nat, j ≤ k ∧ s9 = .int .i64 j ∧ Mem5 w w.heap.size w1.heap.size (w2.heap.size + 1) k n I S J R M c inc T wr ∧ Bf wr wo.heap.size n n (fun j => memB inc T (J j) (R j))) (fun s9 _ => k - (intOf s9).toNat)
          case atStart => exact ⟨0, Nat.zero_le _, rfl, hM0, hB0⟩
          case round =>
            clear hM0 hB0
            obtain ⟨j, hj, rfl, hM, hB⟩ := hrel
            by_cases hlt : j < k
            · obtain rfl := hd1 (by omega)
              have c0 := hM.row1.c0 hlt
              have c1 := hM.row1.c1 hlt
              obtain ⟨⟨i0, i1⟩, s0, s1⟩ := b1 j hlt
              have hMd := hM.grow (Below.refl _ _).drew
              have ct := seqAdd_no (w2.heap.size + 1) M c inc (I j) (S j) T wr.drew hMd.set s0 s1 (hS.mem hlt)
              have hGl := hB.lt
              go_wp2_with fail
              go_region_held3 (fun w' => w'.cell? ⟨w.heap.size, j * 2, none⟩ = some (.int .u64 (I j)) ∧ w'.cell? ⟨w.heap.size, j * 2 + 1, none⟩ = some (.int .u64 (S j))) (first | exact ⟨by assumption, by assumption⟩ | (simp [go_sem, c0, c1]; done))
                (first | (go_at_call 14; refine ct.mono ?_; rintro e w' ⟨rfl, ha, hkp⟩; have hM2 := hMd.add ha (Or.inl rfl) hkp; have z0 := hM2.row1.c0 hlt; have z1 := hM2.row1.c1 hlt))
              go_wp2
              go_roundw
              case rel => exact ⟨j + 1, by omega, by go_num, hM2, hB.of_block (hkp.block _ hGl (by omega) (by omega))⟩
              case measure => simp [intOf]; omega
            · have hM0 := hM
              have hB0 := hB
              clear hM hB
              go_wp2_with fail
              go_loopw [10] (fun s10 wr => ∃ m : Nat, m ≤ n ∧ s10 = .int .i64 m ∧ Mem5 w w.heap.size w1.heap.size (w2.heap.size + 1) k n I S J R M c inc T wr ∧ Bf wr wo.heap.size n n (fun j => memB inc T (J j) (R j))) (fun s10 _ => n - (intOf s10).toNat)
              case atStart => exact ⟨0, Nat.zero_le _, rfl, hM0, hB0⟩
              case round =>
                clear hM0 hB0
                obtain ⟨m, hm, rfl, hM, hB⟩ := hrel
                by_cases hlt2 : m < n
                · obtain rfl := hd2 (by omega)
                  have c0 := hM.row2.c0 hlt2
                  have c1 := hM.row2.c1 hlt2
                  have c2 := hB.cell hlt2 (Nat.le_refl _)
                  obtain ⟨⟨i0, i1⟩, s0, s1⟩ := b2 m hlt2
                  have hMd := hM.grow (Below.refl _ _).drew
                  have ct := seqHas (w2.heap.size + 1) M c inc (J m) (R m) T wr.drew hMd.set s0 s1
                  generalize memB inc T (J m) (R m) = bb at ct c2
                  have hg2 : w1.heap.size < wr.heap.size := (hM.row2.neM hM.set (by omega)).2
                  have hGl := hB.lt
                  go_wp2_with fail
                  go_region_held3 (fun w' => w'.cell? ⟨w1.heap.size, m * 2, none⟩ = some (.int .u64 (J m)) ∧ w'.cell? ⟨w1.heap.size, m * 2 + 1, none⟩ = some (.int .u64 (R m)) ∧ w'.cell? ⟨wo.heap.size, m, none⟩ = some (.bool bb)) (simp [go_sem, c0, c1, c2, hg2, hGl, World.cell?_alloc_past])
                    (first | (go_at_call 15; refine ct.mono ?_; rintro e w' ⟨rfl, cc, kk, rfl⟩))
                  go_wp2
                  go_roundw
                  case rel => exact ⟨m + 1, by omega, by go_num, (hM.grow ((Below.refl _ _).alloc (Nat.le_refl _) (.cells cc 70))).grow (below_drewN1 _ _ _), hB.of_block (Below.heap_alloc _ _ _ hGl)⟩
                  case measure => simp [intOf]; omega
                · go_wp2
                  go_ret
                  exact ⟨rfl, hM.bel⟩
end Go.Proofs.Qxb6000359a
