import Derived.Test.Qxb6000359aSeqMath
namespace Go.Proofs.Qxb6000359a
open Go.RowKit

/-- TWO SETS AND TWO ROWS IN MEMORY: the sets at (Qa, Ma) and (Qb, Mb), the rows at g1 and g2; what was there is as it was. -/
structure Two (W : World) (B g1 g2 Qa Ma Qb Mb : Nat) (wr : World) : Prop where
  bel : Below B W wr
  size : B ≤ wr.heap.size
  bQa : B ≤ Qa
  bMa : B ≤ Ma
  bQb : B ≤ Qb
  bMb : B ≤ Mb
  lMa : Ma < wr.heap.size
  lMb : Mb < wr.heap.size
  q : Qa ≠ Qb
  m : Ma ≠ Mb
  g1a : g1 ≠ Qa
  g1b : g1 ≠ Qb
  g2a : g2 ≠ Qa
  g2b : g2 ≠ Qb

theorem Two.swap {W : World} {B g1 g2 Qa Ma Qb Mb : Nat} {wr : World} (h : Two W B g1 g2 Qa Ma Qb Mb wr) : Two W B g1 g2 Qb Mb Qa Ma wr :=
  ⟨h.bel, h.size, h.bQb, h.bMb, h.bQa, h.bMa, h.lMb, h.lMa, h.q.symm, h.m.symm, h.g1b, h.g1a, h.g2b, h.g2a⟩

theorem Row.ne {w : World} {g len Q M c : Nat} {I S : Nat → Int} {inc : Int} {T : Int → Bool} (h : Row w g len I S) (hs : SeqAt w Q M c inc T) (hl : 0 < len) : g ≠ M ∧ g < w.heap.size := by
  obtain ⟨f, hr, _⟩ := h hl
  obtain ⟨cs, hcs⟩ : ∃ cs, w.heap[g]? = some (.cells cs 30 (0, 0)) := by
    obtain ⟨cs, h1, _⟩ := hr
    exact ⟨cs, h1⟩
  exact ⟨fun e => hs.ne_cells hcs e.symm, lt_of_block hcs⟩

theorem SeqAt.ne_seq {w : World} {Q M c Q' M' c' : Nat} {inc inc' : Int} {T T' : Int → Bool} (h : SeqAt w Q M c inc T) (h' : SeqAt w Q' M' c' inc' T') : Q ≠ M' := by
  obtain ⟨n, low, S, h1, r⟩ := h
  exact fun e => h'.ne_cells h1.1 e.symm

/-- Nothing that was there turned. -/
theorem Two.grow {W : World} {B g1 g2 Qa Ma Qb Mb : Nat} {wr w' : World} (h : Two W B g1 g2 Qa Ma Qb Mb wr) (hb : Below wr.heap.size wr w') : Two W B g1 g2 Qa Ma Qb Mb w' :=
  ⟨h.bel.trans (hb.mono h.size), Nat.le_trans h.size hb.size, h.bQa, h.bMa, h.bQb, h.bMb, Nat.lt_of_lt_of_le h.lMa hb.size, Nat.lt_of_lt_of_le h.lMb hb.size, h.q, h.m, h.g1a, h.g1b, h.g2a, h.g2b⟩
theorem SeqAt.grow {w w' : World} {Q M c : Nat} {inc : Int} {T : Int → Bool} (h : SeqAt w Q M c inc T) (hb : Below w.heap.size w w') : SeqAt w' Q M c inc T := h.of_blocks (hb.block _ h.lts.1) (hb.block _ h.lts.2)
theorem Row.grow {w w' : World} {g len : Nat} {I S : Nat → Int} (h : Row w g len I S) (hb : Below w.heap.size w w') : Row w' g len I S := h.of_block fun hl => hb.block _ (h hl).lt

/-- An add to the first set. -/
theorem Two.add {W : World} {B g1 g2 Qa Ma Qb Mb Ma' : Nat} {wr w' : World} (h : Two W B g1 g2 Qa Ma Qb Mb wr) (k : Keep Qa Ma wr w') (hM : Ma' = Ma ∨ wr.heap.size ≤ Ma') (lt : Ma' < w'.heap.size) : Two W B g1 g2 Qa Ma' Qb Mb w' := by
  have := h.size
  have := h.lMb
  have := h.bMa
  refine ⟨k.below h.bel h.size h.bQa h.bMa, Nat.le_trans h.size k.size, h.bQa, ?_, h.bQb, h.bMb, lt, Nat.lt_of_lt_of_le h.lMb k.size, h.q, ?_, h.g1a, h.g1b, h.g2a, h.g2b⟩
  · rcases hM with e | e <;> omega
  · rcases hM with e | e
    · rw [e]; exact h.m
    · omega
theorem SeqAt.other {w w' : World} {Qa Ma Q M ca c : Nat} {inca inc : Int} {Ta T : Int → Bool} (h : SeqAt w Q M c inc T) (ha : SeqAt w Qa Ma ca inca Ta) (k : Keep Qa Ma w w') (hq : Qa ≠ Q) (hm : Ma ≠ M) : SeqAt w' Q M c inc T :=
  h.of_blocks (k.block _ h.lts.1 hq.symm (h.ne_seq ha)) (k.block _ h.lts.2 (ha.ne_seq h).symm hm.symm)
theorem Row.other {w w' : World} {Qa Ma ca g len : Nat} {inca : Int} {Ta : Int → Bool} {I S : Nat → Int} (h : Row w g len I S) (ha : SeqAt w Qa Ma ca inca Ta) (k : Keep Qa Ma w w') (hg : g ≠ Qa) : Row w' g len I S :=
  h.of_block fun hl => k.block _ (h.ne ha hl).2 hg (h.ne ha hl).1

theorem Row.cell0 {w : World} {g len : Nat} {I S : Nat → Int} (h : Row w g len I S) {k : Nat} (hk : k < len) : w.cell? ⟨g, k * 2, none⟩ = some (.int .u64 (I k)) := (h (by omega)).cell0 hk (Nat.le_refl _)
theorem Row.cell1 {w : World} {g len : Nat} {I S : Nat → Int} (h : Row w g len I S) {k : Nat} (hk : k < len) : w.cell? ⟨g, k * 2 + 1, none⟩ = some (.int .u64 (S k)) := (h (by omega)).cell1 hk (Nat.le_refl _)

theorem below_drewN (B : Nat) (w : World) (n : Nat) : Below B w (w.drewN n) := ⟨rfl, rfl, rfl, Nat.le_refl _, fun _ _ => rfl⟩

/-- The memory of the law: two sets, two rows. -/
def Mem4 (W : World) (g1 g2 Qa Qb len1 len2 : Nat) (I S J R : Nat → Int) (Ma Mb ca cb : Nat) (inca incb : Int) (Ta Tb : Int → Bool) (wr : World) : Prop :=
  Two W W.heap.size g1 g2 Qa Ma Qb Mb wr ∧ SeqAt wr Qa Ma ca inca Ta ∧ SeqAt wr Qb Mb cb incb Tb ∧ Row wr g1 len1 I S ∧ Row wr g2 len2 J R

section
variable {W : World} {g1 g2 Qa Qb len1 len2 : Nat} {I S J R : Nat → Int} {Ma Mb ca cb : Nat} {inca incb : Int} {Ta Tb : Int → Bool} {wr : World}
theorem Mem4.grow (h : Mem4 W g1 g2 Qa Qb len1 len2 I S J R Ma Mb ca cb inca incb Ta Tb wr) {w' : World} (hb : Below wr.heap.size wr w') : Mem4 W g1 g2 Qa Qb len1 len2 I S J R Ma Mb ca cb inca incb Ta Tb w' :=
  ⟨h.1.grow hb, h.2.1.grow hb, h.2.2.1.grow hb, h.2.2.2.1.grow hb, h.2.2.2.2.grow hb⟩
theorem Mem4.addA (h : Mem4 W g1 g2 Qa Qb len1 len2 I S J R Ma Mb ca cb inca incb Ta Tb wr) {w' : World} {Ma' ca' : Nat} {inca' : Int} {Ta' : Int → Bool} (ha : SeqAt w' Qa Ma' ca' inca' Ta') (hM : Ma' = Ma ∨ wr.heap.size ≤ Ma') (k : Keep Qa Ma wr w') :
    Mem4 W g1 g2 Qa Qb len1 len2 I S J R Ma' Mb ca' cb inca' incb Ta' Tb w' :=
  ⟨h.1.add k hM ha.lts.2, ha, h.2.2.1.other h.2.1 k h.1.q h.1.m, h.2.2.2.1.other h.2.1 k h.1.g1a, h.2.2.2.2.other h.2.1 k h.1.g2a⟩
theorem Mem4.swap (h : Mem4 W g1 g2 Qa Qb len1 len2 I S J R Ma Mb ca cb inca incb Ta Tb wr) : Mem4 W g1 g2 Qb Qa len1 len2 I S J R Mb Ma cb ca incb inca Tb Ta wr :=
  ⟨h.1.swap, h.2.2.1, h.2.1, h.2.2.2.1, h.2.2.2.2⟩
end

theorem Mem4.start {w w1 w2 : World} {len1 len2 : Nat} {I S J R : Nat → Int} (hb1 : Below w.heap.size w w1) (hb2 : Below w1.heap.size w1 w2) (hr1 : Row w1 w.heap.size len1 I S) (hr2 : Row w2 w1.heap.size len2 J R) :
    Mem4 w w.heap.size w1.heap.size (w2.heap.size + 1) (w2.heap.size + 1 + 1 + 1) len1 len2 I S J R w2.heap.size (w2.heap.size + 1 + 1) 0 0 0 0 zeroT zeroT
      ((((w2.alloc (.map #[] 0)).alloc (.cells (seqC 0 0 w2.heap.size) 67)).alloc (.map #[] 0)).alloc (.cells (seqC 0 0 (w2.heap.size + 1 + 1)) 67)) := by
  have s1 := hb1.size
  have s2 := hb2.size
  have hb : Below w2.heap.size w2 ((((w2.alloc (.map #[] 0)).alloc (.cells (seqC 0 0 w2.heap.size) 67)).alloc (.map #[] 0)).alloc (.cells (seqC 0 0 (w2.heap.size + 1 + 1)) 67)) :=
    ((((Below.refl _ _).alloc (Nat.le_refl _) _).alloc (by simp) _).alloc (by simp; omega) _).alloc (by simp; omega) _
  refine ⟨⟨?_, ?_, by omega, by omega, by omega, by omega, by simp; omega, by simp, by omega, by omega, by omega, by omega, by omega, by omega⟩, ?_, ?_, ?_, ?_⟩
  · exact (hb1.trans (hb2.mono s1)).trans (hb.mono (by omega))
  · simp; omega
  · exact ((SeqAt.made w2).alloc _).alloc _
  · have := SeqAt.made ((w2.alloc (.map #[] 0)).alloc (.cells (seqC 0 0 w2.heap.size) 67))
    simpa using this
  · exact (hr1.grow hb2).grow hb
  · exact hr2.grow hb

set_option maxRecDepth 100000 in
set_option maxHeartbeats 4000000 in
theorem order_walk (ad1 ad2 : Option Addr) (len1 cap1 len2 cap2 : Nat) (I S J R : Nat → Int) (w : World) (hl : len1 + len2 ≤ 65536)
    (h1 : IsPairs w ad1 len1 cap1 (fun i => .int .u64 (I i)) (fun i => .int .u64 (S i))) (h2 : IsPairs w ad2 len2 cap2 (fun i => .int .u64 (J i)) (fun i => .int .u64 (R i)))
    (b1 : ∀ i, i < len1 → (0 ≤ I i ∧ I i ≤ 18446744073709551615) ∧ 0 ≤ S i ∧ S i ≤ 18446744073709551615) (b2 : ∀ i, i < len2 → (0 ≤ J i ∧ J i ≤ 18446744073709551615) ∧ 0 ≤ R i ∧ R i ≤ 18446744073709551615) :
    Calls Try.prog 4 #[.slice ad1 len1 cap1, .slice ad2 len2 cap2] w fun e w' => e = .returned (.bool true) ∧ Below w.heap.size w w' := by
  have ct1 := copyReqs_all ad1 len1 cap1 I S w (by omega) h1
  have ct2 := fun w1 (hb : Below w.heap.size w w1) => copyReqs_all ad2 len2 cap2 J R w1 (by omega) (h2.below hb)
  clear h1 h2
  go_enter Try.func4, Try.ntmps4
  go_wp2_with (first | (go_at_call 11; go_at_call_of 11 cap1; refine ct1.mono ?_; rintro e w1 ⟨d1, cp1, rfl, hd1, hb1, hr1⟩) | (go_at_call 11; refine (ct2 _ hb1).mono ?_; rintro e w2 ⟨d2, cp2, rfl, hd2, hb2, hr2⟩) | (go_at_call 12; refine (new_any _).mono ?_; rintro e w' ⟨rfl, rfl⟩) | go_in)
  have hst := Mem4.start hb1 hb2 hr1 hr2
  clear ct1 ct2 hb1 hb2 hr1 hr2
  go_loopw [7] (fun s7 wr => ∃ (k Ma ca : Nat) (inca : Int) (Ta : Int → Bool), k ≤ len1 ∧ s7 = .int .i64 k ∧ ca ≤ k ∧ Seen I S (fun j => j < k) inca Ta ∧ Mem4 w w.heap.size w1.heap.size (w2.heap.size + 1) (w2.heap.size + 1 + 1 + 1) len1 len2 I S J R Ma (w2.heap.size + 1 + 1) ca 0 inca 0 Ta zeroT wr) (fun s7 _ => len1 - (intOf s7).toNat)
  case atStart => exact ⟨0, _, 0, _, _, Nat.zero_le _, rfl, Nat.le_refl _, Seen.start I S _ (fun j => Nat.not_lt_zero j), hst⟩
  case round =>
    clear hst
    obtain ⟨k, Ma, ca, inca, Ta, hk, rfl, hca, hS, hM⟩ := hrel
    by_cases hlt : k < len1
    · obtain rfl := hd1 (by omega)
      have c0 := hM.2.2.2.1.cell0 hlt
      have c1 := hM.2.2.2.1.cell1 hlt
      obtain ⟨⟨i0, i1⟩, s0, s1⟩ := b1 k hlt
      have hMd : Mem4 w w.heap.size w1.heap.size (w2.heap.size + 1) (w2.heap.size + 1 + 1 + 1) len1 len2 I S J R Ma (w2.heap.size + 1 + 1) ca 0 inca 0 Ta zeroT wr.drew := hM.grow (Below.refl _ _).drew
      cases hm : memB inca Ta (I k) (S k)
      · have ct := seqAdd_yes (w2.heap.size + 1) Ma ca inca (I k) (S k) Ta wr.drew hMd.2.1 s0 s1 (by omega) hm
        have hS' : Seen I S (fun j => j < k + 1) (I k) (addT inca Ta (I k) (S k)) := hS.yes (fun j => by omega) hm
        have HM : Hid (memB inca Ta (I k) (S k) = false) := hm
        clear hm hS
        go_wp2_with fail
        go_region_held3 (fun w' => w'.cell? ⟨w.heap.size, k * 2, none⟩ = some (.int .u64 (I k)) ∧ w'.cell? ⟨w.heap.size, k * 2 + 1, none⟩ = some (.int .u64 (S k))) (first | exact ⟨by assumption, by assumption⟩ | (simp [go_sem, c0, c1]; done))
          (first | (go_at_call 14; refine ct.mono ?_; rintro e w' ⟨rfl, Ma', ha, hMa, hkp⟩; have hM2 := hMd.addA ha hMa hkp; have z0 := hM2.2.2.2.1.cell0 hlt; have z1 := hM2.2.2.2.1.cell1 hlt))
        go_wp2
        go_roundw
        case rel => exact ⟨k + 1, Ma', ca + 1, _, _, by omega, by go_num, by omega, hS', hM2⟩
        case measure => simp [intOf]; omega
      · have ct := seqAdd_no (w2.heap.size + 1) Ma ca inca (I k) (S k) Ta wr.drew hMd.2.1 s0 s1 hm
        have hS' : Seen I S (fun j => j < k + 1) inca Ta := hS.no (fun j => by omega) hm
        have HM : Hid (memB inca Ta (I k) (S k) = true) := hm
        clear hm hS
        go_wp2_with fail
        go_region_held3 (fun w' => w'.cell? ⟨w.heap.size, k * 2, none⟩ = some (.int .u64 (I k)) ∧ w'.cell? ⟨w.heap.size, k * 2 + 1, none⟩ = some (.int .u64 (S k))) (first | exact ⟨by assumption, by assumption⟩ | (simp [go_sem, c0, c1]; done))
          (first | (go_at_call 14; refine ct.mono ?_; rintro e w' ⟨rfl, ha, hkp⟩; have hM2 := hMd.addA ha (Or.inl rfl) hkp; have z0 := hM2.2.2.2.1.cell0 hlt; have z1 := hM2.2.2.2.1.cell1 hlt))
        go_wp2
        go_roundw
        case rel => exact ⟨k + 1, Ma, ca, _, _, by omega, by go_num, by omega, hS', hM2⟩
        case measure => simp [intOf]; omega
    · obtain rfl : k = len1 := by omega
      have hSa := hS
      have hM0 := hM
      clear hS hM hlt
      go_wp2_with fail
      go_loopw [8] (fun s8 wr => ∃ (m Mb cb : Nat) (incb : Int) (Tb : Int → Bool), m ≤ k ∧ s8 = .int .i64 ((m : Int) - 1) ∧ cb + m ≤ k ∧ Seen I S (fun j => m ≤ j ∧ j < k) incb Tb ∧ Mem4 w w.heap.size w1.heap.size (w2.heap.size + 1) (w2.heap.size + 1 + 1 + 1) k len2 I S J R Ma Mb ca cb inca incb Ta Tb wr) (fun s8 _ => (intOf s8 + 1).toNat)
      case atStart => exact ⟨k, _, 0, _, _, Nat.le_refl _, rfl, by omega, Seen.start I S _ (fun j => by omega), hM0⟩
      case round =>
        clear hM0
        obtain ⟨m, Mb, cb, incb, Tb, hm, rfl, hcb, hS, hM⟩ := hrel
        match m, hm, hcb, hS with
        | 0, hm, hcb, hS =>
          obtain ⟨ei, eT⟩ := Seen.unique hSa (hS.congr (fun j => by omega))
          subst ei
          subst eT
          clear hS hcb hm
          have hM0 := hM
          clear hM
          rw [show (((0 : Nat) : Int) - 1) = -1 from rfl]
          go_wp2_with fail
          go_loopw [9] (fun s9 wr => ∃ (j : Nat), j ≤ k ∧ s9 = .int .i64 j ∧ Mem4 w w.heap.size w1.heap.size (w2.heap.size + 1) (w2.heap.size + 1 + 1 + 1) k len2 I S J R Ma Mb ca cb inca inca Ta Ta wr) (fun s9 _ => k - (intOf s9).toNat)
          case atStart => exact ⟨0, Nat.zero_le _, rfl, hM0⟩
          case round =>
            clear hM0
            obtain ⟨j, hj, rfl, hM⟩ := hrel
            by_cases hlt : j < k
            · obtain rfl := hd1 (by omega)
              have c0 := hM.2.2.2.1.cell0 hlt
              have c1 := hM.2.2.2.1.cell1 hlt
              obtain ⟨⟨i0, i1⟩, s0, s1⟩ := b1 j hlt
              have hmm : memB inca Ta (I j) (S j) = true := hSa.mem hlt
              have ca1 := fun w' (h : Mem4 w w.heap.size w1.heap.size (w2.heap.size + 1) (w2.heap.size + 1 + 1 + 1) k len2 I S J R Ma Mb ca cb inca inca Ta Ta w') => seqHas (w2.heap.size + 1) Ma ca inca (I j) (S j) Ta w' h.2.1 s0 s1
              have cb1 := fun w' (h : Mem4 w w.heap.size w1.heap.size (w2.heap.size + 1) (w2.heap.size + 1 + 1 + 1) k len2 I S J R Ma Mb ca cb inca inca Ta Ta w') => seqHas (w2.heap.size + 1 + 1 + 1) Mb cb inca (I j) (S j) Ta w' h.2.2.1 s0 s1
              rw [hmm] at ca1 cb1
              clear hmm
              have hMd := hM.grow (Below.refl _ _).drew
              go_wp2_with fail
              go_region_held3 (fun w' => w'.cell? ⟨w.heap.size, j * 2, none⟩ = some (.int .u64 (I j)) ∧ w'.cell? ⟨w.heap.size, j * 2 + 1, none⟩ = some (.int .u64 (S j))) (first | exact ⟨by assumption, by assumption⟩ | (simp [go_sem, c0, c1]; done))
                (first | (go_at_call 15; refine (ca1 _ hMd).mono ?_; rintro e w' ⟨rfl, cc, kk, rfl⟩; have hM2 := (hMd.grow ((Below.refl _ _).alloc (Nat.le_refl _) (.cells cc 70))).grow (below_drewN _ _ kk); have z0 := hM2.2.2.2.1.cell0 hlt; have z1 := hM2.2.2.2.1.cell1 hlt))
              go_wp2_with fail
              have hsz : w.heap.size < wr.heap.size := (hM.2.2.2.1.ne hM.2.1 (by omega)).2
              have hM3 := fun n => (hM.grow ((Below.refl _ _).alloc (Nat.le_refl _) (.cells cc 70))).grow (below_drewN _ _ n)
              clear hM2 z0 z1
              go_region_held3 (fun w' => w'.cell? ⟨w.heap.size, j * 2, none⟩ = some (.int .u64 (I j)) ∧ w'.cell? ⟨w.heap.size, j * 2 + 1, none⟩ = some (.int .u64 (S j))) (first | exact ⟨by assumption, by assumption⟩ | (simp [go_sem, c0, c1, hsz, World.cell?_alloc_past]; done))
                (first | (go_at_call 15; refine (cb1 _ (hM3 _)).mono ?_; rintro e w' ⟨rfl, cc2, kk2, rfl⟩))
              go_wp2
              go_roundw
              case rel => exact ⟨j + 1, by omega, by go_num, (((hM.grow ((Below.refl _ _).alloc (Nat.le_refl _) (.cells cc 70))).grow (below_drewN _ _ _)).grow ((Below.refl _ _).alloc (Nat.le_refl _) (.cells cc2 70))).grow (below_drewN _ _ _)⟩
              case measure => simp [intOf]; omega
            · have hM0 := hM
              clear hM
              go_wp2_with fail
              go_loopw [10] (fun s10 wr => ∃ (n : Nat), n ≤ len2 ∧ s10 = .int .i64 n ∧ Mem4 w w.heap.size w1.heap.size (w2.heap.size + 1) (w2.heap.size + 1 + 1 + 1) k len2 I S J R Ma Mb ca cb inca inca Ta Ta wr) (fun s10 _ => len2 - (intOf s10).toNat)
              case atStart => exact ⟨0, Nat.zero_le _, rfl, hM0⟩
              case round =>
                clear hM0
                obtain ⟨n, hn, rfl, hM⟩ := hrel
                by_cases hlt2 : n < len2
                · obtain rfl := hd2 (by omega)
                  have c0 := hM.2.2.2.2.cell0 hlt2
                  have c1 := hM.2.2.2.2.cell1 hlt2
                  obtain ⟨⟨i0, i1⟩, s0, s1⟩ := b2 n hlt2
                  have ca1 := fun w' (h : Mem4 w w.heap.size w1.heap.size (w2.heap.size + 1) (w2.heap.size + 1 + 1 + 1) k len2 I S J R Ma Mb ca cb inca inca Ta Ta w') => seqHas (w2.heap.size + 1) Ma ca inca (J n) (R n) Ta w' h.2.1 s0 s1
                  have cb1 := fun w' (h : Mem4 w w.heap.size w1.heap.size (w2.heap.size + 1) (w2.heap.size + 1 + 1 + 1) k len2 I S J R Ma Mb ca cb inca inca Ta Ta w') => seqHas (w2.heap.size + 1 + 1 + 1) Mb cb inca (J n) (R n) Ta w' h.2.2.1 s0 s1
                  generalize memB inca Ta (J n) (R n) = bb at ca1 cb1
                  have hsz : w1.heap.size < wr.heap.size := (hM.2.2.2.2.ne hM.2.1 (by omega)).2
                  have tok1 : True := trivial
                  have hMd := hM.grow (Below.refl _ _).drew
                  have hM3 := fun cc n => (hM.grow ((Below.refl _ _).alloc (Nat.le_refl _) (.cells cc 70))).grow (below_drewN _ _ n)
                  go_wp2_with fail
                  go_region_held3 (fun w' => w'.cell? ⟨w1.heap.size, n * 2, none⟩ = some (.int .u64 (J n)) ∧ w'.cell? ⟨w1.heap.size, n * 2 + 1, none⟩ = some (.int .u64 (R n))) (first | exact ⟨by assumption, by assumption⟩ | (simp [go_sem, c0, c1, hsz, World.cell?_alloc_past]; done))
                    (first | (go_at_call 15; have _t := tok1; refine (ca1 _ hMd).mono ?_; rintro e w' ⟨rfl, cc, kk, rfl⟩; clear tok1) | (go_at_call 15; refine (cb1 _ (hM3 _ _)).mono ?_; rintro e w' ⟨rfl, cc2, kk2, rfl⟩))
                  go_wp2
                  go_roundw
                  case rel => exact ⟨n + 1, by omega, by go_num, (((hM.grow ((Below.refl _ _).alloc (Nat.le_refl _) (.cells cc 70))).grow (below_drewN _ _ _)).grow ((Below.refl _ _).alloc (Nat.le_refl _) (.cells cc2 70))).grow (below_drewN _ _ _)⟩
                  case measure => simp [intOf]; omega
                · go_wp2
                  go_ret
                  exact ⟨rfl, hM.1.bel⟩
        | m + 1, hm, hcb, hS =>
          rw [show (((m + 1 : Nat) : Int) - 1) = (m : Int) by omega]
          have hlt : m < k := by omega
          obtain rfl := hd1 (by omega)
          have c0 := hM.2.2.2.1.cell0 hlt
          have c1 := hM.2.2.2.1.cell1 hlt
          obtain ⟨⟨i0, i1⟩, s0, s1⟩ := b1 m hlt
          have hMd := (hM.grow (Below.refl _ _).drew).swap
          cases hmb : memB incb Tb (I m) (S m)
          · have ct := seqAdd_yes (w2.heap.size + 1 + 1 + 1) Mb cb incb (I m) (S m) Tb wr.drew hMd.2.1 s0 s1 (by omega) hmb
            have hS' : Seen I S (fun j => m ≤ j ∧ j < k) (I m) (addT incb Tb (I m) (S m)) := hS.yes (fun j => by omega) hmb
            have HM : Hid (memB incb Tb (I m) (S m) = false) := hmb
            clear hmb hS
            go_wp2_with fail
            go_region_held3 (fun w' => w'.cell? ⟨w.heap.size, m * 2, none⟩ = some (.int .u64 (I m)) ∧ w'.cell? ⟨w.heap.size, m * 2 + 1, none⟩ = some (.int .u64 (S m))) (first | exact ⟨by assumption, by assumption⟩ | (simp [go_sem, c0, c1]; done))
              (first | (go_at_call 14; refine ct.mono ?_; rintro e w' ⟨rfl, Mb', ha, hMa, hkp⟩; have hM2 := hMd.addA ha hMa hkp; have z0 := hM2.2.2.2.1.cell0 hlt; have z1 := hM2.2.2.2.1.cell1 hlt))
            go_wp2
            go_roundw
            case rel => exact ⟨m, Mb', cb + 1, _, _, by omega, rfl, by omega, hS', hM2.swap⟩
            case measure => simp [intOf]
          · have ct := seqAdd_no (w2.heap.size + 1 + 1 + 1) Mb cb incb (I m) (S m) Tb wr.drew hMd.2.1 s0 s1 hmb
            have hS' : Seen I S (fun j => m ≤ j ∧ j < k) incb Tb := hS.no (fun j => by omega) hmb
            have HM : Hid (memB incb Tb (I m) (S m) = true) := hmb
            clear hmb hS
            go_wp2_with fail
            go_region_held3 (fun w' => w'.cell? ⟨w.heap.size, m * 2, none⟩ = some (.int .u64 (I m)) ∧ w'.cell? ⟨w.heap.size, m * 2 + 1, none⟩ = some (.int .u64 (S m))) (first | exact ⟨by assumption, by assumption⟩ | (simp [go_sem, c0, c1]; done))
              (first | (go_at_call 14; refine ct.mono ?_; rintro e w' ⟨rfl, ha, hkp⟩; have hM2 := hMd.addA ha (Or.inl rfl) hkp; have z0 := hM2.2.2.2.1.cell0 hlt; have z1 := hM2.2.2.2.1.cell1 hlt))
            go_wp2
            go_roundw
            case rel => exact ⟨m, Mb, cb, _, _, by omega, rfl, by omega, hS', hM2.swap⟩
            case measure => simp [intOf]
end Go.Proofs.Qxb6000359a
