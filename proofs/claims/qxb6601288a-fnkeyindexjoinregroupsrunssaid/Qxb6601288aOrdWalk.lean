import Derived.Test.Qxb6601288aMath
import Derived.Test.Qxb6601288aFit
namespace Go.Proofs.Qxb6601288a
open Go.RowKit Go.Deep

theorem pair_le {rows : Nat → List ByteArray} {n : Nat} (h : tot (LL rows) n ≤ 1000000) (a : Nat) (ha : a + 1 < n) : (rows a).length + (rows (a + 1)).length ≤ 1000000 := by
  have := tot_mono (L := LL rows) (i := a + 1 + 1) (k := n) (by omega)
  simp only [tot, LL] at this h
  omega
theorem below_kept {B : Nat} {T : Nat → Prop} {w0 w w' : World} (hb : Below B w0 w) (hk : Kept T w w') (hB : B ≤ w.heap.size) (hT : ∀ k, T k → B ≤ k) : Below B w0 w' :=
  hb.trans ⟨hk.os, hk.tape, hk.output, hk.size, fun k hk2 => hk.block k (by omega) (fun ht => by have := hT k ht; omega)⟩
/-- the join changes nothing that lies below B -/
theorem below_out {B X G n r : Nat} {A : Nat → Option Addr} {C : Nat → Nat} {rows : Nat → List ByteArray} {w0 w w' : World} (hb : Below B w0 w) (hO : Own w B G n n A C rows) (hX : B ≤ X) (hB : B ≤ w.heap.size) (h : JOut X G n r A rows w w') : Below B w0 w' := by
  obtain ⟨ad', cap', v, -, -, hk, -⟩ := h
  refine below_kept hb hk hB (fun k ht => ?_)
  rcases ht with e | e | ⟨i, hi, e⟩
  · omega
  · have := hO.gB; omega
  · exact ((hO.own i hi).lt e).1

set_option maxRecDepth 100000 in
set_option maxHeartbeats 4000000 in
theorem law7 (ad : Option Addr) (cap n : Nat) (r : Int) (rows : Nat → List ByteArray) (v : RV) (w : World) (h : Runs w ad cap n (LL rows) (SS rows) v) :
    Calls Try.prog 7 #[.slice ad n cap, .int .i64 r] w fun e w' => e = .returned (.bool true) ∧ Below w.heap.size w w' := by
  go_enter Try.func7, Try.ntmps7
  go_wp2_with fail
  refine (zz33 ad cap n (LL rows) (SS rows) v r w h).mono ?_
  rintro _ w' ⟨⟨x, rfl, -⟩, hw⟩
  subst w'
  cases x with
  | false =>
    go_wp2_with fail
    go_ret
    exact ⟨rfl, Below.refl _ _⟩
  | true =>
  by_cases t1 : (65536 : Int) < (n : Int)
  · go_wp2_with fail
    go_ret
    exact ⟨rfl, Below.refl _ _⟩
  go_wp2_with fail
  refine (fits_any ad cap n (LL rows) (SS rows) v _ h).mono ?_
  rintro _ w' ⟨⟨x, rfl, hx⟩, hw⟩
  subst w'
  cases x with
  | false =>
    go_wp2_with fail
    go_ret
    exact ⟨rfl, Below.refl _ _⟩
  | true =>
  obtain ⟨hn, hl⟩ := hx rfl
  clear hx
  by_cases t2 : n = 0
  · subst t2
    go_wp2_with fail
    go_ret
    exact ⟨rfl, Below.refl _ _⟩
  have d2 : ((n : Int) == 0) = false := beq_eq_false_iff_ne.2 (by omega)
  have d2' : decide ((n : Int) = 0) = false := decide_eq_false (by omega)
  by_cases t3 : r < 0
  · have d3 : decide (r < 0) = true := decide_eq_true t3
    go_wp2_with fail
    go_ret
    exact ⟨rfl, Below.refl _ _⟩
  have d3 : decide (r < 0) = false := decide_eq_false t3
  by_cases t4 : (n : Int) ≤ r
  · have d4 : decide ((n : Int) ≤ r) = true := decide_eq_true t4
    go_wp2_with fail
    go_ret
    exact ⟨rfl, Below.refl _ _⟩
  obtain ⟨r', rfl⟩ : ∃ r' : Nat, r = (r' : Int) := ⟨r.toNat, by omega⟩
  have d4 : decide ((n : Int) ≤ (r' : Int)) = false := decide_eq_false t4
  have hr : r' < n := by omega
  go_wp2_with fail
  refine (prem_any ad cap n r' rows v w hr (by omega) (by omega) h).mono ?_
  rintro _ w1 ⟨⟨x, rfl, hP⟩, hb1⟩
  cases x with
  | false =>
    go_wp2_with fail
    go_ret
    exact ⟨rfl, hb1⟩
  | true =>
  have hP := hP rfl
  have HP : Hid (Prem n r' rows) := hP
  clear hP t3 d2 d2' d3 d4
  go_wp2_with fail
  refine (copyRuns_any ad cap n rows v w1 (by omega) (by omega) (fun i hi => by have := le_tot (L := LL rows) hi; simp only [LL] at this hl; omega) (h.below hb1)).mono ?_
  rintro _ w2 ⟨A, C, rfl, hO, hb2⟩
  have hG := hO.row.lt
  have hlr : ∀ i, i < n → ∀ k, blkOf (A i) = some k → k < w2.heap.size := fun i hi k hk => ((hO.own i hi).lt hk).2
  have hO3 := hO.below ((Below.refl w2.heap.size w2).alloc (Nat.le_refl _) (.cells #[.slice (some ⟨w1.heap.size, 0, none⟩) n n] 58))
  have hX3 : (w2.alloc (.cells #[.slice (some ⟨w1.heap.size, 0, none⟩) n n] 58)).heap[w2.heap.size]? = some (.cells #[.slice (some ⟨w1.heap.size, 0, none⟩) n n] 58 (0, 0)) := heap_alloc_new _ _
  have ctJ := zzJoin w1.heap.size w2.heap.size w1.heap.size n r' A C rows _ hX3 hO3 (by omega) (fun i hi e => by have := hlr i hi _ e; omega) hr (by omega) (pair_le (by omega)) (by simp; omega)
  go_wp2_with fail
  refine (zzNew (some ⟨w1.heap.size, 0, none⟩) n n w2).mono ?_
  rintro _ w3 ⟨rfl, hw⟩
  subst w3
  go_wp2_with fail
  refine ctJ.mono ?_
  rintro _ w4 ⟨rfl, hJ⟩
  have s1 := hb1.size
  have s2 := hb2.size
  have hb4 : Below w.heap.size w w4 := by
    have hb3 := (hb1.trans (hb2.mono s1)).alloc (Nat.le_trans s1 s2) (.cells #[.slice (some ⟨w1.heap.size, 0, none⟩) n n] 58)
    have := below_out (B := w1.heap.size) (r := r') (Below.refl _ _) hO3 s2 (by simp; omega) hJ
    exact hb3.trans (this.mono s1)
  obtain ⟨ad', cap', v', c4, hR, -, -⟩ := hJ
  have hN := outN_le (rows := rows) hr
  have hout := out_runs hr HP
  have hflat := flat_out (rows := rows) hr
  generalize outN n r' rows = m at *
  generalize outR n r' rows = R at *
  have htot : tot (LL R) m ≤ 65536 := by rw [← length_flat, hflat, length_flat]; exact hl
  have HI : Hid (Inc (flat R m)) := by show Inc (flat R m); rw [hflat]; exact (show Prem n r' rows from HP).2.2
  have hfl : (flat R m).length ≤ 1000000 := by rw [length_flat]; omega
  have ctF := flat_any ad' cap' m R v' w4 (by omega) (by omega) hR
  have HOUT : Hid (∀ i, i < m → (R i).length ≠ 0 ∧ (R i).length ≤ 512) := hout
  clear ctJ hX3 hO3 hO hlr hG hflat hout h hl HP hb1 hb2
  go_wp2_with fail
  refine (zzRuns _ _ _ rfl c4).mono ?_
  rintro _ w5 ⟨rfl, hw⟩
  subst w5
  have e1 : IntKind.i64.wrap ((n : Int) - 1) = (n : Int) - 1 := by rw [IntKind.wrap_i64]; omega
  have d5 : decide ((n : Int) < (m : Int)) = false := decide_eq_false (by omega)
  have d6 : decide ((m : Int) < (n : Int) - 1) = false := decide_eq_false (by omega)
  have d7 : ¬ ((n : Int) < (m : Int)) := by omega
  have d8 : ¬ ((m : Int) < (n : Int) - 1) := by omega
  go_wp2_with fail
  go_loop [8] (fun i => ∃ k : Nat, k ≤ m ∧ i = .int .i64 k) (fun i => m - (intOf i).toNat)
  case atStart => exact ⟨0, Nat.zero_le _, rfl⟩
  case round =>
    obtain ⟨k, hk, rfl⟩ := hrel
    by_cases hlt : k < m
    · have c0 := hR.cell k hlt
      obtain rfl := hR.at_ (by omega)
      have hk1 := (show ∀ i, _ from HOUT) k hlt
      clear ctF hR HOUT
      simp only [LL] at c0
      generalize (R k).length = lk at c0 hk1
      generalize v'.A k = ak at c0
      generalize v'.Cp k = ck at c0
      have f1 : ((lk : Int) == 0) = false := beq_eq_false_iff_ne.2 (by omega)
      have f2 : decide ((lk : Int) = 0) = false := decide_eq_false (by omega)
      have f3 : decide ((512 : Int) < (lk : Int)) = false := decide_eq_false (by omega)
      have f4 : ¬ (512 : Int) < (lk : Int) := by omega
      go_wp2_with fail
      go_round
      case rel => exact ⟨k + 1, by omega, by go_num⟩
      case measure => simp [intOf]; omega
    · go_wp2_with fail
      refine ctF.mono ?_
      rintro _ w6 ⟨a, c, rfl, hO, hb⟩
      obtain ⟨b1, hs, -⟩ := hO.strs
      have ct2 := inc_any a c (flat R m) b1 0 w6 hfl hs
      go_wp2_with fail
      refine ct2.mono ?_
      rintro _ w7 ⟨⟨x, rfl, hx⟩, hb7⟩
      obtain rfl : x = true := hx.2 HI
      go_wp2_with fail
      go_ret
      exact ⟨rfl, (hb4.trans (hb.mono hb4.size)).trans (hb7.mono (Nat.le_trans hb4.size hb.size))⟩
end Go.Proofs.Qxb6601288a
