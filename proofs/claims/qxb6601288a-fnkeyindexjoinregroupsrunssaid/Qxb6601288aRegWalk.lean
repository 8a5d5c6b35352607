import Derived.Test.Qxb6601288aRegMath
import Derived.Test.Qxb6601288aOrdWalk
namespace Go.Proofs.Qxb6601288a
open Go.RowKit Go.Deep

/-- what stands behind the join: the lengths, the names, the runs -/
structure After (w w5 : World) (Lb n : Nat) (rows : Nat → List ByteArray) (af : Option Addr) (cf bf : Nat) (ad' : Option Addr) (cap' m : Nat) (R : Nat → List ByteArray) (v' : RV) : Prop where
  bel : Below w.heap.size w w5
  lens : ∀ i, i < n → w5.cell? ⟨Lb, i, none⟩ = some (.int .i64 ((rows i).length : Int))
  flat : Strs w5 af (flat rows n).length cf (fun j => (Qxb6601288a.flat rows n).getD j ByteArray.empty) bf 0
  out : Runs w5 ad' cap' m (LL R) (SS R) v'
theorem After.below {w w5 w6 : World} {Lb n : Nat} {rows : Nat → List ByteArray} {af : Option Addr} {cf bf : Nat} {ad' : Option Addr} {cap' m : Nat} {R : Nat → List ByteArray} {v' : RV} (h : After w w5 Lb n rows af cf bf ad' cap' m R v') (hb : Below w5.heap.size w5 w6) : After w w6 Lb n rows af cf bf ad' cap' m R v' :=
  ⟨h.bel.trans (hb.mono h.bel.size), fun i hi => (hb.cell (p := ⟨Lb, i, none⟩) (World.block_lt_of_cell? w5 _ (h.lens i hi))).trans (h.lens i hi), h.flat.below hb, h.out.below hb⟩

theorem make_capj (n : Nat) (hb : 8 * (n + 1) ≤ 281474976710656) (w : World) :
    (Instr.makeSlice 44 (.int .i64 0) (.int .i64 ((n : Int) + 1))).run Try.prog w = .ok (.slice (some ⟨w.heap.size, 0, none⟩) 0 (n + 1)) (w.alloc (.cells (madeCells #[.int .i64 0] (n + 1)) 3)) := by
  have := make_capi (n + 1) hb w
  rwa [show ((n + 1 : Nat) : Int) = (n : Int) + 1 by omega] at this

/-- one int more at the end of an own slice -/
theorem wpList_append_int {w : World} {ops : Array Oper} {rest : List Oper} {o : Oper} {a : Act} {Q : Exit → Act → World → Prop} (hgd : o.guard = none) (s x : Operand)
    (ho : o.op = .call { callee := .builtin .append, args := #[s, x], argTypes := #[44, 44] }) (D k : Nat) (g : Nat → Nat) (n : Int) (aw : Option Addr) (cw : Nat) (hown : OwnI w D aw cw k g) (hn : n = (g k : Int)) (hk : k ≤ 1000000) (hD : D ≤ w.heap.size)
    (hs : a.eval s = .slice aw k cw) (hx : a.eval x = .slice (some ⟨w.heap.size, 0, none⟩) 1 1)
    (h : ∀ a' c' w', Hid (OwnI w' D a' c' (k + 1) g) → Hid (Below D w w') → wpList Try.prog ops Q rest (a.put o.dst (.slice a' (k + 1) c')) w') :
    wpList Try.prog ops Q (o :: rest) a (w.alloc (.cells #[.int .i64 n] 3)) := by
  obtain ⟨i3, hi, hz0, hz1, hz2⟩ := info_parts info3
  refine wpList_append_own_at _ hgd s x 44 ho D 3 i3 _ 1 8 Try.underlying44 hi hz0 hz1 hz2 rfl (by decide) _ k _ hs (World.ownsRow.alloc hown _) ⟨w.heap.size, 0, none⟩ 1 1 [.int .i64 n] hx rfl (cell_one_new _ _ _) (int_one n) (by unfold maxLen; omega) (by omega) (by simp; omega) ?_
  intro v' w1 ho1 hg _ _
  obtain ⟨a', c', rfl, hO1⟩ := OwnI.of_value ho1 hn
  exact h a' c' w1 hO1 (below_grown ((Below.refl D w).alloc hD _) hg (by simp; omega) hown.lt)

set_option maxRecDepth 100000 in
set_option maxHeartbeats 8000000 in
theorem law6 (ad : Option Addr) (cap n : Nat) (r : Int) (rows : Nat → List ByteArray) (v : RV) (w : World) (h : Runs w ad cap n (LL rows) (SS rows) v) :
    Calls Try.prog 6 #[.slice ad n cap, .int .i64 r] w fun e w' => e = .returned (.bool true) ∧ Below w.heap.size w w' := by
  obtain ⟨i3, hi, hz0, hz1, hz2⟩ := info_parts info3
  go_enter Try.func6, Try.ntmps6
  go_wp2_with fail
  refine (zz26 ad cap n (LL rows) (SS rows) v r w h).mono ?_
  rintro _ w' ⟨⟨x, rfl, -⟩, hw⟩
  subst w'
  cases x with
  | false =>
    go_wp2_with fail
    go_ret
    exact ⟨rfl, Below.refl _ _⟩
  | true =>
  by_cases t1 : (65536 : Int) < (n : Int)
  · go_wp2_with fail
    go_ret
    exact ⟨rfl, Below.refl _ _⟩
  go_wp2_with fail
  refine (fits_any ad cap n (LL rows) (SS rows) v _ h).mono ?_
  rintro _ w' ⟨⟨x, rfl, hx⟩, hw⟩
  subst w'
  cases x with
  | false =>
    go_wp2_with fail
    go_ret
    exact ⟨rfl, Below.refl _ _⟩
  | true =>
  obtain ⟨hn, hl⟩ := hx rfl
  clear hx
  by_cases t2 : n = 0
  · subst t2
    go_wp2_with fail
    go_ret
    exact ⟨rfl, Below.refl _ _⟩
  have d2 : ((n : Int) == 0) = false := beq_eq_false_iff_ne.2 (by omega)
  have d2' : decide ((n : Int) = 0) = false := decide_eq_false (by omega)
  by_cases t3 : r < 0
  · have d3 : decide (r < 0) = true := decide_eq_true t3
    go_wp2_with fail
    go_ret
    exact ⟨rfl, Below.refl _ _⟩
  have d3 : decide (r < 0) = false := decide_eq_false t3
  by_cases t4 : (n : Int) ≤ r
  · have d4 : decide ((n : Int) ≤ r) = true := decide_eq_true t4
    go_wp2_with fail
    go_ret
    exact ⟨rfl, Below.refl _ _⟩
  obtain ⟨r', rfl⟩ : ∃ r' : Nat, r = (r' : Int) := ⟨r.toNat, by omega⟩
  have d4 : decide ((n : Int) ≤ (r' : Int)) = false := decide_eq_false t4
  have hr : r' < n := by omega
  go_wp2_with fail
  refine (copyRuns_any ad cap n rows v w (by omega) (by omega) (fun i hi => by have := le_tot (L := LL rows) hi; simp only [LL] at this hl; omega) h).mono ?_
  rintro _ w1 ⟨A, C, rfl, hO, hb1⟩
  clear t3 d2 d2' d3 d4 h
  have hG := hO.row.lt
  have s1 := hb1.size
  have hlr : ∀ i, i < n → ∀ k, blkOf (A i) = some k → k < w1.heap.size := fun i hi k hk => ((hO.own i hi).lt hk).2
  have hmk := run_make_row' (P := Try.prog) 44 3 (.int .i64 0) 8 Try.underlying44 info3 rfl .i64 .i64 n (by omega) (by omega)
  go_wp2_with fail
  go_loopw [7] (fun i wr => ∃ k : Nat, k ≤ n ∧ i = .int .i64 k ∧ Below w1.heap.size w1 wr ∧ OneRow wr w1.heap.size 3 n k (fun i => .int .i64 ((rows i).length : Int))) (fun i _ => n - (intOf i).toNat)
  case atStart => exact ⟨0, Nat.zero_le _, rfl, (Below.refl _ _).alloc (Nat.le_refl _) _, OneRow.made _ _ _ _ _⟩
  case round =>
  obtain ⟨k, hk, rfl, hb2, hrow⟩ := hrel
  by_cases hlt : k < n
  · have c0 := (hO.below hb2).row.cell hlt (Nat.le_refl _)
    have f0 := hrow.free k
    obtain ⟨x0, d0⟩ := hrow.some1 hlt
    have hst := hrow.store
    clear hO hlr hrow
    generalize (rows k).length = lk at c0 hst
    generalize A k = ak at c0
    generalize C k = ck at c0
    go_wp2_with fail
    go_roundw
    case rel => exact ⟨k + 1, by omega, by go_num, hb2.setCell (Nat.le_refl _) _, hst⟩
    case measure => simp [intOf]; omega
  obtain rfl : n = k := by omega
  obtain ⟨vv, hRR⟩ := (hO.below hb2).runs
  have ctF := flat_any (some ⟨w.heap.size, 0, none⟩) n n rows vv wr (by omega) (by omega) hRR
  go_wp2_with fail
  refine ctF.mono ?_
  rintro _ w3 ⟨af, cf, rfl, hF3, hb3⟩
  go_wp2_with fail
  refine (zzNew (some ⟨w.heap.size, 0, none⟩) n n w3).mono ?_
  rintro _ w4 ⟨rfl, hw⟩
  subst w4
  have s2 := hb2.size
  have s3 := hb3.size
  have hO4 := ((hO.below hb2).below hb3).below ((Below.refl w3.heap.size w3).alloc (Nat.le_refl _) (.cells #[.slice (some ⟨w.heap.size, 0, none⟩) n n] 58))
  have hX4 : (w3.alloc (.cells #[.slice (some ⟨w.heap.size, 0, none⟩) n n] 58)).heap[w3.heap.size]? = some (.cells #[.slice (some ⟨w.heap.size, 0, none⟩) n n] 58 (0, 0)) := heap_alloc_new _ _
  have ctJ := zzJoin w.heap.size w3.heap.size w.heap.size n r' A C rows _ hX4 hO4 (by omega) (fun i hi e => by have := hlr i hi _ e; omega) hr (by omega) (pair_le (by omega)) (by simp; omega)
  go_wp2_with fail
  refine ctJ.mono ?_
  rintro _ w5 ⟨rfl, hJ⟩
  have hL2 := hrow.lt
  -- the lengths and the names lie where the join does not write
  have hkeep : ∀ q, w1.heap.size ≤ q → q < w3.heap.size → w5.heap[q]? = w3.heap[q]? := fun q h1 h2 => by
    obtain ⟨_, _, _, -, -, hk5, -⟩ := hJ
    refine (hk5.block q (by simp; omega) (fun hT => ?_)).trans (Below.heap_alloc _ _ _ h2)
    rcases hT with e | e | ⟨i, hi, e⟩
    · omega
    · omega
    · have := hlr i hi _ e; omega
  have hb5 : Below w.heap.size w w5 := by
    have hb4 := ((hb1.trans (hb2.mono s1)).trans (hb3.mono (Nat.le_trans s1 s2))).alloc (Nat.le_trans s1 (Nat.le_trans s2 s3)) (.cells #[.slice (some ⟨w.heap.size, 0, none⟩) n n] 58)
    exact below_out hb4 hO4 (Nat.le_trans s1 (Nat.le_trans s2 s3)) (by simp; omega) hJ
  have hF5 : OwnS w5 wr.heap.size af cf (flat rows n) := hF3.of_block fun q hq => hkeep q (by have := (hF3.lt hq).1; omega) (hF3.lt hq).2
  have hL5 : OneRow w5 w1.heap.size 3 n n (fun i => .int .i64 ((rows i).length : Int)) := (hrow.of_block (hb3.block _ hL2)).of_block (hkeep _ (Nat.le_refl _) (by omega))
  obtain ⟨ad', cap', v', c5, hR, -, hnone⟩ := hJ
  obtain ⟨bf, hFs, -⟩ := hF5.strs
  have HA : After w w5 w1.heap.size n rows af cf bf ad' cap' (outN n r' rows) (outR n r' rows) v' := ⟨hb5, fun i hi => hL5.cell hi (Nat.le_refl _), hFs, hR⟩
  have hout := outN_le (rows := rows) hr
  have hflat := flat_out (rows := rows) hr
  clear ctJ ctF hX4 hO4 hO hlr hkeep hF5 hL5 hF3 hrow hb1 hb2 hb3 hRR hFs hb5 hG hmk
  go_wp2_with fail
  refine (zzRuns _ _ _ rfl c5).mono ?_
  rintro _ w6 ⟨rfl, hw⟩
  subst w6
  have hnil := fun (wx : World) (ad : Option Addr) (n c : Nat) => Lib.run_eql_slice_nil (P := Try.prog) wx 40 22 ad n c 0 0 Try.underlying40
  by_cases h10 : n = 1 ∧ (rows 0).length = 0
  · obtain ⟨rfl, h0⟩ := h10
    obtain rfl := hnone rfl h0
    have c0 := HA.lens 0 (by omega)
    rw [h0] at c0
    have bel := HA.bel
    clear HA hnone h0 hflat hout c5
    go_wp2_with fail
    go_ret
    exact ⟨rfl, bel⟩
  have hne : n = 1 → (rows 0).length ≠ 0 := fun e1 e2 => h10 ⟨e1, e2⟩
  clear h10 hnone hnil c5
  have c0 := HA.lens 0 (by omega)
  go_upto_region 20 with fail
  go_cut [77] (fun s77 wd => s77 = .bool false ∧ w5 = wd)
  case first =>
    clear HA hflat
    by_cases e1 : n = 1
    · subst e1
      have h0 := hne rfl
      clear hne
      generalize (rows 0).length = l0 at c0 h0
      have g1 : ((l0 : Int) == 0) = false := beq_eq_false_iff_ne.2 (by omega)
      have g2 : decide ((l0 : Int) = 0) = false := decide_eq_false (by omega)
      go_wp2_with fail
      go_meet
      case rel => exact ⟨rfl, rfl⟩
    · have g1 : ((n : Int) == 1) = false := beq_eq_false_iff_ne.2 (by omega)
      have g2 : decide ((n : Int) = 1) = false := decide_eq_false (by omega)
      go_wp2_with fail
      go_meet
      case rel => exact ⟨rfl, rfl⟩
  case rest =>
  obtain ⟨rfl, rfl⟩ := hcut
  have e2 : IntKind.i64.wrap ((n : Int) + 1) = (n : Int) + 1 := by rw [IntKind.wrap_i64]; omega
  have Hone : Hid (n = 1 → outN n r' rows = 1 ∧ ((rows 0).length : Int) = ((outR n r' rows 0).length : Int)) := fun e => by
    subst e
    obtain ⟨h1, h2⟩ := len_one (r := r') (hne rfl)
    exact ⟨h1, by rw [h2]⟩
  have Hlo : Hid (2 ≤ n → ∀ q, q < aOf n r' → ((rows q).length : Int) = ((outR n r' rows q).length : Int)) := fun hn2 q hq => by
    show ((rows q).length : Int) = ((outR n r' rows q).length : Int)
    rw [len_lo hn2 hq]
  have Hmid : Hid (2 ≤ n → ((rows (aOf n r')).length + (rows (aOf n r' + 1)).length ≤ 512 ∧ outN n r' rows = n - 1 ∧ (((rows (aOf n r')).length : Int) + ((rows (aOf n r' + 1)).length : Int)) = ((outR n r' rows (aOf n r')).length : Int) ∧ ∀ i, aOf n r' + 2 ≤ i → ((rows i).length : Int) = ((outR n r' rows (i - 1)).length : Int)) ∨
      (¬ (rows (aOf n r')).length + (rows (aOf n r' + 1)).length ≤ 512 ∧ outN n r' rows = n ∧ (256 : Int) = ((outR n r' rows (aOf n r')).length : Int) ∧ ((rows (aOf n r')).length : Int) + ((rows (aOf n r' + 1)).length : Int) - 256 = ((outR n r' rows (aOf n r' + 1)).length : Int) ∧ ∀ i, aOf n r' + 2 ≤ i → ((rows i).length : Int) = ((outR n r' rows i).length : Int))) := fun hn2 => by
    by_cases h5 : (rows (aOf n r')).length + (rows (aOf n r' + 1)).length ≤ 512
    · obtain ⟨m1, m2, m3⟩ := len_merged hn2 h5
      exact Or.inl ⟨h5, m1, by rw [m2]; omega, fun i hi => by rw [m3 i hi]⟩
    · obtain ⟨m1, m2, m3, m4⟩ := len_split hn2 h5
      exact Or.inr ⟨h5, m1, by rw [m2]; rfl, by rw [m3]; omega, fun i hi => by rw [m4 i hi]⟩
  generalize outN n r' rows = m at *
  generalize outR n r' rows = R at *
  have hmkW := make_capj n (by omega)
  have hW0 : OwnI (w5.alloc (.cells (madeCells #[.int .i64 0] (n + 1)) 3)) w5.heap.size (some ⟨w5.heap.size, 0, none⟩) (n + 1) 0 (fun i => (R i).length) := World.ownsRow_made w5 _ _ (Nat.le_refl _) (by unfold maxLen; omega) (by rw [size_madeCells, Nat.mul_one])
  have hbm : Below w5.heap.size w5 (w5.alloc (.cells (madeCells #[.int .i64 0] (n + 1)) 3)) := (Below.refl _ _).alloc (Nat.le_refl _) _
  have hsm := hbm.size
  go_upto_if 84 with fail
  generalize w5.alloc (.cells (madeCells #[Value.int .i64 0] (n + 1)) 3) = wm at *
  clear hmkW c0 hne
  have HAll : Hid (∀ wr, Below w5.heap.size wm wr → After w wr w1.heap.size n rows af cf bf ad' cap' m R v') := fun wr hb => HA.below (hbm.trans hb)
  clear HA hbm
  generalize w5.heap.size = D at *
  have HO : Hid (OwnI wm D (some ⟨D, 0, none⟩) (n + 1) 0 (fun i => (R i).length)) := hW0
  clear hW0
  go_cut [11] (fun s11 wd => ∃ aw cw, s11 = .slice aw m cw ∧ Hid (OwnI wd D aw cw m (fun i => (R i).length)) ∧ Hid (Below D wm wd))
  case first =>
    have HLens : Hid (∀ wr, Below D wm wr → ∀ i, i < n → wr.cell? ⟨w1.heap.size, i, none⟩ = some (.int .i64 ((rows i).length : Int))) := fun wr hb i hi => ((show ∀ wr, _ from HAll) wr hb).lens i hi
    clear HAll hflat
    by_cases e1 : n = 1
    · subst e1
      obtain ⟨hm1, hg0⟩ := (show _ → _ from Hone) rfl
      have Hm1 : Hid (m = 1) := hm1
      have Hg0 : Hid (((rows 0).length : Int) = ((R 0).length : Int)) := hg0
      have cm := (show ∀ wr, _ from HLens) wm (Below.refl _ _) 0 (by omega)
      clear hm1 hg0 Hone Hlo Hmid HLens
      generalize (rows 0).length = l0 at cm Hg0
      go_wp2_with (at_builtin; refine wpList_append_int rfl _ _ rfl D 0 (fun i => (R i).length) l0 _ _ HO Hg0 (by omega) hsm rfl rfl ?_; intro a' c' w' hO' hB')
      go_meet
      case rel => rw [show m = 1 from Hm1]; exact ⟨a', c', rfl, hO', hB'⟩
    · have hn2 : 2 ≤ n := by omega
      have g1 : ((n : Int) == 1) = false := beq_eq_false_iff_ne.2 (by omega)
      have g2 : decide ((n : Int) = 1) = false := decide_eq_false (by omega)
      have g3 : ¬ (n : Int) = 1 := by omega
      have e3 : IntKind.i64.wrap ((n : Int) - 1) = (n : Int) - 1 := by rw [IntKind.wrap_i64]; omega
      have e4 : IntKind.i64.wrap ((n : Int) - 2) = (n : Int) - 2 := by rw [IntKind.wrap_i64]; omega
      have ha2 := aOf_lt (n := n) (r := r') hn2 hr
      have hra : r' = n - 1 ∧ aOf n r' = n - 2 ∨ r' ≠ n - 1 ∧ aOf n r' = r' := by by_cases e : r' = n - 1 <;> simp [aOf, e]
      have hlo : Hid (∀ q, q < aOf n r' → ((rows q).length : Int) = ((R q).length : Int)) := (show _ → _ from Hlo) hn2
      have hmid := (show _ → _ from Hmid) hn2
      clear Hone Hlo Hmid
      have hmid' : Hid _ := hmid
      clear hmid
      generalize aOf n r' = a at *
      go_upto_if 95 with fail
      go_cut [12] (fun s12 wd => s12 = .int .i64 (a : Int) ∧ wm = wd)
      case first =>
        clear hmid' hlo HLens HO
        rcases hra with ⟨h1, h2⟩ | ⟨h1, h2⟩
        · have q1 : (r' : Int) = (n : Int) - 1 := by omega
          go_wp2_with fail
          go_meet
          case rel => exact ⟨by simp; omega, rfl⟩
        · have q1 : ¬ (r' : Int) = (n : Int) - 1 := by omega
          go_wp2_with fail
          go_meet
          case rel => exact ⟨by rw [h2], rfl⟩
      case rest =>
        obtain ⟨rfl, rfl⟩ := hcut
        clear hra
        go_wp2_with fail
        go_loopw [11, 13] (fun s i wr => ∃ (q : Nat) (aw : Option Addr) (cw : Nat), q ≤ a ∧ i = .int .i64 q ∧ s = .slice aw q cw ∧ Hid (OwnI wr D aw cw q (fun i => (R i).length)) ∧ Hid (Below D wm wr)) (fun _ i _ => a - (intOf i).toNat)
        case atStart => exact ⟨0, _, _, Nat.zero_le _, rfl, rfl, HO, Below.refl _ _⟩
        case round =>
          obtain ⟨q, aw, cw, hq, rfl, rfl, hOw, hBw⟩ := hrel
          have hDw : D ≤ wr.heap.size := Nat.le_trans hsm hBw.size
          by_cases hqa : q < a
          · have cq := (show ∀ wr, _ from HLens) wr hBw q (by omega)
            have Hgq : Hid (((rows q).length : Int) = ((R q).length : Int)) := (show ∀ q, _ from hlo) q hqa
            have k1 : (q : Int) < (n : Int) := by omega
            clear HLens hlo hmid'
            generalize (rows q).length = lq at cq Hgq
            go_wp2_with (at_builtin; refine wpList_append_int rfl _ _ rfl D q (fun i => (R i).length) lq _ _ hOw Hgq (by omega) hDw rfl rfl ?_; intro a' c' w' hO' hB')
            go_roundw
            case rel => exact ⟨q + 1, a', c', by omega, by go_num, rfl, hO', Below.trans hBw hB'⟩
            case measure => simp [intOf]; omega
          · obtain rfl : a = q := by omega
            have cq := (show ∀ wr, _ from HLens) wr hBw a (by omega)
            have cq1 := (show ∀ wr, _ from HLens) wr hBw (a + 1) (by omega)
            have k1 : (a : Int) < (n : Int) := by omega
            have k2 : (a : Int) + 1 < (n : Int) := by omega
            have p1 : 0 ≤ (a : Int) + 1 := by omega
            have e5 : IntKind.i64.wrap ((a : Int) + 1) = (a : Int) + 1 := by rw [IntKind.wrap_i64]; omega
            have e6 : IntKind.i64.wrap ((a : Int) + 2) = (a : Int) + 2 := by rw [IntKind.wrap_i64]; omega
            have t1 : ((a : Int) + 1).toNat = a + 1 := by omega
            have hp := pair_le (rows := rows) (n := n) (by omega) a (by omega)
            clear hlo
            generalize (rows a).length = la at *
            generalize (rows (a + 1)).length = lb at *
            have e7 : IntKind.i64.wrap ((la : Int) + (lb : Int)) = (la : Int) + (lb : Int) := by rw [IntKind.wrap_i64]; omega
            have e8 : IntKind.i64.wrap ((la : Int) + (lb : Int) - 256) = (la : Int) + (lb : Int) - 256 := by rw [IntKind.wrap_i64]; omega
            go_wp2_with fail
            go_quiet (fail)
            go_upto_if 121 with fail
            have hOq : Hid (OwnI (wr.drewN nq) D aw cw a (fun i => (R i).length)) := hOw
            have hBq : Hid (Below D wm (wr.drewN nq)) := Below.trans hBw (below_dN _ _ _)
            have hDq : D ≤ (wr.drewN nq).heap.size := hDw
            clear hOw hBw hDw cq cq1
            generalize wr.drewN nq = wq at *
            go_cut [11] (fun s11 wd => ∃ aw cw, s11 = .slice aw (a + 2 - (n - m)) cw ∧ Hid (OwnI wd D aw cw (a + 2 - (n - m)) (fun i => (R i).length)) ∧ Hid (Below D wm wd))
            case first =>
              clear HLens
              rcases hmid' with ⟨h5, hm, hga, -⟩ | ⟨h5, hm, hga, hgb, -⟩
              · have Hga : Hid ((la : Int) + (lb : Int) = ((R a).length : Int)) := hga
                have h6 : (la : Int) + (lb : Int) ≤ 512 := by omega
                have Hk : Hid (a + 2 - (n - m) = a + 1) := by show a + 2 - (n - m) = a + 1; omega
                clear hga hm
                go_wp2_with (at_builtin; refine wpList_append_int rfl _ _ rfl D a (fun i => (R i).length) _ _ _ hOq Hga (by omega) hDq rfl rfl ?_; intro a' c' w' hO' hB')
                go_meet
                case rel => rw [show a + 2 - (n - m) = a + 1 from Hk]; exact ⟨a', c', rfl, hO', Below.trans hBq hB'⟩
              · have Hga : Hid ((256 : Int) = ((R a).length : Int)) := hga
                have Hgb : Hid ((la : Int) + (lb : Int) - 256 = ((R (a + 1)).length : Int)) := hgb
                have h6 : ¬ (la : Int) + (lb : Int) ≤ 512 := by omega
                have Hk : Hid (a + 2 - (n - m) = a + 2) := by show a + 2 - (n - m) = a + 2; omega
                clear hga hgb hm
                go_wp2_with (first
                  | (at_builtin; refine wpList_append_int rfl _ _ rfl D a (fun i => (R i).length) _ _ _ hOq Hga (by omega) hDq rfl rfl ?_; intro a' c' w' hO' hB'; have hD' : D ≤ w'.heap.size := Nat.le_trans hDq hB'.size)
                  | (at_builtin; refine wpList_append_int rfl _ _ rfl D (a + 1) (fun i => (R i).length) _ _ _ hO' Hgb (by omega) hD' rfl rfl ?_; intro a'' c'' w'' hO'' hB''))
                go_meet
                case rel => rw [show a + 2 - (n - m) = a + 2 from Hk]; exact ⟨a'', c'', rfl, hO'', Below.trans (Below.trans hBq hB') hB''⟩
            case rest =>
              obtain ⟨aw, cw, rfl, hOw, hBw⟩ := hcut
              have Hhi : Hid (∀ q, a + 2 ≤ q → q < n → ((rows q).length : Int) = ((R (q - (n - m))).length : Int)) := fun q h1 h2 => by
                rcases hmid' with ⟨_, hm, _, h3⟩ | ⟨_, hm, _, _, h3⟩
                · rw [show n - m = 1 by omega]; exact h3 q h1
                · rw [show n - m = 0 by omega, Nat.sub_zero]; exact h3 q h1
              have hmn : n - m ≤ 1 := by rcases hmid' with ⟨_, hm, _⟩ | ⟨_, hm, _⟩ <;> omega
              have hmle : m ≤ n := by rcases hmid' with ⟨_, hm, _⟩ | ⟨_, hm, _⟩ <;> omega
              clear hmid' hOq hBq hDq
              go_wp2_with fail
              go_loopw [11, 15] (fun s i wr => ∃ (q : Nat) (aw : Option Addr) (cw : Nat), a + 2 ≤ q ∧ q ≤ n ∧ i = .int .i64 q ∧ s = .slice aw (q - (n - m)) cw ∧ Hid (OwnI wr D aw cw (q - (n - m)) (fun i => (R i).length)) ∧ Hid (Below D wm wr)) (fun _ i _ => n - (intOf i).toNat)
              case atStart => exact ⟨a + 2, aw, cw, Nat.le_refl _, by omega, by go_num, rfl, hOw, hBw⟩
              case round =>
                obtain ⟨q, aw, cw, hq1, hq, rfl, rfl, hOw, hBw⟩ := hrel
                have hDw : D ≤ wr.heap.size := Nat.le_trans hsm hBw.size
                by_cases hqa : q < n
                · have cq := (show ∀ wr, _ from HLens) wr hBw q (by omega)
                  have Hgq : Hid (((rows q).length : Int) = ((R (q - (n - m))).length : Int)) := (show ∀ q, _ from Hhi) q hq1 hqa
                  have Hk : Hid (q + 1 - (n - m) = q - (n - m) + 1) := by show q + 1 - (n - m) = q - (n - m) + 1; omega
                  clear HLens Hhi
                  generalize (rows q).length = lq at cq Hgq
                  generalize q - (n - m) = kq at *
                  have hkq : kq ≤ 1000000 := by have : q + 1 - (n - m) = kq + 1 := Hk; omega
                  go_wp2_with (at_builtin; refine wpList_append_int rfl _ _ rfl D kq (fun i => (R i).length) lq _ _ hOw Hgq hkq hDw rfl rfl ?_; intro a' c' w' hO' hB')
                  go_roundw
                  case rel => exact ⟨q + 1, a', c', by omega, by omega, by go_num, by rw [show q + 1 - (n - m) = kq + 1 from Hk], by rw [show q + 1 - (n - m) = kq + 1 from Hk]; exact hO', Below.trans hBw hB'⟩
                  case measure => simp [intOf]; omega
                · obtain rfl : n = q := by omega
                  have Hk : Hid (n - (n - m) = m) := by show n - (n - m) = m; omega
                  clear HLens Hhi
                  go_wp2_with fail
                  go_meet
                  case rel => exact ⟨aw, cw, by rw [show n - (n - m) = m from Hk], by rw [show n - (n - m) = m from Hk] at hOw; exact hOw, hBw⟩
  case rest =>
    obtain ⟨aw, cw, rfl, hOw, hBw⟩ := hcut
    have HA := (show ∀ wr, _ from HAll) wc hBw
    have hOwc : OwnI wc D aw cw m (fun i => (R i).length) := hOw
    have hFl : (flat rows n).length = tot (LL R) m := by rw [← hflat, length_flat]
    have hTl : tot (LL R) m ≤ 65536 := by rw [← hFl, length_flat]; exact hl
    have HG : Hid (∀ i j, i < m → j < (R i).length → (flat rows n).getD (tot (LL R) i + j) ByteArray.empty = (R i).getD j ByteArray.empty) := fun i j h1 h2 => by rw [← hflat]; exact flat_get h1 h2
    have HFS : Hid (∀ wx, Below wc.heap.size wc wx → Strs wx af (flat rows n).length cf (fun j => (flat rows n).getD j ByteArray.empty) bf 0) := fun wx hx => (HA.below hx).flat
    have HOut : Hid (∀ wx, Below wc.heap.size wc wx → Runs wx ad' cap' m (LL R) (SS R) v') := fun wx hx => (HA.below hx).out
    have HOwn : Hid (∀ wx, Below wc.heap.size wc wx → OwnI wx D aw cw m (fun i => (R i).length)) := fun wx hx => hOwc.below hx
    have HBel : Hid (∀ wx, Below wc.heap.size wc wx → Below w.heap.size w wx) := fun wx hx => (HA.below hx).bel
    have hout2 : m ≤ n := hout.1
    clear Hone Hlo Hmid HAll HO hOw hflat hsm HA hOwc hR hl hout
    generalize flat rows n = F at *
    generalize F.length = fl at *
    subst hFl
    go_wp2_with fail
    go_loopw [16, 17, 18] (fun k i _ wr => ∃ q kk : Nat, q ≤ m ∧ kk = tot (LL R) q ∧ i = .int .i64 q ∧ k = .int .i64 (kk : Int) ∧ Hid (Below wc.heap.size wc wr)) (fun _ i _ _ => m - (intOf i).toNat)
    case atStart => exact ⟨0, 0, Nat.zero_le _, rfl, rfl, rfl, Below.refl _ _⟩
    case round =>
      obtain ⟨q, kk, hq, hkk, rfl, rfl, hb⟩ := hrel
      by_cases hqm : q < m
      · obtain ⟨bw, rfl, hcw⟩ := ((show ∀ wx, _ from HOwn) wr hb).cell (by omega)
        have cw0 : wr.cell? ⟨bw, q, none⟩ = some (.int .i64 ((R q).length : Int)) := hcw q hqm
        have hOr := (show ∀ wx, _ from HOut) wr hb
        have c0 : wr.cell? ⟨v'.b, v'.off + q, none⟩ = some (.slice (v'.A q) (R q).length (v'.Cp q)) := hOr.cell q hqm
        obtain rfl := hOr.at_ (by omega)
        have hcell : Hid (∀ wx, Below wc.heap.size wc wx → wx.cell? ⟨v'.b, v'.off + q, none⟩ = some (.slice (v'.A q) (R q).length (v'.Cp q))) := fun wx hx => ((show ∀ wx, _ from HOut) wx hx).cell q hqm
        have hstr : Hid (∀ wx, Below wc.heap.size wc wx → Strs wx (v'.A q) (R q).length (v'.Cp q) (fun j => (R q).getD j ByteArray.empty) (v'.bb q) (v'.oo q)) := fun wx hx => ((show ∀ wx, _ from HOut) wx hx).run hqm
        have m1 := tot_mono (L := LL R) (i := q + 1) (k := m) (by omega)
        have et : tot (LL R) (q + 1) = kk + (R q).length := by rw [hkk]; rfl
        have HGq : Hid (∀ j, j < (R q).length → F.getD (kk + j) ByteArray.empty = (R q).getD j ByteArray.empty) := fun j hj => by rw [hkk]; exact (show ∀ i j, _ from HG) q j hqm hj
        have k1 : (q : Int) < (m : Int) := by omega
        clear HG hcw hOr HOwn HOut hkk
        have Het : Hid (kk + (R q).length = tot (LL R) (q + 1)) := et.symm
        rw [et] at m1
        clear et
        generalize (R q).length = lq at *
        generalize v'.A q = aq at *
        generalize v'.Cp q = cq at *
        go_wp2_with fail
        go_quiet (fail)
        go_wp2_with fail
        go_loopw [16, 18] (fun k j wx => ∃ p k2 : Nat, p ≤ lq ∧ k2 = kk + p ∧ j = .int .i64 p ∧ k = .int .i64 (k2 : Int) ∧ Hid (Below wc.heap.size wc wx)) (fun _ j _ => lq - (intOf j).toNat)
        case atStart => exact ⟨0, kk, Nat.zero_le _, rfl, rfl, rfl, Below.trans hb (below_dN _ _ _)⟩
        case round =>
          obtain ⟨p, k2, hp, hk2, rfl, rfl, hx⟩ := hrel
          by_cases hpl : p < lq
          · have c1 := (show ∀ wx, _ from hcell) _ hx
            have hs1 := (show ∀ wx, _ from hstr) _ hx
            have hf1 := (show ∀ wx, _ from HFS) _ hx
            have s0 := hs1.c0 p hpl
            obtain rfl := hs1.at_ (by omega)
            have f0 := hf1.c0 k2 (by omega)
            rw [Nat.zero_add] at f0
            obtain rfl := hf1.at_ (by omega)
            rw [hk2, (show ∀ j, _ from HGq) p hpl, ← hk2] at f0
            have q1 : decide (tot (LL R) m ≤ k2) = false := decide_eq_false (by omega)
            have q2 : (k2 : Int) < ((tot (LL R) m : Nat) : Int) := by omega
            have q3 : (p : Int) < (lq : Int) := by omega
            have Hk2 : Hid (k2 = kk + p) := hk2
            clear hs1 hf1 hcell hstr HFS HGq hk2
            generalize (R q).getD p ByteArray.empty = s at s0 f0
            go_wp2_with fail
            go_quiet (fail)
            go_wp2_with fail
            go_roundw
            case rel => exact ⟨p + 1, k2 + 1, by omega, by have : k2 = kk + p := Hk2; omega, by go_num, by go_num, Below.trans hx (below_dN _ _ _)⟩
            case measure => simp [intOf]; omega
          · have c1 := (show ∀ wx, _ from hcell) _ hx
            have Hk2 : Hid (k2 = kk + p) := hk2
            clear hk2
            go_wp2_with fail
            go_roundw
            case rel => exact ⟨q + 1, k2, by omega, by have h1 : kk + lq = tot (LL R) (q + 1) := Het; have h2 : k2 = kk + p := Hk2; omega, by go_num, rfl, hx⟩
            case measure => simp [intOf]; omega
      · obtain rfl : q = m := by omega
        subst hkk
        have bel := (show ∀ wx, _ from HBel) wr hb
        go_wp2_with fail
        go_ret
        exact ⟨rfl, bel⟩
end Go.Proofs.Qxb6601288a
