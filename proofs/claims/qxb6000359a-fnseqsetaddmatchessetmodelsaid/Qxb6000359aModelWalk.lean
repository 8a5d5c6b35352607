import Derived.Test.Qxb6000359aReplayWalk
namespace Go.Proofs.Qxb6000359a
open Go.RowKit

/-- the plain-set model's numbers -/
def modelT (us : List Int) (x : Int) : Bool := decide (x = 0) || us.contains x

theorem getD_at {l : List Int} {j : Nat} (h : j < l.length) : l.getD j 0 = l[j] := by simp [List.getD, List.getElem?_eq_getElem h]

theorem modelT_hit {us : List Int} {s : Int} {k : Nat} (hk : k < us.length) (h : us.getD k 0 = s) : modelT us s = true := by
  have : s ∈ us := by rw [← h, getD_at hk]; exact List.getElem_mem hk
  simp [modelT, this]
theorem modelT_miss {us : List Int} {s : Int} (h0 : s ≠ 0) (h : ∀ j, j < us.length → us.getD j 0 ≠ s) : modelT us s = false := by
  simp [modelT, h0]
  intro hm
  obtain ⟨j, hj, e⟩ := List.getElem_of_mem hm
  exact h j hj (by rw [getD_at hj]; exact e)

set_option maxHeartbeats 1000000 in
theorem modelHas_any (mx i s : Int) (us : List Int) (G cap : Nat) (w : World) (hl : us.length ≤ 1000000) (hc : ∀ j, j < us.length → w.cell? ⟨G, j, none⟩ = some (.int .u64 (us.getD j 0))) :
    Calls Try.prog 13 #[.int .u64 mx, .slice (some ⟨G, 0, none⟩) us.length cap, .int .u64 i, .int .u64 s] w fun e w' => e = .returned (.bool (memB mx (modelT us) i s)) ∧ w' = w := by
  obtain ⟨m, hm⟩ : ∃ m, m = us.length := ⟨_, rfl⟩
  rw [← hm] at hl hc ⊢
  by_cases h1 : i < mx
  · have e : Hid (memB mx (modelT us) i s = true) := by unfold memB; simp [h1, Hid]
    clear hm hc
    go_enter Try.func13, Try.ntmps13
    go_wp2
    go_ret
    exact ⟨ret_bool e.out.symm, rfl⟩
  by_cases h2 : i = mx
  · subst h2
    by_cases h3 : s = 0
    · have e : Hid (memB i (modelT us) i s = true) := by unfold memB modelT; simp [h3, Hid]
      have h3' : (s == 0) = true := by simpa using h3
      clear hm hc h3
      go_enter Try.func13, Try.ntmps13
      go_wp2
      go_ret
      exact ⟨ret_bool e.out.symm, rfl⟩
    · have h3' : (s == 0) = false := by simpa using h3
      have e : Hid (memB i (modelT us) i s = modelT us s) := by unfold memB; simp [Hid]
      have HM : Hid (m = us.length) := hm
      clear hm
      go_enter Try.func13, Try.ntmps13
      go_wp2
      go_loop [9] (fun t => ∃ k : Nat, k ≤ m ∧ t = .int .i64 k ∧ ∀ j, j < k → us.getD j 0 ≠ s) (fun t => m - (intOf t).toNat)
      case atStart => exact ⟨0, Nat.zero_le _, rfl, fun j hj => absurd hj (Nat.not_lt_zero _)⟩
      case round =>
        obtain ⟨k, hk, rfl, hno⟩ := hrel
        have HN : Hid (∀ j, j < k → us.getD j 0 ≠ s) := hno
        clear hno
        by_cases hlt : k < m
        · have c0 := hc k hlt
          obtain ⟨u, hu⟩ : ∃ u, Hid (u = us.getD k 0) := ⟨_, rfl⟩
          rw [← hu.out] at c0
          clear hc
          by_cases heq : u = s
          · have heq' : (u == s) = true := by simpa using heq
            have HQ : Hid (u = s) := heq
            clear heq
            go_wp2
            go_ret
            exact ⟨ret_bool (by rw [e.out, modelT_hit (us := us) (k := k) (by rw [← HM.out]; exact hlt) (by rw [← hu.out]; exact HQ.out)]), rfl⟩
          · have heq' : (u == s) = false := by simpa using heq
            have HQ : Hid (u ≠ s) := heq
            clear heq
            go_wp2
            go_round
            case rel =>
              refine ⟨k + 1, by omega, by go_num, fun j hj => ?_⟩
              by_cases ej : j = k
              · subst ej; rw [← hu.out]; exact HQ.out
              · exact HN.out j (by omega)
            case measure => simp [intOf]; omega
        · clear hc
          go_wp2
          go_ret
          exact ⟨ret_bool (by rw [e.out, modelT_miss h3 (fun j hj => HN.out j (by have := HM.out; omega))]), rfl⟩
  · have h2' : (i != mx) = true := by simpa using h2
    have e : Hid (memB mx (modelT us) i s = false) := by unfold memB; simp [h1, h2, Hid]
    clear hm hc h2
    go_enter Try.func13, Try.ntmps13
    go_wp2
    go_ret
    exact ⟨ret_bool e.out.symm, rfl⟩

theorem info27 : (Try.prog.info? 27).map (fun i => (i.zero, i.size, i.bytes)) = some (some (.int .u64 0), 1, 8) := by kernel_rfl
theorem make_cap (n : Nat) (hb : 8 * n ≤ 281474976710656) (w : World) :
    (Instr.makeSlice 28 (.int .i64 0) (.int .i64 (n : Int))).run Try.prog w = .ok (.slice (some ⟨w.heap.size, 0, none⟩) 0 n) (w.alloc (.cells (madeCells #[.int .u64 0] n) 27)) := by
  obtain ⟨i, hi, hzz⟩ := Option.map_eq_some_iff.1 info27
  simp only [Prod.mk.injEq] at hzz
  obtain ⟨hz, hs, hbb⟩ := hzz
  have hr := run_make (P := Try.prog) w 28 27 i (.int .u64 0) Try.underlying28 hi hz .i64 .i64 0 n (by omega) (by omega) (by rw [hbb]; omega) (by omega)
  simp only [Int.toNat_natCast, hs, Nat.mul_one] at hr
  exact hr

/-- the row of numbers, owned -/
def Us (w : World) (B G cap : Nat) (us : List Int) : Prop := w.ownsRow B 27 1 (.slice (some ⟨G, 0, none⟩) us.length cap) us.length (us.map (Value.int .u64))
theorem Us.of_block {w w' : World} {B G cap : Nat} {us : List Int} (h : Us w B G cap us) (e : w'.heap[G]? = w.heap[G]?) : Us w' B G cap us := by
  obtain ⟨h1, h2⟩ := h
  refine ⟨h1, ?_⟩
  rcases h2 with ⟨h2, _⟩ | ⟨g, cp, cur, hv, hg, hh, r⟩
  · cases h2
  · cases hv
    exact Or.inr ⟨_, _, cur, rfl, hg, e.trans hh, r⟩
theorem Us.clear {w : World} {B G cap : Nat} {us : List Int} (h : Us w B G cap us) : Us w B G cap [] := by
  obtain ⟨h1, h2⟩ := h
  refine ⟨rfl, ?_⟩
  rcases h2 with ⟨h2, _⟩ | ⟨g, cp, cur, hv, hg, hh, hl, hm, hs, _⟩
  · cases h2
  · cases hv
    exact Or.inr ⟨_, _, cur, rfl, hg, hh, Nat.zero_le _, hm, hs, by simp⟩
theorem Us.block {w : World} {B G cap : Nat} {us : List Int} (h : Us w B G cap us) : ∃ cs, w.heap[G]? = some (.cells cs 27 (0, 0)) := by
  obtain ⟨h1, h2⟩ := h
  rcases h2 with ⟨h2, _⟩ | ⟨g, cp, cur, hv, hg, hh, hl, hm, hs, _⟩
  · cases h2
  · cases hv
    exact ⟨_, hh⟩
theorem Us.cell {w : World} {B G cap : Nat} {us : List Int} (h : Us w B G cap us) {j : Nat} (hj : j < us.length) : w.cell? ⟨G, j, none⟩ = some (.int .u64 (us.getD j 0)) := by
  obtain ⟨h1, h2⟩ := h
  rcases h2 with ⟨h2, _⟩ | ⟨g, cp, cur, hv, hg, hh, hl, hm, hs, ht⟩
  · cases h2
  · cases hv
    have e : cur.toList[j]? = some (.int .u64 (us.getD j 0)) := by
      have : (cur.toList.take (us.length * 1))[j]? = (us.map (Value.int .u64))[j]? := by rw [ht]
      rw [List.getElem?_take_of_lt (by omega)] at this
      rw [this, List.getElem?_map, List.getElem?_eq_getElem hj]
      rw [getD_at hj]; rfl
    exact cell_of_block hh (by simpa using e)
theorem Us.made (w : World) (B cap : Nat) (hB : B ≤ w.heap.size) (hc : cap ≤ 1000000) : Us (w.alloc (.cells (madeCells #[.int .u64 0] cap) 27)) B w.heap.size cap [] :=
  World.ownsRow_made w _ cap hB (by unfold maxLen; omega) (by rw [size_madeCells]; omega)

theorem memB_model {inc : Int} {T : Int → Bool} {us : List Int} (hT : ∀ x, 0 ≤ x → T x = modelT us x) {i s : Int} (hs : 0 ≤ s) : memB inc T i s = memB inc (modelT us) i s := by
  unfold memB; rw [hT s hs]
theorem add_model_new {inc : Int} {T : Int → Bool} {i s : Int} (h : inc < i) : ∀ x, 0 ≤ x → addT inc T i s x = modelT [s] x := by
  intro x hx
  unfold addT modelT
  rw [if_pos h]
  have : decide (x ≤ 0) = decide (x = 0) := by rw [decide_eq_decide]; omega
  rw [this]
  simp
theorem add_model_old {inc : Int} {T : Int → Bool} {us : List Int} (hT : ∀ x, 0 ≤ x → T x = modelT us x) {i s : Int} (h : ¬ inc < i) : ∀ x, 0 ≤ x → addT inc T i s x = modelT (us ++ [s]) x := by
  intro x hx
  unfold addT
  rw [if_neg h, hT x hx]
  unfold modelT
  rw [Bool.eq_iff_iff]
  simp [or_assoc]
theorem mem_added {inc : Int} {T : Int → Bool} {i s : Int} : memB i (addT inc T i s) i s = true := by
  unfold memB addT
  split <;> simp

theorem zero_model : ∀ x, 0 ≤ x → zeroT x = modelT [] x := by
  intro x hx
  unfold zeroT modelT
  simp
  omega
section
variable {W : World} {g1 g2 Q len1 len2 : Nat} {I S J R : Nat → Int} {M c : Nat} {inc : Int} {T : Int → Bool} {wr : World} {B G cap : Nat} {us : List Int}
theorem ne_of (hU : Us wr B G cap us) (hM : Mem5 W g1 g2 Q len1 len2 I S J R M c inc T wr) : G ≠ M := by
  obtain ⟨cs, h⟩ := hU.block
  exact fun e => hM.set.ne_cells h e.symm
theorem us_lt (hU : Us wr B G cap us) (hM : Mem5 W g1 g2 Q len1 len2 I S J R M c inc T wr) : G < wr.heap.size ∧ M < wr.heap.size := by
  obtain ⟨cs, h⟩ := hU.block
  exact ⟨lt_of_block h, hM.set.lts.2⟩
end

set_option maxRecDepth 100000 in
set_option maxHeartbeats 4000000 in
theorem model_walk (ad1 ad2 : Option Addr) (len1 cap1 len2 cap2 : Nat) (I S J R : Nat → Int) (w : World) (hl1 : len1 ≤ 4096) (hl2 : len2 ≤ 4096)
    (h1 : IsPairs w ad1 len1 cap1 (fun i => .int .u64 (I i)) (fun i => .int .u64 (S i))) (h2 : IsPairs w ad2 len2 cap2 (fun i => .int .u64 (J i)) (fun i => .int .u64 (R i)))
    (b1 : ∀ i, i < len1 → (0 ≤ I i ∧ I i ≤ 18446744073709551615) ∧ 0 ≤ S i ∧ S i ≤ 18446744073709551615) (b2 : ∀ i, i < len2 → (0 ≤ J i ∧ J i ≤ 18446744073709551615) ∧ 0 ≤ R i ∧ R i ≤ 18446744073709551615) :
    Calls Try.prog 3 #[.slice ad1 len1 cap1, .slice ad2 len2 cap2] w fun e w' => e = .returned (.bool true) ∧ Below w.heap.size w w' := by
  have ct1 := copyReqs_all ad1 len1 cap1 I S w (by omega) h1
  have ct2 := fun w1 (hb : Below w.heap.size w w1) => copyReqs_all ad2 len2 cap2 J R w1 (by omega) (h2.below hb)
  clear h1 h2
  have hmk := make_cap len1 (by omega)
  go_enter Try.func3, Try.ntmps3
  go_wp2_with (first | (go_at_call 11; go_at_call_of 11 cap1; refine ct1.mono ?_; rintro e w1 ⟨d1, cp1, rfl, hd1, hb1, hr1⟩) | (go_at_call 11; refine (ct2 _ hb1).mono ?_; rintro e w2 ⟨d2, cp2, rfl, hd2, hb2, hr2⟩) | (go_at_call 12; refine (new_any _).mono ?_; rintro e w' ⟨rfl, rfl⟩) | go_in)
  have hst := Mem5.start hb1 hb2 hr1 hr2
  have hz1 := hb1.size
  have hz2 := hb2.size
  have hU0 := Us.made ((w2.alloc (.map #[] 0)).alloc (.cells (seqC 0 0 w2.heap.size) 67)) w.heap.size len1 (by simp; omega) (by omega)
  have hst2 := hst.grow ((Below.refl _ _).alloc (Nat.le_refl _) (.cells (madeCells #[.int .u64 0] len1) 27))
  obtain ⟨i0, hi, hz0, hz1, hz2'⟩ := info_parts info27
  clear ct1 ct2 hb1 hb2 hr1 hr2 hst
  go_loopw [6, 7, 8] (fun s6 s7 s8 wr => ∃ (k M c : Nat) (inc : Int) (T : Int → Bool) (us : List Int), k ≤ len1 ∧ s6 = .int .u64 inc ∧ s7 = .slice (some ⟨w2.heap.size + 1 + 1, 0, none⟩) us.length len1 ∧ s8 = .int .i64 k ∧ us.length ≤ k ∧ c ≤ k ∧ Hid (∀ x, 0 ≤ x → T x = modelT us x) ∧ Mem5 w w.heap.size w1.heap.size (w2.heap.size + 1) len1 len2 I S J R M c inc T wr ∧ Us wr w.heap.size (w2.heap.size + 1 + 1) len1 us) (fun _ _ s8 _ => len1 - (intOf s8).toNat)
  case atStart => exact ⟨0, _, 0, 0, zeroT, [], Nat.zero_le _, rfl, rfl, rfl, Nat.le_refl _, Nat.le_refl _, zero_model, hst2, by simpa using hU0⟩
  case round =>
    clear hst2 hU0
    obtain ⟨k, M, c, inc, T, us, hk, rfl, rfl, rfl, hus, hc, hT, hM, hU⟩ := hrel
    have hGM0 := ne_of hU hM
    obtain ⟨hGl, -⟩ := us_lt hU hM
    by_cases hlt : k < len1
    · obtain rfl := hd1 (by omega)
      have c0 := hM.row1.c0 hlt
      have c1 := hM.row1.c1 hlt
      obtain ⟨⟨i0', i1⟩, s0, s1⟩ := b1 k hlt
      have cm := modelHas_any inc (I k) (S k) us (w2.heap.size + 1 + 1) len1 wr (by omega) (fun j hj => hU.cell hj)
      rw [← memB_model hT.out s0] at cm
      cases hm : memB inc T (I k) (S k)
      · have cad := seqAdd_yes (w2.heap.size + 1) M c inc (I k) (S k) T wr hM.set s0 s1 (by omega) hm
        rw [hm] at cm
        have HM : Hid (memB inc T (I k) (S k) = false) := hm
        clear hm
        by_cases hgt : inc < I k
        · have hT' : Hid (∀ x, 0 ≤ x → addT inc T (I k) (S k) x = modelT [S k] x) := add_model_new hgt
          go_wp2_with (first | (go_at_call 13; refine cm.mono ?_; rintro e w' ⟨rfl, rfl⟩) | (go_at_call 14; refine cad.mono ?_; rintro e w3 ⟨rfl, M', ha, hMa, hkp⟩; have hM2 := hM.add ha hMa hkp; have hU2 := hU.of_block (hkp.block _ hGl (by omega) hGM0); have hGl3 := Nat.lt_of_lt_of_le hGl hkp.size; have hGM := ne_of hU2 hM2) | (at_builtin; refine wpList_append_fits _ rfl _ _ 28 rfl w.heap.size 27 i0 1 Try.underlying28 hi hz1 (w2.heap.size + 1 + 1) 0 len1 [] rfl (hU2.clear.of_block (Below.heap_alloc _ _ _ hGl3)) ⟨w3.heap.size, 0, none⟩ 1 1 [.int .u64 (S k)] rfl rfl (cell_one_new _ _ _) (ints_oneCell .u64 [S k]) (by omega) ?_; intro w4 hown4 hg4; have hM4 := (hM2.grow ((Below.refl _ _).alloc (Nat.le_refl _) (.cells #[.int .u64 (S k)] 27))).other hg4 (by omega) (by omega) hGM (by omega) (by omega)) | (go_at_call 15; refine (seqHas _ _ _ _ _ _ _ _ hM4.set s0 s1).mono ?_; rw [mem_added]; rintro e w5 ⟨rfl, cc, kk, rfl⟩))
          go_roundw
          case rel =>
            have hU4 : Us w4 w.heap.size (w2.heap.size + 1 + 1) len1 [S k] := hown4
            exact ⟨k + 1, M', c + 1, I k, _, [S k], by omega, rfl, rfl, by go_num, by simp, by omega, hT', (hM4.grow ((Below.refl _ _).alloc (Nat.le_refl _) (.cells cc 70))).grow (below_drewN1 _ _ _), hU4.of_block (Below.heap_alloc _ _ _ (us_lt hU4 hM4).1)⟩
          case measure => simp [intOf]; omega
        · have hT' : Hid (∀ x, 0 ≤ x → addT inc T (I k) (S k) x = modelT (us ++ [S k]) x) := add_model_old hT.out hgt
          have HI : Hid (inc = I k) := by
            have := HM.out
            unfold memB at this
            simp at this
            show inc = I k
            omega
          go_wp2_with (first | (go_at_call 13; refine cm.mono ?_; rintro e w' ⟨rfl, rfl⟩) | (go_at_call 14; refine cad.mono ?_; rintro e w3 ⟨rfl, M', ha, hMa, hkp⟩; have hM2 := hM.add ha hMa hkp; have hU2 := hU.of_block (hkp.block _ hGl (by omega) hGM0); have hGl3 := Nat.lt_of_lt_of_le hGl hkp.size; have hGM := ne_of hU2 hM2) | (at_builtin; refine wpList_append_fits _ rfl _ _ 28 rfl w.heap.size 27 i0 1 Try.underlying28 hi hz1 (w2.heap.size + 1 + 1) us.length len1 (us.map (Value.int .u64)) rfl (hU2.of_block (Below.heap_alloc _ _ _ hGl3)) ⟨w3.heap.size, 0, none⟩ 1 1 [.int .u64 (S k)] rfl rfl (cell_one_new _ _ _) (ints_oneCell .u64 [S k]) (by omega) ?_; intro w4 hown4 hg4; have hM4 := (hM2.grow ((Below.refl _ _).alloc (Nat.le_refl _) (.cells #[.int .u64 (S k)] 27))).other hg4 (by omega) (by omega) hGM (by omega) (by omega)) | (go_at_call 15; refine (seqHas _ _ _ _ _ _ _ _ hM4.set s0 s1).mono ?_; rw [mem_added]; rintro e w5 ⟨rfl, cc, kk, rfl⟩))
          go_roundw
          case rel =>
            have hU4 : Us w4 w.heap.size (w2.heap.size + 1 + 1) len1 (us ++ [S k]) := by
              unfold Us
              rw [List.length_append, List.map_append]
              exact hown4
            exact ⟨k + 1, M', c + 1, I k, _, us ++ [S k], by omega, by rw [HI.out], by rw [List.length_append]; rfl, by go_num, by simp; omega, by omega, hT', (hM4.grow ((Below.refl _ _).alloc (Nat.le_refl _) (.cells cc 70))).grow (below_drewN1 _ _ _), hU4.of_block (Below.heap_alloc _ _ _ (us_lt hU4 hM4).1)⟩
          case measure => simp [intOf]; omega
      · have cad := seqAdd_no (w2.heap.size + 1) M c inc (I k) (S k) T wr hM.set s0 s1 hm
        rw [hm] at cm
        have HM : Hid (memB inc T (I k) (S k) = true) := hm
        clear hm
        go_wp2_with (first | (go_at_call 13; refine cm.mono ?_; rintro e w' ⟨rfl, rfl⟩) | (go_at_call 14; refine cad.mono ?_; rintro e w3 ⟨rfl, ha, hkp⟩; have hM2 := hM.add ha (Or.inl rfl) hkp; have hU2 := hU.of_block (hkp.block _ hGl (by omega) hGM0); have hGl3 := Nat.lt_of_lt_of_le hGl hkp.size) | (go_at_call 15; refine (seqHas _ _ _ _ _ _ _ _ hM2.set s0 s1).mono ?_; rw [HM.out]; rintro e w5 ⟨rfl, cc, kk, rfl⟩))
        go_roundw
        case rel => exact ⟨k + 1, M, c, inc, T, us, by omega, rfl, rfl, by go_num, by omega, by omega, hT, (hM2.grow ((Below.refl _ _).alloc (Nat.le_refl _) (.cells cc 70))).grow (below_drewN1 _ _ _), hU2.of_block (Below.heap_alloc _ _ _ hGl3)⟩
        case measure => simp [intOf]; omega
    · have hM0 := hM
      have hU0 := hU
      clear hM hU
      go_wp2_with fail
      go_loopw [12] (fun s12 wr => ∃ j : Nat, j ≤ len2 ∧ s12 = .int .i64 j ∧ Mem5 w w.heap.size w1.heap.size (w2.heap.size + 1) len1 len2 I S J R M c inc T wr ∧ Us wr w.heap.size (w2.heap.size + 1 + 1) len1 us) (fun s12 _ => len2 - (intOf s12).toNat)
      case atStart => exact ⟨0, Nat.zero_le _, rfl, hM0, hU0⟩
      case round =>
        clear hM0 hU0
        obtain ⟨j, hj, rfl, hM, hU⟩ := hrel
        by_cases hlt2 : j < len2
        · obtain rfl := hd2 (by omega)
          have c0 := hM.row2.c0 hlt2
          have c1 := hM.row2.c1 hlt2
          obtain ⟨⟨i0', i1⟩, s0, s1⟩ := b2 j hlt2
          have hGl2 := (us_lt hU hM).1
          have cm := fun cc kk => modelHas_any inc (J j) (R j) us (w2.heap.size + 1 + 1) len1 ((wr.alloc (.cells cc 70)).drewN kk) (by omega) (fun i hi => ((hU.of_block (w' := wr.alloc (.cells cc 70)) (Below.heap_alloc _ _ _ hGl2)).of_block (w' := (wr.alloc (.cells cc 70)).drewN kk) rfl).cell hi)
          rw [← memB_model hT.out s0] at cm
          have ch := seqHas (w2.heap.size + 1) M c inc (J j) (R j) T wr hM.set s0 s1
          generalize memB inc T (J j) (R j) = bb at cm ch
          go_wp2_with (first | (go_at_call 15; refine ch.mono ?_; rintro e w5 ⟨rfl, cc, kk, rfl⟩) | (go_at_call 13; refine (cm _ _).mono ?_; rintro e w6 ⟨rfl, rfl⟩))
          go_roundw
          case rel => exact ⟨j + 1, by omega, by go_num, (hM.grow ((Below.refl _ _).alloc (Nat.le_refl _) (.cells cc 70))).grow (below_drewN1 _ _ _), hU.of_block (Below.heap_alloc _ _ _ hGl2)⟩
          case measure => simp [intOf]; omega
        · go_wp2
          go_ret
          exact ⟨rfl, hM.bel⟩
end Go.Proofs.Qxb6000359a
