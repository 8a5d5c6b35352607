import Derived.Test.Qxb6601288aCopyRuns
namespace Go.Proofs.Qxb6601288a
open Go.RowKit Go.Deep

theorem make_caps (n : Nat) (hb : 16 * n ≤ 281474976710656) (w : World) :
    (Instr.makeSlice 22 (.int .i64 0) (.int .i64 (n : Int))).run Try.prog w = .ok (.slice (some ⟨w.heap.size, 0, none⟩) 0 n) (w.alloc (.cells (madeCells #[.string ByteArray.empty] n) 9)) := by
  obtain ⟨i, hi, hz, hs, hbb⟩ := info_parts info9
  have hr := run_make (P := Try.prog) w 22 9 i (.string ByteArray.empty) Try.underlying22 hi hz .i64 .i64 0 n (by omega) (by omega) (by rw [hbb]; omega) (by omega)
  simp only [Int.toNat_natCast, hs, Nat.mul_one, Int.toNat_zero] at hr
  exact hr

/-- the runs one after another -/
def flat (rows : Nat → List ByteArray) : Nat → List ByteArray
  | 0 => []
  | k + 1 => flat rows k ++ rows k
theorem length_flat (rows : Nat → List ByteArray) (k : Nat) : (flat rows k).length = tot (LL rows) k := by
  induction k with
  | zero => rfl
  | succ k ih => simp [flat, tot, ih]

theorem OwnS.of_value {w : World} {B : Nat} {v : Value} {l : List ByteArray} (h : w.ownsRow B 9 1 v l.length (l.map Value.string)) : ∃ a c, v = .slice a l.length c ∧ OwnS w B a c l := by
  obtain ⟨h1, ⟨rfl, h3⟩ | ⟨g, c, cur, rfl, h3⟩⟩ := id h
  · exact ⟨none, 0, by rw [h3], by unfold OwnS; rw [h3] at h ⊢; exact h⟩
  · exact ⟨_, c, rfl, h⟩
theorem below_grown {B : Nat} {w0 w w1 : World} {row : Option Nat} (h : Below B w0 w) (hg : w.grownBy w1 row) (hB : B ≤ w.heap.size) (hr : ∀ k, row = some k → B ≤ k) : Below B w0 w1 :=
  h.trans ⟨hg.os, hg.tape, hg.output, hg.size, fun k hk => hg.block k (by omega) (fun e => by have := hr k e.symm; omega)⟩
theorem str_one (s : ByteArray) : ∀ u ∈ [Value.string s], u.oneCell' = true := by simp [Value.oneCell']

set_option maxHeartbeats 2000000 in
theorem flat_any (ad : Option Addr) (cap n : Nat) (rows : Nat → List ByteArray) (v : RV) (w : World) (hn : n ≤ 1000000) (hl : tot (LL rows) n ≤ 1000000) (h : Runs w ad cap n (LL rows) (SS rows) v) :
    Calls Try.prog 29 #[.slice ad n cap] w fun e w' => ∃ a c, e = .returned (.slice a (flat rows n).length c) ∧ OwnS w' w.heap.size a c (flat rows n) ∧ Below w.heap.size w w' := by
  obtain ⟨i0, hi, hz0, hz1, hz2⟩ := info_parts info9
  go_enter Try.func29, Try.ntmps29
  go_wp2
  go_loop [3, 4] (fun z i => ∃ k : Nat, k ≤ n ∧ i = .int .i64 k ∧ z = .int .i64 (tot (LL rows) k : Int)) (fun _ i => n - (intOf i).toNat)
  case atStart => exact ⟨0, Nat.zero_le _, rfl, rfl⟩
  case round =>
    obtain ⟨k, hk, rfl, rfl⟩ := hrel
    by_cases hlt : k < n
    · obtain rfl := h.at_ (by omega)
      have c0 := h.cell k hlt
      have et : tot (LL rows) (k + 1) = tot (LL rows) k + LL rows k := rfl
      have m1 := tot_mono (L := LL rows) (i := k + 1) (k := n) (by omega)
      clear h
      generalize tot (LL rows) n = tn at hl m1
      generalize LL rows k = lk at c0 et
      generalize v.A k = ak at c0
      generalize v.Cp k = ck at c0
      go_wp2
      go_round
      case rel => exact ⟨k + 1, by omega, by go_num, by rw [et]; go_num⟩
      case measure => simp [intOf]; omega
    · obtain rfl : k = n := by omega
      have hmk := make_caps (tot (LL rows) k) (by omega)
      have hlen : ∀ q, q < k → (flat rows q).length + (rows q).length ≤ 1000000 := fun q hq => by
        have m1 := tot_mono (L := LL rows) (i := q + 1) (k := k) (by omega)
        rw [length_flat]
        simp only [tot, LL] at m1 hl ⊢
        omega
      generalize tot (LL rows) k = tn at hl hmk
      go_wp2
      go_loopw [5, 6, 7] (fun s i _ wr => ∃ (q : Nat) (a : Option Addr) (c : Nat), q ≤ k ∧ i = .int .i64 q ∧ s = .slice a (flat rows q).length c ∧ OwnS wr w.heap.size a c (flat rows q) ∧ Below w.heap.size w wr) (fun _ i _ _ => k - (intOf i).toNat)
      case atStart => exact ⟨0, _, _, Nat.zero_le _, rfl, rfl, World.ownsRow_made w _ _ (Nat.le_refl _) (by unfold maxLen; omega) (by rw [size_madeCells, Nat.mul_one]), (Below.refl _ _).alloc (Nat.le_refl _) _⟩
      case round =>
        obtain ⟨q, a, c, hq, rfl, rfl, hO, hbel⟩ := hrel
        by_cases hqk : q < k
        · obtain rfl := h.at_ (by omega)
          have hr : Strs w (v.A q) (rows q).length (v.Cp q) (fun j => (rows q).getD j ByteArray.empty) (v.bb q) (v.oo q) := h.run hqk
          have c0 := h.cell q hqk
          have hcell := fun (wr : World) (hb : Below w.heap.size w wr) => (hb.cell (p := ⟨v.b, v.off + q, none⟩) (World.block_lt_of_cell? w _ c0)).trans c0
          have hlq := hlen q hqk
          have ef : Hid (flat rows (q + 1) = flat rows q ++ rows q) := rfl
          clear h c0 hlen
          simp only [LL] at hcell
          generalize flat rows q = F at *
          generalize rows q = R at *
          generalize v.A q = ak at *
          generalize v.Cp q = ck at *
          go_wp2
          go_loopw [5, 7] (fun s j wr => ∃ (p : Nat) (a : Option Addr) (c : Nat), p ≤ R.length ∧ j = .int .i64 p ∧ s = .slice a (F ++ R.take p).length c ∧ OwnS wr w.heap.size a c (F ++ R.take p) ∧ Below w.heap.size w wr) (fun _ j _ => R.length - (intOf j).toNat)
          case atStart => exact ⟨0, a, c, Nat.zero_le _, rfl, by simp, by simpa using hO, hbel⟩
          case round =>
            obtain ⟨p, a, c, hp, rfl, rfl, hO, hbel⟩ := hrel
            have c0 := hcell _ hbel
            by_cases hpl : p < R.length
            · have d0 := (hr.below hbel).c0 p hpl
              obtain rfl := hr.at_ (by omega)
              have hs : (F ++ R.take p).length = F.length + p := by rw [List.length_append, List.length_take, Nat.min_eq_left hp]
              have hnx : ∀ (w1 : World) (v' : Value), w1.ownsRow w.heap.size 9 1 v' ((F ++ R.take p).length + 1) ((F ++ R.take p).map Value.string ++ [.string (R.getD p ByteArray.empty)]) → ∃ a' c', v' = .slice a' (F ++ R.take (p + 1)).length c' ∧ OwnS w1 w.heap.size a' c' (F ++ R.take (p + 1)) := fun w1 v' ho => by
                have e1 : F ++ R.take (p + 1) = (F ++ R.take p) ++ [R.getD p ByteArray.empty] := by
                  rw [List.append_assoc, List.take_add_one]
                  simp [hpl]
                rw [e1]
                exact OwnS.of_value (by simpa [Nat.add_assoc] using ho)
              have hlt2 : ∀ k, (Value.slice a (F ++ R.take p).length c).ownBlock = some k → w.heap.size ≤ k := fun k hk => (hO.lt (by rw [← ownBlock_slice]; exact hk)).1
              have hbs := hbel.size
              have hO' : wr.ownsRow w.heap.size 9 1 (.slice a (F ++ R.take p).length c) (F ++ R.take p).length ((F ++ R.take p).map Value.string) := hO
              clear hO hr hcell
              generalize (F ++ R.take p).length = sl at *
              generalize (F ++ R.take p).map Value.string = XS at *
              generalize R.getD p ByteArray.empty = x at *
              generalize R.length = rl at *
              go_wp2_with (at_builtin; refine wpList_append_own_at _ rfl _ _ 22 rfl w.heap.size 9 i0 _ 1 16 Try.underlying22 hi hz0 hz1 hz2 rfl (by decide) _ sl XS rfl (hO'.alloc _) ⟨wr.heap.size, 0, none⟩ 1 1 [.string x] rfl rfl (cell_one_new _ _ _) (str_one x) (by unfold maxLen; omega) (by omega) (by simp; omega) ?_; intro v' w1 hown' hgrow hnn hat)
              obtain ⟨a', c', rfl, hO1⟩ := hnx _ _ hown'
              go_wp2
              go_roundw
              case rel => exact ⟨p + 1, a', c', by omega, by go_num, rfl, hO1, below_grown (hbel.alloc hbs _) hgrow (by simp; omega) hlt2⟩
              case measure => simp [intOf]; omega
            · obtain rfl : p = R.length := by omega
              rw [List.take_length] at hO ⊢
              generalize R.length = rl at *
              go_wp2
              go_roundw
              case rel => exact ⟨q + 1, a, c, by omega, by go_num, by rw [show flat rows (q + 1) = F ++ R from ef], by rw [show flat rows (q + 1) = F ++ R from ef]; exact hO, hbel⟩
              case measure => simp [intOf]; omega
        · obtain rfl : q = k := by omega
          go_wp2
          go_ret
          exact ⟨_, _, rfl, hO, hbel⟩
end Go.Proofs.Qxb6601288a
