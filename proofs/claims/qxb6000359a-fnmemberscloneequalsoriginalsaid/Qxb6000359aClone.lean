import Derived.Test.Qxb6000359aTrip
import Derived.Deep.DeepCutAuto
namespace Go.Proofs.Qxb6000359a
open Go.RowKit

/-- the cells of a row of triples, one behind the other -/
def tripCell (A : Nat → Int) (B : Nat → ByteArray) (C : Nat → Int) (j : Nat) : Value := if j % 3 = 0 then .int .u32 (A (j / 3)) else if j % 3 = 1 then .string (B (j / 3)) else .int .u64 (C (j / 3))
theorem tripCell_one (A : Nat → Int) (B : Nat → ByteArray) (C : Nat → Int) (n : Nat) : ∀ u ∈ (List.range n).map (tripCell A B C), u.oneCell' = true := by
  intro u hu
  obtain ⟨j, _, rfl⟩ := List.mem_map.1 hu
  unfold tripCell
  split
  · rfl
  · split <;> rfl
theorem Trip.flat {w : World} {a : Addr} {len cap : Nat} {A : Nat → Int} {B : Nat → ByteArray} {C : Nat → Int} {b off : Nat} (h : Trip w (some a) len cap A B C b off) : ∀ j u, ((List.range (len * 3)).map (tripCell A B C))[j]? = some u → w.cell? (a.add j) = some u := by
  intro j u hu
  rw [List.getElem?_map] at hu
  by_cases hj : j < len * 3
  · rw [List.getElem?_range hj] at hu
    simp only [Option.map_some, Option.some.injEq] at hu
    subst hu
    obtain rfl : a = ⟨b, off, none⟩ := by simpa using h.at_ (by omega)
    rw [Go.WideShapes.add_plain]
    unfold tripCell
    have hd : j / 3 < len := by omega
    split
    · have := h.c0 (j / 3) hd
      rw [show off + j / 3 * 3 = off + j by omega] at this
      exact this
    · split
      · have := h.c1 (j / 3) hd
        rw [show off + j / 3 * 3 + 1 = off + j by omega] at this
        exact this
      · have := h.c2 (j / 3) hd
        rw [show off + j / 3 * 3 + 2 = off + j by omega] at this
        exact this
  · rw [List.getElem?_eq_none (by simpa using hj)] at hu
    cases hu

theorem trip_of_owned {w : World} {base len : Nat} {v : Value} {A : Nat → Int} {B : Nat → ByteArray} {C : Nat → Int} (h : w.ownsRow base 87 3 v len ((List.range (len * 3)).map (tripCell A B C))) (hn : v ≠ .slice none 0 0) :
    ∃ g cap, v = .slice (some ⟨g, 0, none⟩) len cap ∧ Trip w (some ⟨g, 0, none⟩) len cap A B C g 0 ∧ base ≤ g := by
  obtain ⟨_, h2⟩ := h
  rcases h2 with ⟨h2, _⟩ | ⟨g, cap, cur, hv, hg, hh, hl, hm, hs, ht⟩
  · exact absurd h2 hn
  · have hcell : ∀ j, j < len * 3 → w.cell? ⟨g, j, none⟩ = some (tripCell A B C j) := by
      intro j hj
      have e : (cur.toList.take (len * 3))[j]? = ((List.range (len * 3)).map (tripCell A B C))[j]? := by rw [ht]
      rw [List.getElem?_take_of_lt hj, List.getElem?_map, List.getElem?_range hj] at e
      exact cell_of_block hh (by simpa using e)
    refine ⟨g, cap, hv, ⟨fun e => (by cases e), fun _ => rfl, fun i hi => ?_, fun i hi => ?_, fun i hi => ?_⟩, hg⟩
    · rw [Nat.zero_add, hcell (i * 3) (by omega)]
      unfold tripCell
      rw [if_pos (by omega), show i * 3 / 3 = i by omega]
    · rw [Nat.zero_add, hcell (i * 3 + 1) (by omega)]
      unfold tripCell
      rw [if_neg (by omega), if_pos (by omega), show (i * 3 + 1) / 3 = i by omega]
    · rw [Nat.zero_add, hcell (i * 3 + 2) (by omega)]
      unfold tripCell
      rw [if_neg (by omega), if_neg (by omega), show (i * 3 + 2) / 3 = i by omega]

theorem owned_empty (w : World) (e size : Nat) : (w.alloc (.cells #[] e)).ownsRow w.heap.size e size (.slice (some ⟨w.heap.size, 0, none⟩) 0 0) 0 [] :=
  World.ownsRow_made w #[] 0 (Nat.le_refl _) (by unfold maxLen; omega) (by simp)

set_option maxHeartbeats 1000000 in
theorem cloneMembers_any (ad : Option Addr) (len cap : Nat) (A : Nat → Int) (B : Nat → ByteArray) (C : Nat → Int) (b off : Nat) (w : World) (hl : len ≤ 1000000) (h : Trip w ad len cap A B C b off) :
    Calls Try.prog 39 #[.slice ad len cap] w fun e w' => ∃ ad' cap' b' off', e = .returned (.slice ad' len cap') ∧ Trip w' ad' len cap' A B C b' off' ∧ Below w.heap.size w w' ∧ (0 < len → w.heap.size ≤ b') := by
  have hnil := fun (wx : World) (ad : Option Addr) (n c : Nat) => Lib.run_eql_slice_nil (P := Try.prog) wx 55 87 ad n c 0 0 Try.underlying55
  cases ad with
  | none =>
    obtain ⟨rfl, rfl⟩ := h.nil rfl
    go_enter Try.func39, Try.ntmps39
    go_wp2
    go_ret
    exact ⟨none, 0, b, off, rfl, h, Below.refl _ _, fun h0 => absurd h0 (by omega)⟩
  | some a =>
    obtain ⟨i0, hi, hz0, hz1, hz2⟩ := info_parts info87
    have hT := h.below ((Below.refl w.heap.size w).alloc (Nat.le_refl _) (.cells #[] 87))
    have hfl := hT.flat
    have hlen : ((List.range (len * 3)).map (tripCell A B C)).length = len * 3 := by simp
    have h1c := tripCell_one A B C (len * 3)
    generalize hN : (List.range (len * 3)).map (tripCell A B C) = news at hfl hlen h1c
    have HN : Hid ((List.range (len * 3)).map (tripCell A B C) = news) := hN
    clear hN hT
    go_enter Try.func39, Try.ntmps39
    go_wp2_with (at_builtin; refine wpList_append_own _ rfl _ _ 55 rfl w.heap.size 87 i0 _ 3 32 Try.underlying55 hi hz0 hz1 hz2 rfl (by decide) _ 0 [] rfl (owned_empty w 87 3) a len cap news rfl hlen hfl h1c (by unfold maxLen; omega) (by omega) (by simp) ?_; intro v' w1 hown' hgrow hnn)
    go_ret
    simp only [Nat.zero_add, List.nil_append] at hown'
    rw [← HN.out] at hown'
    obtain ⟨g, cap', hv, hT', hgb⟩ := trip_of_owned hown' (fun e => by have h0 := (hnn.1 e).1; cases h0)
    exact ⟨_, cap', g, 0, by rw [← hv]; rfl, hT', ((Below.refl _ _).alloc (Nat.le_refl _) _).grown hgrow (by simp) (fun k hk => by have h0 : w.heap.size = k := Option.some.inj hk; omega), fun _ => hgb⟩

/-! ### the slices of uint32 -/
structure Ones (w : World) (ad : Option Addr) (len cap : Nat) (A : Nat → Int) (b off : Nat) : Prop where
  nil : ad = none → len = 0 ∧ cap = 0
  at_ : 0 < len → ad = some ⟨b, off, none⟩
  c0 : ∀ i, i < len → w.cell? ⟨b, off + i, none⟩ = some (.int .u32 (A i))
theorem Ones.below {w w' : World} {ad : Option Addr} {len cap : Nat} {A : Nat → Int} {b off : Nat} (h : Ones w ad len cap A b off) (hb : Below w.heap.size w w') : Ones w' ad len cap A b off :=
  ⟨h.nil, h.at_, fun i hi => (hb.cell (p := ⟨b, off + i, none⟩) (World.block_lt_of_cell? w _ (h.c0 i hi))).trans (h.c0 i hi)⟩
def OneRow (w : World) (g : Nat) (t : TypeId) (len k : Nat) (V : Nat → Value) : Prop := ∃ f, w.rowIs g t len f ∧ ∀ i, i < k → f i = V i
namespace OneRow
variable {w : World} {g : Nat} {t : TypeId} {len k : Nat} {V : Nat → Value}
theorem cell (h : OneRow w g t len k V) {i : Nat} (hi : i < k) (hl : k ≤ len) : w.cell? ⟨g, i, none⟩ = some (V i) := by
  obtain ⟨f, hr, hf⟩ := h
  rw [hr.cell (by omega), hf i hi]
theorem some1 (h : OneRow w g t len k V) {i : Nat} (hi : i < len) : ∃ v, w.cell? ⟨g, i, none⟩ = some v := by
  obtain ⟨f, hr, hf⟩ := h
  exact ⟨_, hr.cell hi⟩
theorem free (h : OneRow w g t len k V) (i : Nat) : w.frozen? ⟨g, i, none⟩ = false := by
  obtain ⟨f, hr, hf⟩ := h
  exact hr.frozen i
theorem lt (h : OneRow w g t len k V) : g < w.heap.size := by
  obtain ⟨f, hr, hf⟩ := h
  exact hr.lt
theorem of_block {w' : World} (h : OneRow w g t len k V) (e : w'.heap[g]? = w.heap[g]?) : OneRow w' g t len k V := by
  obtain ⟨f, hr, hf⟩ := h
  exact ⟨f, hr.of_block e, hf⟩
theorem store (h : OneRow w g t len k V) : OneRow (w.setCell ⟨g, k, none⟩ (V k)) g t len (k + 1) V := by
  obtain ⟨f, hr, hf⟩ := h
  refine ⟨_, hr.set k (V k), fun i hi => ?_⟩
  by_cases e : i = k
  · subst e; simp
  · simp only [if_neg e]; exact hf i (by omega)
theorem made (w : World) (z : Value) (t : TypeId) (len : Nat) (V : Nat → Value) : OneRow (w.alloc (.cells (madeCells #[z] len) t)) w.heap.size t len 0 V :=
  ⟨_, World.rowIs_made w z len t, fun _ hi => absurd hi (Nat.not_lt_zero _)⟩
end OneRow
theorem OneRow.ones {w : World} {g t len cap : Nat} {A : Nat → Int} (h : OneRow w g t len len (fun i => .int .u32 (A i))) : Ones w (some ⟨g, 0, none⟩) len cap A g 0 :=
  ⟨fun e => (by cases e), fun _ => rfl, fun i hi => by rw [Nat.zero_add]; exact h.cell hi (Nat.le_refl _)⟩

theorem info49 : (Try.prog.info? 49).map (fun i => (i.zero, i.size, i.bytes)) = some (some (.int .u32 0), 1, 4) := by kernel_rfl
theorem info58 : (Try.prog.info? 58).map (fun i => (i.zero, i.size, i.bytes)) = some (some (.int .u32 0), 1, 4) := by kernel_rfl

set_option maxHeartbeats 1000000 in
theorem copyLeft_any (ad : Option Addr) (len cap : Nat) (A : Nat → Int) (b off : Nat) (w : World) (hl : len ≤ 1000000) (h : Ones w ad len cap A b off) :
    Calls Try.prog 25 #[.slice ad len cap] w fun e w' => ∃ ad' cap' b' off', e = .returned (.slice ad' len cap') ∧ Ones w' ad' len cap' A b' off' ∧ Below w.heap.size w w' ∧ (0 < len → w.heap.size ≤ b') := by
  have hnil := fun (wx : World) (ad : Option Addr) (n c : Nat) => Lib.run_eql_slice_nil (P := Try.prog) wx 47 49 ad n c 0 0 Try.underlying47
  cases ad with
  | none =>
    obtain ⟨rfl, rfl⟩ := h.nil rfl
    go_enter Try.func25, Try.ntmps25
    go_wp2
    go_ret
    exact ⟨none, 0, b, off, rfl, h, Below.refl _ _, fun h0 => absurd h0 (by omega)⟩
  | some a =>
    have hmk := run_make_row' (P := Try.prog) 47 49 (.int .u32 0) 4 Try.underlying47 info49 rfl .i64 .i64 len (by omega) (by omega)
    by_cases hz : len ≤ 0
    · go_enter Try.func25, Try.ntmps25
      go_wp2
      go_loopw [4] (fun i wr => ∃ k : Nat, k ≤ len ∧ i = .int .i64 k ∧ Below w.heap.size w wr ∧ OneRow wr w.heap.size 49 len k (fun i => .int .u32 (A i))) (fun i _ => len - (intOf i).toNat)
      case atStart => exact ⟨0, Nat.zero_le _, rfl, (Below.refl _ _).alloc (Nat.le_refl _) _, OneRow.made _ _ _ _ _⟩
      case round =>
        obtain ⟨k, hk, rfl, hbel, hrow⟩ := hrel
        have hge : ¬ k < len := by omega
        go_wp2
        go_ret
        obtain rfl : k = len := by omega
        exact ⟨_, _, _, _, rfl, hrow.ones, hbel, fun _ => Nat.le_refl _⟩
    · obtain rfl : a = ⟨b, off, none⟩ := by simpa using h.at_ (by omega)
      go_enter Try.func25, Try.ntmps25
      go_wp2
      go_loopw [4] (fun i wr => ∃ k : Nat, k ≤ len ∧ i = .int .i64 k ∧ Below w.heap.size w wr ∧ OneRow wr w.heap.size 49 len k (fun i => .int .u32 (A i))) (fun i _ => len - (intOf i).toNat)
      case atStart => exact ⟨0, Nat.zero_le _, rfl, (Below.refl _ _).alloc (Nat.le_refl _) _, OneRow.made _ _ _ _ _⟩
      case round =>
        obtain ⟨k, hk, rfl, hbel, hrow⟩ := hrel
        by_cases hlt : k < len
        · have c0 := (h.below hbel).c0 k hlt
          have f0 := hrow.free k
          obtain ⟨x0, d0⟩ := hrow.some1 hlt
          clear h
          go_wp2
          go_roundw
          case rel => exact ⟨k + 1, by omega, by go_num, hbel.setCell (Nat.le_refl _) _, hrow.store⟩
          case measure => simp [intOf]; omega
        · go_wp2
          go_ret
          obtain rfl : k = len := by omega
          exact ⟨_, _, _, _, rfl, hrow.ones, hbel, fun _ => Nat.le_refl _⟩

def oneCellAt (A : Nat → Int) (j : Nat) : Value := .int .u32 (A j)
theorem Ones.flat {w : World} {a : Addr} {len cap : Nat} {A : Nat → Int} {b off : Nat} (h : Ones w (some a) len cap A b off) : ∀ j u, ((List.range len).map (oneCellAt A))[j]? = some u → w.cell? (a.add j) = some u := by
  intro j u hu
  rw [List.getElem?_map] at hu
  by_cases hj : j < len
  · rw [List.getElem?_range hj] at hu
    simp only [Option.map_some, Option.some.injEq] at hu
    subst hu
    obtain rfl : a = ⟨b, off, none⟩ := by simpa using h.at_ (by omega)
    rw [Go.WideShapes.add_plain]
    exact h.c0 j hj
  · rw [List.getElem?_eq_none (by simpa using hj)] at hu
    cases hu
theorem oneCellAt_one (A : Nat → Int) (n : Nat) : ∀ u ∈ (List.range n).map (oneCellAt A), u.oneCell' = true := by
  intro u hu
  obtain ⟨j, _, rfl⟩ := List.mem_map.1 hu
  rfl
theorem ones_of_owned {w : World} {base len : Nat} {v : Value} {A : Nat → Int} (h : w.ownsRow base 58 1 v len ((List.range len).map (oneCellAt A))) (hn : v ≠ .slice none 0 0) :
    ∃ g cap, v = .slice (some ⟨g, 0, none⟩) len cap ∧ Ones w (some ⟨g, 0, none⟩) len cap A g 0 ∧ base ≤ g := by
  obtain ⟨_, h2⟩ := h
  rcases h2 with ⟨h2, _⟩ | ⟨g, cap, cur, hv, hg, hh, hl, hm, hs, ht⟩
  · exact absurd h2 hn
  · refine ⟨g, cap, hv, ⟨fun e => (by cases e), fun _ => rfl, fun j hj => ?_⟩, hg⟩
    have e : (cur.toList.take (len * 1))[j]? = ((List.range len).map (oneCellAt A))[j]? := by rw [ht]
    rw [List.getElem?_take_of_lt (by omega), List.getElem?_map, List.getElem?_range hj] at e
    rw [Nat.zero_add]
    exact cell_of_block hh (by simpa [oneCellAt] using e)

set_option maxHeartbeats 1000000 in
theorem cloneLeft_any (ad : Option Addr) (len cap : Nat) (A : Nat → Int) (b off : Nat) (w : World) (hl : len ≤ 1000000) (h : Ones w ad len cap A b off) :
    Calls Try.prog 40 #[.slice ad len cap] w fun e w' => ∃ ad' cap' b' off', e = .returned (.slice ad' len cap') ∧ Ones w' ad' len cap' A b' off' ∧ Below w.heap.size w w' ∧ (0 < len → w.heap.size ≤ b') := by
  have hnil := fun (wx : World) (ad : Option Addr) (n c : Nat) => Lib.run_eql_slice_nil (P := Try.prog) wx 56 58 ad n c 0 0 Try.underlying56
  cases ad with
  | none =>
    obtain ⟨rfl, rfl⟩ := h.nil rfl
    go_enter Try.func40, Try.ntmps40
    go_wp2
    go_ret
    exact ⟨none, 0, b, off, rfl, h, Below.refl _ _, fun h0 => absurd h0 (by omega)⟩
  | some a =>
    obtain ⟨i0, hi, hz0, hz1, hz2⟩ := info_parts info58
    have hT := h.below ((Below.refl w.heap.size w).alloc (Nat.le_refl _) (.cells #[] 58))
    have hfl := hT.flat
    have hlen : ((List.range len).map (oneCellAt A)).length = len * 1 := by simp
    have h1c := oneCellAt_one A len
    generalize hN : (List.range len).map (oneCellAt A) = news at hfl hlen h1c
    have HN : Hid ((List.range len).map (oneCellAt A) = news) := hN
    clear hN hT
    go_enter Try.func40, Try.ntmps40
    go_wp2_with (at_builtin; refine wpList_append_own _ rfl _ _ 56 rfl w.heap.size 58 i0 _ 1 4 Try.underlying56 hi hz0 hz1 hz2 rfl (by decide) _ 0 [] rfl (owned_empty w 58 1) a len cap news rfl hlen hfl h1c (by unfold maxLen; omega) (by omega) (by simp) ?_; intro v' w1 hown' hgrow hnn)
    go_ret
    simp only [Nat.zero_add, List.nil_append] at hown'
    rw [← HN.out] at hown'
    obtain ⟨g, cap', hv, hT', hgb⟩ := ones_of_owned hown' (fun e => by have h0 := (hnn.1 e).1; cases h0)
    exact ⟨_, cap', g, 0, by rw [← hv]; rfl, hT', ((Below.refl _ _).alloc (Nat.le_refl _) _).grown hgrow (by simp) (fun k hk => by have h0 : w.heap.size = k := Option.some.inj hk; omega), fun _ => hgb⟩

set_option maxHeartbeats 2000000 in
theorem samePeers_any (ad ad2 : Option Addr) (len cap cap2 : Nat) (A : Nat → Int) (B : Nat → ByteArray) (C : Nat → Int) (b off b2 off2 : Nat) (w : World) (hl : len ≤ 1000000) (h : Trip w ad len cap A B C b off) (h2 : Trip w ad2 len cap2 A B C b2 off2) :
    Calls Try.prog 37 #[.slice ad len cap, .slice ad2 len cap2] w fun e w' => e = .returned (.bool true) ∧ ∃ n, w' = w.drewN n := by
  go_enter Try.func37, Try.ntmps37
  go_wp2
  go_loopw [5] (fun i wr => ∃ k : Nat, k ≤ len ∧ i = .int .i64 k ∧ ∃ n, wr = w.drewN n) (fun i _ => len - (intOf i).toNat)
  case atStart => exact ⟨0, Nat.zero_le _, rfl, 0, rfl⟩
  case round =>
    obtain ⟨k, hk, rfl, n, rfl⟩ := hrel
    by_cases hlt : k < len
    · obtain rfl := h.at_ (by omega)
      obtain rfl := h2.at_ (by omega)
      have c0 := h.c0 k hlt
      have c1 := h.c1 k hlt
      have c2 := h.c2 k hlt
      have e0 := h2.c0 k hlt
      have e1 := h2.c1 k hlt
      have e2 := h2.c2 k hlt
      generalize A k = x0 at c0 e0
      generalize B k = x1 at c1 e1
      generalize C k = x2 at c2 e2
      go_wp2_with fail
      go_quiet (fail)
      go_wp2
      go_roundw
      case rel => exact ⟨k + 1, by omega, by go_num, _, rfl⟩
      case measure => simp [intOf]; omega
    · go_wp2
      go_ret
      exact ⟨rfl, n, rfl⟩
end Go.Proofs.Qxb6000359a
