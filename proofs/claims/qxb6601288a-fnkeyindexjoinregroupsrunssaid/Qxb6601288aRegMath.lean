import Derived.Test.Qxb6601288aMath
namespace Go.Proofs.Qxb6601288a
open Go.RowKit Go.Deep

theorem flat_get {R : Nat → List ByteArray} : ∀ {m : Nat} {i j : Nat}, i < m → j < (R i).length → (flat R m).getD (tot (LL R) i + j) ByteArray.empty = (R i).getD j ByteArray.empty
  | 0, i, j, hi, _ => absurd hi (Nat.not_lt_zero _)
  | m + 1, i, j, hi, hj => by
    simp only [flat]
    by_cases e : i = m
    · subst e
      rw [List.getD_eq_getElem?_getD, List.getElem?_append_right (by rw [length_flat]; omega), length_flat, List.getD_eq_getElem?_getD]
      rw [show tot (LL R) i + j - tot (LL R) i = j by omega]
    · have h1 := tot_mono (L := LL R) (i := i + 1) (k := m) (by omega)
      simp only [tot, LL] at h1
      rw [List.getD_eq_getElem?_getD, List.getElem?_append_left (by rw [length_flat]; omega), ← List.getD_eq_getElem?_getD]
      exact flat_get (by omega) hj

/-- the run lengths that the case table expects -/
theorem len_lo {n r i : Nat} {rows : Nat → List ByteArray} (hn : 2 ≤ n) (hi : i < aOf n r) : outR n r rows i = rows i := by
  unfold outR
  rw [if_neg (show n ≠ 1 by omega)]
  unfold joinRows
  split
  · simp only [mergeRows, if_pos hi]
  · simp only [splitRows, mergeRows, if_pos hi]
theorem len_merged {n r : Nat} {rows : Nat → List ByteArray} (hn : 2 ≤ n) (h : (rows (aOf n r)).length + (rows (aOf n r + 1)).length ≤ 512) :
    outN n r rows = n - 1 ∧ (outR n r rows (aOf n r)).length = (rows (aOf n r)).length + (rows (aOf n r + 1)).length ∧ ∀ i, aOf n r + 2 ≤ i → outR n r rows (i - 1) = rows i := by
  unfold outR outN
  rw [if_neg (show n ≠ 1 by omega), if_neg (show n ≠ 1 by omega)]
  unfold joinRows joinLen
  rw [if_pos h, if_pos h]
  refine ⟨rfl, by simp [mergeRows], fun i hi => ?_⟩
  simp only [mergeRows, if_neg (show ¬ i - 1 < aOf n r by omega), if_neg (show i - 1 ≠ aOf n r by omega)]
  rw [show i - 1 + 1 = i by omega]
theorem len_split {n r : Nat} {rows : Nat → List ByteArray} (hn : 2 ≤ n) (h : ¬ (rows (aOf n r)).length + (rows (aOf n r + 1)).length ≤ 512) :
    outN n r rows = n ∧ (outR n r rows (aOf n r)).length = 256 ∧ (outR n r rows (aOf n r + 1)).length = (rows (aOf n r)).length + (rows (aOf n r + 1)).length - 256 ∧ ∀ i, aOf n r + 2 ≤ i → outR n r rows i = rows i := by
  unfold outR outN
  rw [if_neg (show n ≠ 1 by omega), if_neg (show n ≠ 1 by omega)]
  unfold joinRows joinLen
  rw [if_neg h, if_neg h]
  generalize aOf n r = a at *
  have em : mergeRows a rows a = rows a ++ rows (a + 1) := by simp [mergeRows]
  refine ⟨rfl, ?_, ?_, fun i hi => ?_⟩
  · simp only [splitRows, if_neg (show ¬ a < a by omega), if_true, em, List.length_take, List.length_append]; omega
  · simp only [splitRows, if_neg (show ¬ a + 1 < a by omega), if_neg (show a + 1 ≠ a by omega), if_true, em, List.length_drop, List.length_append]
  · simp only [splitRows, if_neg (show ¬ i < a by omega), if_neg (show i ≠ a by omega), if_neg (show i ≠ a + 1 by omega), mergeRows, if_neg (show ¬ i - 1 < a by omega), if_neg (show i - 1 ≠ a by omega)]
    rw [show i - 1 + 1 = i by omega]
theorem len_one {r : Nat} {rows : Nat → List ByteArray} (h : (rows 0).length ≠ 0) : outN 1 r rows = 1 ∧ outR 1 r rows = rows := by
  unfold outN outR
  rw [if_pos rfl, if_pos rfl, if_neg h]
  exact ⟨rfl, rfl⟩

/-- an own row of ints -/
def OwnI (w : World) (B : Nat) (ad : Option Addr) (cap k : Nat) (g : Nat → Nat) : Prop := w.ownsRow B 3 1 (.slice ad k cap) k ((List.range k).map fun i => .int .i64 (g i : Int))
theorem OwnI.of_value {w : World} {B k : Nat} {v : Value} {g : Nat → Nat} {x : Int} (h : w.ownsRow B 3 1 v (k + 1) (((List.range k).map fun i => .int .i64 (g i : Int)) ++ [.int .i64 x])) (hx : x = (g k : Int)) : ∃ a c, v = .slice a (k + 1) c ∧ OwnI w B a c (k + 1) g := by
  subst hx
  have e : ((List.range k).map fun i => Value.int .i64 (g i : Int)) ++ [.int .i64 (g k : Int)] = (List.range (k + 1)).map fun i => Value.int .i64 (g i : Int) := by rw [List.range_succ]; simp
  rw [e] at h
  obtain ⟨h1, ⟨rfl, h3⟩ | ⟨gg, c, cur, rfl, h3⟩⟩ := id h
  · omega
  · exact ⟨_, c, rfl, h⟩
theorem OwnI.lt {w : World} {B : Nat} {ad : Option Addr} {cap k : Nat} {g : Nat → Nat} (h : OwnI w B ad cap k g) : ∀ q, (Value.slice ad k cap).ownBlock = some q → B ≤ q := fun q hq => (World.ownsRow.lt h q hq).1
theorem OwnI.cell {w : World} {B : Nat} {ad : Option Addr} {cap k : Nat} {g : Nat → Nat} (h : OwnI w B ad cap k g) (hk : 0 < k) : ∃ b, ad = some ⟨b, 0, none⟩ ∧ ∀ i, i < k → w.cell? ⟨b, i, none⟩ = some (.int .i64 (g i : Int)) := by
  have hc := fun q hq => World.ownsRow.cells h (g := q) hq
  obtain ⟨h1, ⟨h2, h3⟩ | ⟨b, c, cur, hv, hB, hg, h3⟩⟩ := h
  · omega
  · simp only [Value.slice.injEq] at hv
    obtain ⟨rfl, _, rfl⟩ := hv
    refine ⟨b, rfl, fun i hi => ?_⟩
    have := hc b rfl i (.int .i64 (g i : Int)) (by simp [hi])
    by_cases h0 : i = 0
    · subst h0; simpa [Addr.add] using this
    · simpa [Addr.add, h0] using this
theorem OwnI.below {w w' : World} {B : Nat} {ad : Option Addr} {cap k : Nat} {g : Nat → Nat} (h : OwnI w B ad cap k g) (hb : Below w.heap.size w w') : OwnI w' B ad cap k g := by
  obtain ⟨h1, h2 | ⟨b, c, cur, hv, hB, hg, h3⟩⟩ := h
  · exact ⟨h1, .inl h2⟩
  · exact ⟨h1, .inr ⟨b, c, cur, hv, hB, (hb.block b (Array.getElem?_eq_some_iff.1 hg).1).trans hg, h3⟩⟩
theorem int_one (x : Int) : ∀ u ∈ [Value.int .i64 x], u.oneCell' = true := by simp [Value.oneCell']
theorem info3 : (Try.prog.info? 3).map (fun i => (i.zero, i.size, i.bytes)) = some (some (.int .i64 0), 1, 8) := by kernel_rfl
theorem make_capi (n : Nat) (hb : 8 * n ≤ 281474976710656) (w : World) :
    (Instr.makeSlice 44 (.int .i64 0) (.int .i64 (n : Int))).run Try.prog w = .ok (.slice (some ⟨w.heap.size, 0, none⟩) 0 n) (w.alloc (.cells (madeCells #[.int .i64 0] n) 3)) := by
  obtain ⟨i, hi, hz, hs, hbb⟩ := info_parts info3
  have hr := run_make (P := Try.prog) w 44 3 i (.int .i64 0) Try.underlying44 hi hz .i64 .i64 0 n (by omega) (by omega) (by rw [hbb]; omega) (by omega)
  simp only [Int.toNat_natCast, hs, Nat.mul_one, Int.toNat_zero] at hr
  exact hr
end Go.Proofs.Qxb6601288a
