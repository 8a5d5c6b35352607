import Derived.Test.Qxb6601288aStep
namespace Go.Proofs.Qxb6601288a
open Go.RowKit Go.Deep

theorem zero9 (w : World) : (zeroValue 9).run Try.prog w = .ok (.string ByteArray.empty) w := by
  obtain ⟨i, hi, hz, hs, hb⟩ := info_parts info9
  simp [zeroValue, typeInfo, hi, hz]

/-- what may change -/
structure Kept (T : Nat → Prop) (w w' : World) : Prop where
  os : w'.os = w.os
  tape : w'.tape = w.tape
  output : w'.output = w.output
  size : w.heap.size ≤ w'.heap.size
  block : ∀ k, k < w.heap.size → ¬ T k → w'.heap[k]? = w.heap[k]?
theorem Kept.of_grown {T : Nat → Prop} {w w' : World} {row : Option Nat} (h : w.grownBy w' row) (hT : ∀ k, row = some k → T k ∨ w.heap.size ≤ k) : Kept T w w' :=
  ⟨h.os, h.tape, h.output, h.size, fun k hk hn => h.block k hk (fun e => (hT k e.symm).elim hn (fun h2 => by omega))⟩
theorem Kept.trans {T : Nat → Prop} {a b c : World} (h : Kept T a b) (k : Kept T b c) : Kept T a c :=
  ⟨k.os.trans h.os, k.tape.trans h.tape, k.output.trans h.output, Nat.le_trans h.size k.size, fun i hi hn => (k.block i (Nat.lt_of_lt_of_le hi h.size) hn).trans (h.block i hi hn)⟩
theorem Kept.drew {T : Nat → Prop} {a b : World} (h : Kept T a b) : Kept T a b.drew := ⟨h.os, h.tape, h.output, h.size, h.block⟩
theorem Kept.setCell {T : Nat → Prop} {a b : World} (h : Kept T a b) {p : Addr} (hp : T p.block) (v : Value) : Kept T a (b.setCell p v) :=
  h.trans ⟨rfl, rfl, rfl, by simp, fun k _ hn => blk_setCell_other _ _ _ _ (fun e => hn (e ▸ hp))⟩
theorem Kept.mono {T T' : Nat → Prop} {a b : World} (h : Kept T a b) (hT : ∀ k, k < a.heap.size → T k → T' k) : Kept T' a b :=
  ⟨h.os, h.tape, h.output, h.size, fun k hk hn => h.block k hk (fun ht => hn (hT k hk ht))⟩

/-- the runs, to be read -/
structure Rd (w : World) (B G cap n : Nat) (A : Nat → Option Addr) (C : Nat → Nat) (rows : Nat → List ByteArray) : Prop where
  row : OneRow w G 22 cap n (fun i => .slice (A i) (rows i).length (C i))
  le : n ≤ cap
  own : ∀ i, i < n → OwnS w B (A i) (C i) (rows i)
theorem Rd.runs {w : World} {B G cap n : Nat} {A : Nat → Option Addr} {C : Nat → Nat} {rows : Nat → List ByteArray} (h : Rd w B G cap n A C rows) :
    ∃ v : RV, Runs w (some ⟨G, 0, none⟩) cap n (LL rows) (SS rows) v := by
  refine ⟨⟨G, 0, A, C, fun i => (blkOf (A i)).getD 0, fun _ => 0⟩, fun e => (by cases e), fun _ => rfl, fun i hi => ?_, fun i hi => ?_, fun i hi hp => ?_, fun i hi j hj => ?_⟩
  · rw [Nat.zero_add]; exact h.row.cell hi h.le
  · obtain ⟨b, hs, -⟩ := (h.own i hi).strs
    exact hs.nil
  · obtain ⟨b, hs, hb⟩ := (h.own i hi).strs
    have := hs.at_ hp
    simp only [this, blkOf, Option.map_some, Option.getD_some]
  · obtain ⟨b, hs, hb⟩ := (h.own i hi).strs
    have := hs.c0 j hj
    simp only [hb (Nat.lt_of_le_of_lt (Nat.zero_le _) hj), Option.getD_some]
    exact this

/-- the row as a slice that is owned, and back -/
theorem OneRow.owns {w : World} {B G cap n : Nat} {V : Nat → Value} (h : OneRow w G 22 cap n V) (hB : B ≤ G) (hn : n ≤ cap) (hc : cap ≤ 1000000) : w.ownsRow B 22 1 (.slice (some ⟨G, 0, none⟩) n cap) n ((List.range n).map V) := by
  obtain ⟨f, ⟨c, hcc, hs, hf⟩, hV⟩ := h
  refine ⟨by simp, .inr ⟨G, cap, c, rfl, hB, hcc, hn, by simp only [maxLen]; omega, by simpa using hs, ?_⟩⟩
  apply List.ext_getElem?
  intro i
  by_cases hi : i < n
  · rw [Nat.mul_one, List.getElem?_take_of_lt hi, Array.getElem?_toList, hf i (by omega), hV i hi]
    simp [hi]
  · rw [List.getElem?_eq_none (by simp; omega), List.getElem?_eq_none (by simp; omega)]
theorem OneRow.of_owns {w : World} {B G cap n : Nat} {xs : List Value} (h : w.ownsRow B 22 1 (.slice (some ⟨G, 0, none⟩) n cap) n xs) : OneRow w G 22 cap n (fun i => xs.getD i undef) := by
  obtain ⟨h1, ⟨h2, h3⟩ | ⟨g, c, cur, hv, hB, hg, hn, hm, hs, ht⟩⟩ := h
  · cases h2
  · simp only [Value.slice.injEq, Option.some.injEq, Addr.mk.injEq, and_true, true_and] at hv
    obtain ⟨rfl, rfl⟩ := hv
    refine ⟨fun i => cur.getD i undef, ⟨cur, hg, by simpa using hs, fun i hi => ?_⟩, fun i hi => ?_⟩
    · have : i < cur.size := by omega
      simp [Array.getD, this]
    · have : i < cur.size := by omega
      rw [← ht]
      simp [Array.getD, this, hi]

/-- run r parted after 256 -/
def splitRows (r : Nat) (rows : Nat → List ByteArray) (i : Nat) : List ByteArray :=
  if i < r then rows i else if i = r then (rows r).take 256 else if i = r + 1 then (rows r).drop 256 else rows (i - 1)

theorem strs_one (l : List ByteArray) : ∀ u ∈ l.map Value.string, u.oneCell' = true := by
  intro u hu
  obtain ⟨s, _, rfl⟩ := List.mem_map.1 hu
  rfl
theorem nil_one : ∀ u ∈ [Value.slice none 0 0], u.oneCell' = true := by simp [Value.oneCell']

/-- the run's head behind the clear -/
theorem own_take {w2 : World} {B h cr : Nat} {cur : Array Value} {l : List ByteArray} (hB : B ≤ h) (hcs : cur.size = cr) (hmx : cr ≤ maxLen) (hl : 256 ≤ l.length) (hlc : l.length ≤ cr) (htk : cur.toList.take l.length = l.map Value.string)
    (hcl : ∃ cur', w2.heap[h]? = some (.cells cur' 9 (0, 0)) ∧ cur'.size = cur.size ∧ ∀ i, i < 256 → cur'[i]? = cur[i]?) : OwnS w2 B (some ⟨h, 0, none⟩) cr (l.take 256) := by
  obtain ⟨cur', h1, h2, h3⟩ := hcl
  have e1 : (l.take 256).length = 256 := by rw [List.length_take]; omega
  unfold OwnS
  rw [e1]
  refine ⟨by rw [List.length_map, e1], .inr ⟨h, cr, cur', rfl, hB, h1, by omega, hmx, by omega, ?_⟩⟩
  apply List.ext_getElem?
  intro i
  by_cases hi : i < 256
  · have := congrArg (fun l => l[i]?) htk
    rw [List.getElem?_take_of_lt (by omega), Array.getElem?_toList] at this
    rw [Nat.mul_one, List.getElem?_take_of_lt hi, Array.getElem?_toList, h3 i hi, this, List.map_take, List.getElem?_take_of_lt hi]
  · rw [List.getElem?_eq_none (by simp; omega), List.getElem?_eq_none (by simp; omega)]

theorem split_end {B X G cap m r h cr len q1 : Nat} {A : Nat → Option Addr} {C : Nat → Nat} {rows : Nat → List ByteArray} {a1 : Option Addr} {f4 f5 : Nat → Value} {w w1 w2 w4 wc : World} {XS : List Value}
    (HO : Own w B G cap m A C rows) (hXr : ∀ i, i < m → blkOf (A i) ≠ some X) (hXG : X ≠ G) (hr : r < m) (hc : m + 1 ≤ cap) (hA : A r = some ⟨h, 0, none⟩) (hlr : (rows r).length = len) (hl : 512 < len)
    (hXl : X < w.heap.size) (hgrow : w.grownBy w1 none) (hg2 : w1.grownBy w2 (some h)) (hT : OwnS w2 B (some ⟨h, 0, none⟩) cr ((rows r).take 256)) (K2 : Kept (fun k => k = X ∨ k = G) w2 w4) (K5 : Kept (fun k => k = G) w4 wc)
    (hX5 : wc.heap[X]? = some (.cells #[.slice (some ⟨G, 0, none⟩) (m + 1) cap] 58 (0, 0))) (hO1 : OwnS w1 B a1 q1 ((rows r).drop 256)) (hat : blkOf a1 = none ∨ blkOf a1 = some w.heap.size)
    (hrow5 : wc.rowIs G 22 cap f5) (HF5 : (fun j => if r + 2 ≤ j ∧ j < r + 2 + (m - 1 - r) then f4 (r + 1 + (j - (r + 2))) else f4 j) = f5) (HF4 : ∀ i, i < m + 1 → f4 i = (XS ++ [Value.slice none 0 0]).getD i undef)
    (HXS : (List.range m).map (fun i => Value.slice (A i) (rows i).length (C i)) = XS) :
    ∃ A' C', ((wc.setCell ⟨G, r, none⟩ (.slice (some ⟨h, 0, none⟩) 256 cr)).setCell ⟨G, r + 1, none⟩ (.slice a1 (len - 256) q1)).drew.heap[X]? = some (.cells #[.slice (some ⟨G, 0, none⟩) (m + 1) cap] 58 (0, 0)) ∧
      Rd ((wc.setCell ⟨G, r, none⟩ (.slice (some ⟨h, 0, none⟩) 256 cr)).setCell ⟨G, r + 1, none⟩ (.slice a1 (len - 256) q1)).drew B G cap (m + 1) A' C' (splitRows r rows) ∧
      Kept (fun k => k = X ∨ k = G ∨ blkOf (A r) = some k) w ((wc.setCell ⟨G, r, none⟩ (.slice (some ⟨h, 0, none⟩) 256 cr)).setCell ⟨G, r + 1, none⟩ (.slice a1 (len - 256) q1)).drew := by
  have hV : ∀ i, i < m → f4 i = .slice (A i) (rows i).length (C i) := fun i hi => by
    rw [HF4 i (by omega), ← HXS, List.getD_eq_getElem?_getD, List.getElem?_append_left (by simp; omega)]
    simp [hi]
  have hhl := (HO.own r hr).lt (k := h) (by rw [hA]; rfl)
  have hGl := HO.row.lt
  have hhG : h ≠ G := fun e => HO.notG r hr (by rw [hA, ← e]; rfl)
  have hhX : h ≠ X := fun e => hXr r hr (by rw [hA, ← e]; rfl)
  -- from w2 on
  have KE : Kept (fun k => k = X ∨ k = G) w2 ((wc.setCell ⟨G, r, none⟩ (.slice (some ⟨h, 0, none⟩) 256 cr)).setCell ⟨G, r + 1, none⟩ (.slice a1 (len - 256) q1)).drew :=
    (((K2.trans (K5.mono fun k _ hk => .inr hk)).setCell (p := ⟨G, r, none⟩) (.inr rfl) _).setCell (p := ⟨G, r + 1, none⟩) (.inr rfl) _).drew
  have hrow : ((wc.setCell ⟨G, r, none⟩ (.slice (some ⟨h, 0, none⟩) 256 cr)).setCell ⟨G, r + 1, none⟩ (.slice a1 (len - 256) q1)).drew.rowIs G 22 cap _ := ((hrow5.set r _).set (r + 1) _).drew
  have hXE : ((wc.setCell ⟨G, r, none⟩ (.slice (some ⟨h, 0, none⟩) 256 cr)).setCell ⟨G, r + 1, none⟩ (.slice a1 (len - 256) q1)).drew.heap[X]? = some (.cells #[.slice (some ⟨G, 0, none⟩) (m + 1) cap] 58 (0, 0)) :=
    (blk_setCell_other _ ⟨G, r + 1, none⟩ _ X hXG).trans ((blk_setCell_other _ ⟨G, r, none⟩ _ X hXG).trans hX5)
  generalize ((wc.setCell ⟨G, r, none⟩ (.slice (some ⟨h, 0, none⟩) 256 cr)).setCell ⟨G, r + 1, none⟩ (.slice a1 (len - 256) q1)).drew = wE at *
  have K1 : Kept (fun k => k = X ∨ k = G ∨ blkOf (A r) = some k) w1 wE :=
    (Kept.of_grown hg2 (fun k hk => .inl (.inr (.inr (by rw [hA, ← Option.some.inj hk]; rfl))))).trans (KE.mono fun k _ hk => hk.elim .inl (fun e => .inr (.inl e)))
  have K0 : Kept (fun k => k = X ∨ k = G ∨ blkOf (A r) = some k) w wE := (Kept.of_grown hgrow (fun k hk => by cases hk)).trans K1
  have hold : ∀ i, i < m → i ≠ r → OwnS wE B (A i) (C i) (rows i) := fun i hi hir =>
    (HO.own i hi).of_block fun k hk => K0.block k ((HO.own i hi).lt hk).2 (fun hT => by
      rcases hT with e | e | e
      · exact hXr i hi (by rw [hk, e])
      · exact HO.notG i hi (by rw [hk, e])
      · exact HO.apart i r hi hr hir k hk e)
  refine ⟨fun i => if i < r then A i else if i = r then some ⟨h, 0, none⟩ else if i = r + 1 then a1 else A (i - 1), fun i => if i < r then C i else if i = r then cr else if i = r + 1 then q1 else C (i - 1), hXE, ⟨⟨_, hrow, fun i hi => ?_⟩, hc, fun i hi => ?_⟩, K0⟩
  · subst HF5
    simp only [splitRows]
    by_cases c1 : i < r
    · simp only [if_pos c1, if_neg (show i ≠ r + 1 by omega), if_neg (show i ≠ r by omega), if_neg (show ¬ (r + 2 ≤ i ∧ i < r + 2 + (m - 1 - r)) by omega)]
      exact hV i (by omega)
    · by_cases c2 : i = r
      · subst c2
        have e1 : ((rows i).take 256).length = 256 := by rw [List.length_take]; omega
        simp [e1]
      · by_cases c3 : i = r + 1
        · subst c3
          have e1 : ((rows r).drop 256).length = len - 256 := by rw [List.length_drop, hlr]
          simp only [if_neg c1, if_neg c2, if_true, e1]
        · simp only [if_neg c1, if_neg c2, if_neg c3, if_pos (show r + 2 ≤ i ∧ i < r + 2 + (m - 1 - r) by omega)]
          rw [show r + 1 + (i - (r + 2)) = i - 1 by omega]
          exact hV (i - 1) (by omega)
  · simp only [splitRows]
    by_cases c1 : i < r
    · simp only [if_pos c1]
      exact hold i (by omega) (by omega)
    · by_cases c2 : i = r
      · simp only [if_neg c1, if_pos c2]
        exact hT.of_block fun k hk => by
          cases hk
          exact KE.block h (Nat.lt_of_lt_of_le hhl.2 (Nat.le_trans hgrow.size hg2.size)) (by omega)
      · by_cases c3 : i = r + 1
        · simp only [if_neg c1, if_neg c2, if_pos c3]
          exact hO1.of_block fun k hk => by
            rcases hat with e | e
            · rw [e] at hk; cases hk
            · rw [e] at hk
              cases hk
              refine K1.block _ (hO1.lt e).2 (fun hT => ?_)
              rcases hT with e | e | e
              · omega
              · omega
              · rw [hA] at e
                have := Option.some.inj (show some h = some w.heap.size from e)
                omega
        · simp only [if_neg c1, if_neg c2, if_neg c3]
          exact hold (i - 1) (by omega) (by omega)

set_option maxRecDepth 100000 in
set_option maxHeartbeats 4000000 in
theorem split_any (B X G cap m r : Nat) (A : Nat → Option Addr) (C : Nat → Nat) (rows : Nat → List ByteArray) (w : World)
    (hX : w.heap[X]? = some (.cells #[.slice (some ⟨G, 0, none⟩) m cap] 58 (0, 0))) (hO : Own w B G cap m A C rows) (hXG : X ≠ G) (hXr : ∀ i, i < m → blkOf (A i) ≠ some X)
    (hr : r < m) (hc : m + 1 ≤ cap) (hcm : cap ≤ 1000000) (hl : 512 < (rows r).length) (hlm : (rows r).length ≤ 1000000) (hBX : B ≤ w.heap.size) :
    Calls Try.prog 44 #[.pointer (some ⟨X, 0, none⟩), .int .i64 (r : Int)] w fun e w' => e = .returned (.tuple #[]) ∧ ∃ A' C', w'.heap[X]? = some (.cells #[.slice (some ⟨G, 0, none⟩) (m + 1) cap] 58 (0, 0)) ∧
      Rd w' B G cap (m + 1) A' C' (splitRows r rows) ∧ Kept (fun k => k = X ∨ k = G ∨ blkOf (A r) = some k) w w' := by
  obtain ⟨i9, hi, hz0, hz1, hz2⟩ := info_parts info9
  obtain ⟨i22, hi2, hy0, hy1, hy2⟩ := info_parts info22
  -- run r
  obtain ⟨h0, ⟨h1, h2⟩ | ⟨h, cr, cur, hv, hB, hg, hncr, hmx, hcs, htk⟩⟩ := hO.own r hr
  · omega
  simp only [Value.slice.injEq] at hv
  obtain ⟨hA, -, hC⟩ := hv
  have hcell : ∀ j, j < (rows r).length → w.cell? ⟨h, j, none⟩ = some (.string ((rows r).getD j ByteArray.empty)) := fun j hj => by
    refine cell_of_block hg ?_
    have := congrArg (fun l => l[j]?) htk
    simp only [Nat.mul_one] at this
    rw [List.getElem?_take_of_lt hj, Array.getElem?_toList] at this
    rw [this]
    simp [hj]
  have c0 : w.cell? ⟨X, 0, none⟩ = some (.slice (some ⟨G, 0, none⟩) m cap) := cell_of_block hX rfl
  have c1 : w.cell? ⟨G, r, none⟩ = some (.slice (some ⟨h, 0, none⟩) (rows r).length cr) := by
    rw [hO.row.cell hr hO.le, hA, hC]
  generalize hN : ((rows r).drop 256).map Value.string = news
  have hnl : news.length = (rows r).length - 256 := by rw [← hN]; simp
  have hnc : ∀ j u, news[j]? = some u → w.cell? ((⟨h, 256, none⟩ : Addr).add j) = some u := fun j u hj => by
    rw [← hN] at hj
    simp only [List.getElem?_map, List.getElem?_drop, Option.map_eq_some_iff] at hj
    obtain ⟨x, hx, rfl⟩ := hj
    have hlt := (List.getElem?_eq_some_iff.1 hx).1
    have := hcell (256 + j) hlt
    rw [List.getD_eq_getElem?_getD, hx] at this
    by_cases e0 : j = 0
    · subst e0; simpa [Addr.add] using this
    · simpa [Addr.add, e0] using this
  have hn1 : ∀ u ∈ news, u.oneCell' = true := by rw [← hN]; exact strs_one _
  have HN : Hid (((rows r).drop 256).map Value.string = news) := hN
  have HO : Hid (Own w B G cap m A C rows) := hO
  have HTK : Hid (∀ w2 : World, (∃ cur', w2.heap[h]? = some (.cells cur' 9 (0, 0)) ∧ cur'.size = cur.size ∧ ∀ i, i < 256 → cur'[i]? = cur[i]?) → OwnS w2 B (some ⟨h, 0, none⟩) cr ((rows r).take 256)) := fun w2 hcl =>
    own_take hB (by omega) hmx (by omega) (by omega) (by rw [← htk, Nat.mul_one]) hcl
  clear hN hO htk hcell
  generalize hlr : (rows r).length = len at *
  have Hlr : Hid ((rows r).length = len) := hlr
  clear hlr
  have k1 : ¬ (cr = 256) := by omega
  have k2 : (256 : Int) ≤ (len : Int) := by omega
  go_enter Try.func44, Try.ntmps44
  have hhl : h < w.heap.size := (Array.getElem?_eq_some_iff.1 hg).1
  have hXl : X < w.heap.size := (Array.getElem?_eq_some_iff.1 hX).1
  have hGl : G < w.heap.size := HO.row.lt
  have hhG : G ≠ h := fun e => HO.notG r hr (by rw [hA, e]; rfl)
  have hhX : X ≠ h := fun e => hXr r hr (by rw [hA, e]; rfl)
  have hsh : ∀ (w1 : World) (v' : Value), w1.ownsRow B 9 1 v' (0 + (len - 256)) ([] ++ news) → ∃ a c, v' = .slice a (len - 256) c ∧ Hid (OwnS w1 B a c ((rows r).drop 256)) := fun w1 v' ho => by
    have e1 : ((rows r).drop 256).length = len - 256 := by rw [List.length_drop, show (rows r).length = len from Hlr]
    rw [List.nil_append, Nat.zero_add, ← show ((rows r).drop 256).map Value.string = news from HN, ← e1] at ho
    obtain ⟨a, c, h1, h2⟩ := OwnS.of_value ho
    exact ⟨a, c, by rw [← e1]; exact h1, h2⟩
  have HV : Hid (OneRow w G 22 cap m (fun i => .slice (A i) (rows i).length (C i))) := HO.row
  generalize hXS : (List.range m).map (fun i => Value.slice (A i) (rows i).length (C i)) = XS
  have HXS : Hid ((List.range m).map (fun i => Value.slice (A i) (rows i).length (C i)) = XS) := hXS
  clear hXS
  have hB' := HO.gB
  go_wp2_with (first
    | (at_builtin; refine wpList_append_own_at _ rfl _ _ 22 rfl B 9 i9 _ 1 16 Try.underlying22 hi hz0 hz1 hz2 rfl (by decide) (.slice none 0 0) 0 [] rfl (World.ownsRow_nil _ _ _ _) ⟨h, 256, none⟩ (len - 256) (cr - 256) news rfl (by omega) hnc hn1 (by unfold maxLen; omega) (by omega) hBX ?_; intro v' w1 hown' hgrow hnn hat; obtain ⟨a1, q1, rfl, hO1⟩ := hsh _ _ hown'; have hg1 := (hgrow.block h hhl (by simp [Value.ownBlock])).trans hg; have hrow1 : Hid _ := OneRow.of_block HV (hgrow.block G hGl (by simp [Value.ownBlock])); have hX1 := (hgrow.block X hXl (by simp [Value.ownBlock])).trans hX; have hs1 := hgrow.size; obtain ⟨w2, hclr, hcl, hg2⟩ := run_clear_own w1 22 9 0 (.string ByteArray.empty) Try.underlying22 zero9 rfl rfl h 256 (len - 256) (cr - 256) (by omega) cur 9 hg1 (by omega); have hrow2 : Hid _ := OneRow.of_block hrow1 (hg2.block G (by omega) (by simp; omega)); have hX2 := (hg2.block X (by omega) (by simp; omega)).trans hX1; have c2 : w2.cell? ⟨X, 0, none⟩ = some (.slice (some ⟨G, 0, none⟩) m cap) := cell_of_block hX2 rfl; have hs2 := hg2.size; have hown2 : w2.ownsRow B 22 1 (.slice (some ⟨G, 0, none⟩) m cap) m XS := by { have := OneRow.owns hrow2 hB' (by omega) hcm; rw [show _ = XS from HXS] at this; exact this })
    | (at_builtin; refine wpList_append_fits _ rfl _ _ 40 rfl B 22 i22 1 Try.underlying40 hi2 hy1 G m cap XS rfl (hown2.alloc _) ⟨w2.heap.size, 0, none⟩ 1 1 [.slice none 0 0] rfl rfl (cell_one_new _ _ _) nil_one (by omega) ?_; intro w3 hown3 hg3; have hX3 := (hg3.block X (by simp; omega) (by simp; omega)).trans ((Below.heap_alloc _ _ _ (by omega)).trans hX2); have c3 : w3.cell? ⟨X, 0, none⟩ = some (.slice (some ⟨G, 0, none⟩) m cap) := cell_of_block hX3 rfl; have f3 : w3.frozen? ⟨X, 0, none⟩ = false := free_of_block hX3))
  have hX4 : (w3.setCell ⟨X, 0, none⟩ (.slice (some ⟨G, 0, none⟩) (m + 1) cap)).heap[X]? = some (.cells #[.slice (some ⟨G, 0, none⟩) (m + 1) cap] 58 (0, 0)) := block_setCell hX3 0 _
  obtain ⟨f4, hrw3, hf4⟩ := OneRow.of_owns hown3
  have hrow4 := hrw3.setOther (a := ⟨X, 0, none⟩) (fun e => hXG e.symm) (.slice (some ⟨G, 0, none⟩) (m + 1) cap)
  have K2 : Kept (fun k => k = X ∨ k = G) w2 (w3.setCell ⟨X, 0, none⟩ (.slice (some ⟨G, 0, none⟩) (m + 1) cap)) :=
    ((Kept.of_grown (World.grownBy_alloc w2 (.cells #[.slice none 0 0] 22) none) (fun k hk => by cases hk)).trans (Kept.of_grown hg3 (fun k hk => .inl (.inr (Option.some.inj hk).symm)))).setCell (.inl rfl) _
  have hone : ∀ j, j < m - 1 - r → (f4 (r + 1 + j)).oneCell' = true := fun j hj => by
    rw [hf4 _ (by omega), ← show _ = XS from HXS]
    show Value.oneCell' (List.getD _ _ _) = true
    rw [List.getD_eq_getElem?_getD, List.getElem?_append_left (by simp; omega)]
    simp [show r + 1 + j < m by omega, Value.oneCell']
  have HF4 : Hid (∀ i, i < m + 1 → f4 i = (XS ++ [Value.slice none 0 0]).getD i undef) := hf4
  clear hf4 hrw3 hown3 hg3 hX3 c3 f3 hown2 hrow2 hX2 c2 hclr hrow1
  generalize w3.setCell ⟨X, 0, none⟩ (Value.slice (some ⟨G, 0, none⟩) (m + 1) cap) = w4 at *
  have c4 : w4.cell? ⟨X, 0, none⟩ = some (.slice (some ⟨G, 0, none⟩) (m + 1) cap) := cell_of_block hX4 rfl
  have hsz22 : (Try.prog.info? 22).map (·.size) = some 1 := by rw [hi2]; exact congrArg some hy1
  have e1 : IntKind.i64.wrap ((r : Int) + 2) = (r : Int) + 2 := by rw [IntKind.wrap_i64]; omega
  have e2 : IntKind.i64.wrap ((r : Int) + 1) = (r : Int) + 1 := by rw [IntKind.wrap_i64]; omega
  have t1 : ((r : Int) + 2).toNat = r + 2 := by omega
  have t2 : ((r : Int) + 1).toNat = r + 1 := by omega
  have p1 : (r : Int) + 2 ≤ (m : Int) + 1 := by omega
  have p2 : (r : Int) + 1 ≤ (m : Int) + 1 := by omega
  have p3 : 0 ≤ (r : Int) + 2 := by omega
  have p4 : 0 ≤ (r : Int) + 1 := by omega
  have hX4l : X < w4.heap.size := (Array.getElem?_eq_some_iff.1 hX4).1
  go_cut [] (fun wd => Hid (wd.rowIs G 22 cap (fun j => if r + 2 ≤ j ∧ j < r + 2 + (m - 1 - r) then f4 (r + 1 + (j - (r + 2))) else f4 j)) ∧ Hid (Kept (fun k => k = G) w4 wd) ∧ wd.heap[X]? = some (.cells #[.slice (some ⟨G, 0, none⟩) (m + 1) cap] 58 (0, 0)))
  case first =>
    go_region_law (refine step_copy_row rfl (.tmp 33) (.tmp 40) 40 40 rfl 22 Try.underlying40 hsz22 _ _ _ _ _ _ rfl rfl G cap 22 f4 hrow4.drew (r + 2) (r + 1) (m - 1 - r) (by show _ = min _ _; omega) (fun hp => ⟨by simp; omega, by simp; omega⟩) (by omega) (by omega) hone ?_; intro w5 hrow5 hg5)
    all_goals go_wp2_with fail
    all_goals go_meet
    all_goals exact ⟨hrow5, (Kept.of_grown (World.grownBy.trans (show w4.grownBy w4.drew (some G) from ⟨rfl, rfl, rfl, Nat.le_refl _, fun _ _ _ => rfl⟩) hg5) (fun k hk => .inl (Option.some.inj hk).symm)), (hg5.block X (by simpa using hX4l) (by simp; omega)).trans hX4⟩
  case rest =>
    obtain ⟨hrow5, K5, hX5⟩ := hcut
    clear c4 hX4 hrow4
    have c5 : wc.cell? ⟨X, 0, none⟩ = some (.slice (some ⟨G, 0, none⟩) (m + 1) cap) := cell_of_block hX5 rfl
    generalize hf5 : (fun j => if r + 2 ≤ j ∧ j < r + 2 + (m - 1 - r) then f4 (r + 1 + (j - (r + 2))) else f4 j) = f5 at hrow5
    have HF5 : Hid ((fun j => if r + 2 ≤ j ∧ j < r + 2 + (m - 1 - r) then f4 (r + 1 + (j - (r + 2))) else f4 j) = f5) := hf5
    clear hf5
    have d5 := World.rowIs.cell hrow5 (i := r) (by omega)
    have d6 := World.rowIs.cell hrow5 (i := r + 1) (by omega)
    have g5 := World.rowIs.frozen hrow5 r
    have g6 := World.rowIs.frozen hrow5 (r + 1)
    have k3 : (256 : Int) ≤ (cr : Int) := by omega
    have k4 : (r : Int) < (m : Int) + 1 := by omega
    have k5 : (r : Int) + 1 < (m : Int) + 1 := by omega
    go_wp2_with fail
    go_region
    go_end0
    exact ⟨rfl, split_end HO hXr hXG hr hc hA Hlr hl hXl hgrow hg2 (HTK w2 hcl) K2 K5 hX5 hO1 (hat.imp (fun e => by rw [ownBlock_slice] at e; exact e) (fun e => by rw [ownBlock_slice] at e; exact e)) hrow5 HF5 HF4 HXS⟩
end Go.Proofs.Qxb6601288a
