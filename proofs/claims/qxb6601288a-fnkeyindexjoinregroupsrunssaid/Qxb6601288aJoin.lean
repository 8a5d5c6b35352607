import Derived.Test.Qxb6601288aSplit
namespace Go.Proofs.Qxb6601288a
open Go.RowKit Go.Deep

/-- runs a and a + 1 made one -/
def mergeRows (a : Nat) (rows : Nat → List ByteArray) (i : Nat) : List ByteArray :=
  if i < a then rows i else if i = a then rows a ++ rows (a + 1) else rows (i + 1)
/-- how many runs there are behind the join, and which -/
def joinLen (n a : Nat) (rows : Nat → List ByteArray) : Nat := if (rows a).length + (rows (a + 1)).length ≤ 512 then n - 1 else n
def joinRows (a : Nat) (rows : Nat → List ByteArray) : Nat → List ByteArray := if (rows a).length + (rows (a + 1)).length ≤ 512 then mergeRows a rows else splitRows a (mergeRows a rows)

theorem grown_undrew {w w1 : World} {row : Option Nat} (h : w.drew.grownBy w1 row) : w.grownBy w1 row := ⟨h.os, h.tape, h.output, h.size, h.block⟩

/-- what the join leaves -/
def JPost (B X G n a : Nat) (A : Nat → Option Addr) (rows : Nat → List ByteArray) (w w' : World) : Prop :=
  ∃ A' C', w'.heap[X]? = some (.cells #[.slice (some ⟨G, 0, none⟩) (joinLen n a rows) n] 58 (0, 0)) ∧
      Rd w' B G n (joinLen n a rows) A' C' (joinRows a rows) ∧ Kept (fun k => k = X ∨ k = G ∨ ∃ i, i < n ∧ blkOf (A i) = some k) w w'
theorem JPost.short {B X G n a : Nat} {A A6 : Nat → Option Addr} {C6 : Nat → Nat} {rows : Nat → List ByteArray} {w w' : World} (h : (rows a).length + (rows (a + 1)).length ≤ 512)
    (h1 : w'.heap[X]? = some (.cells #[.slice (some ⟨G, 0, none⟩) (n - 1) n] 58 (0, 0))) (h2 : Own w' B G n (n - 1) A6 C6 (mergeRows a rows)) (h3 : Kept (fun k => k = X ∨ k = G ∨ ∃ i, i < n ∧ blkOf (A i) = some k) w w') : JPost B X G n a A rows w w' := by
  unfold JPost joinLen joinRows
  rw [if_pos h, if_pos h]
  exact ⟨A6, C6, h1, ⟨h2.row, h2.le, h2.own⟩, h3⟩
theorem JPost.long {B X G n a : Nat} {A A7 : Nat → Option Addr} {C7 : Nat → Nat} {rows : Nat → List ByteArray} {w w9 w' : World} {a6 : Option Addr} (h : ¬ (rows a).length + (rows (a + 1)).length ≤ 512) (hn : 2 ≤ n) (ha : a + 1 < n)
    (h1 : w'.heap[X]? = some (.cells #[.slice (some ⟨G, 0, none⟩) (n - 1 + 1) n] 58 (0, 0))) (h2 : Rd w' B G n (n - 1 + 1) A7 C7 (splitRows a (mergeRows a rows))) (h3 : Kept (fun k => k = X ∨ k = G ∨ ∃ i, i < n ∧ blkOf (A i) = some k) w w9)
    (h4 : Kept (fun k => k = X ∨ k = G ∨ blkOf a6 = some k) w9 w') (hat : blkOf a6 = blkOf (A a) ∨ blkOf a6 = some w.heap.size) : JPost B X G n a A rows w w' := by
  unfold JPost joinLen joinRows
  rw [if_neg h, if_neg h]
  rw [show n - 1 + 1 = n by omega] at h1 h2
  refine ⟨A7, C7, h1, h2, h4.os.trans h3.os, h4.tape.trans h3.tape, h4.output.trans h3.output, Nat.le_trans h3.size h4.size, fun k hk hn => ?_⟩
  refine (h4.block k (Nat.lt_of_lt_of_le hk h3.size) (fun hT => ?_)).trans (h3.block k hk hn)
  rcases hT with e | e | e
  · exact hn (.inl e)
  · exact hn (.inr (.inl e))
  · rcases hat with e2 | e2
    · exact hn (.inr (.inr ⟨a, by omega, by rw [← e2, e]⟩))
    · rw [e2] at e
      have := Option.some.inj e
      omega

/-- memory behind the joining -/
theorem join_own {B X G n a la lb c' : Nat} {A : Nat → Option Addr} {C : Nat → Nat} {rows : Nat → List ByteArray} {Aa a' : Option Addr} {f1 f5 : Nat → Value} {w w1 wc : World}
    (HO : Own w B G n n A C rows) (hXr : ∀ i, i < n → blkOf (A i) ≠ some X) (hXG : X ≠ G) (ha2 : a + 1 < n) (HAa : A a = Aa) (Hla : (rows a).length = la) (Hlb : (rows (a + 1)).length = lb) (hXl : X < w.heap.size)
    (hO1 : OwnS w1 B a' c' (rows a ++ rows (a + 1))) (hg1 : w.grownBy w1 (blkOf Aa)) (hat : blkOf a' = blkOf Aa ∨ blkOf a' = some w.heap.size) (HF1 : ∀ i, i < n → f1 i = .slice (A i) (rows i).length (C i))
    (hrow5 : wc.rowIs G 22 n f5) (HF5 : (fun j => if a + 1 ≤ j ∧ j < a + 1 + (n - (a + 2)) then f1 (a + 2 + (j - (a + 1))) else f1 j) = f5) (K5 : Kept (fun k => k = G) w1 wc) (hX5 : wc.heap[X]? = some (.cells #[.slice (some ⟨G, 0, none⟩) n n] 58 (0, 0))) :
    (((wc.setCell ⟨G, n - 1, none⟩ (.slice none 0 0)).setCell ⟨X, 0, none⟩ (.slice (some ⟨G, 0, none⟩) (n - 1) n)).drew.drew.setCell ⟨G, a, none⟩ (.slice a' (la + lb) c')).heap[X]? = some (.cells #[.slice (some ⟨G, 0, none⟩) (n - 1) n] 58 (0, 0)) ∧
    Own (((wc.setCell ⟨G, n - 1, none⟩ (.slice none 0 0)).setCell ⟨X, 0, none⟩ (.slice (some ⟨G, 0, none⟩) (n - 1) n)).drew.drew.setCell ⟨G, a, none⟩ (.slice a' (la + lb) c')) B G n (n - 1)
      (fun i => if i < a then A i else if i = a then a' else A (i + 1)) (fun i => if i < a then C i else if i = a then c' else C (i + 1)) (mergeRows a rows) ∧
    Kept (fun k => k = X ∨ k = G ∨ ∃ i, i < n ∧ blkOf (A i) = some k) w (((wc.setCell ⟨G, n - 1, none⟩ (.slice none 0 0)).setCell ⟨X, 0, none⟩ (.slice (some ⟨G, 0, none⟩) (n - 1) n)).drew.drew.setCell ⟨G, a, none⟩ (.slice a' (la + lb) c')) ∧
    (∀ i, i < n - 1 → blkOf (if i < a then A i else if i = a then a' else A (i + 1)) ≠ some X) := by
  have hGl := HO.row.lt
  have hXE : (((wc.setCell ⟨G, n - 1, none⟩ (.slice none 0 0)).setCell ⟨X, 0, none⟩ (.slice (some ⟨G, 0, none⟩) (n - 1) n)).drew.drew.setCell ⟨G, a, none⟩ (.slice a' (la + lb) c')).heap[X]? = some (.cells #[.slice (some ⟨G, 0, none⟩) (n - 1) n] 58 (0, 0)) :=
    (blk_setCell_other _ ⟨G, a, none⟩ _ X hXG).trans (block_setCell (w := wc.setCell ⟨G, n - 1, none⟩ (.slice none 0 0)) ((blk_setCell_other _ ⟨G, n - 1, none⟩ _ X hXG).trans hX5) 0 _)
  have KE : Kept (fun k => k = X ∨ k = G) w1 (((wc.setCell ⟨G, n - 1, none⟩ (.slice none 0 0)).setCell ⟨X, 0, none⟩ (.slice (some ⟨G, 0, none⟩) (n - 1) n)).drew.drew.setCell ⟨G, a, none⟩ (.slice a' (la + lb) c')) :=
    (((((K5.mono (T' := fun k => k = X ∨ k = G) fun k _ hk => .inr hk).setCell (p := ⟨G, n - 1, none⟩) (.inr rfl) _).setCell (p := ⟨X, 0, none⟩) (.inl rfl) _).drew).drew).setCell (p := ⟨G, a, none⟩) (.inr rfl) _
  have hrow : (((wc.setCell ⟨G, n - 1, none⟩ (.slice none 0 0)).setCell ⟨X, 0, none⟩ (.slice (some ⟨G, 0, none⟩) (n - 1) n)).drew.drew.setCell ⟨G, a, none⟩ (.slice a' (la + lb) c')).rowIs G 22 n _ :=
    ((((hrow5.set (n - 1) (.slice none 0 0)).setOther (a := ⟨X, 0, none⟩) (fun e => hXG e.symm) _).drew).drew).set a _
  generalize (((wc.setCell ⟨G, n - 1, none⟩ (.slice none 0 0)).setCell ⟨X, 0, none⟩ (.slice (some ⟨G, 0, none⟩) (n - 1) n)).drew.drew.setCell ⟨G, a, none⟩ (.slice a' (la + lb) c')) = wE at *
  have K0 : Kept (fun k => k = X ∨ k = G ∨ blkOf (A a) = some k) w wE :=
    (Kept.of_grown hg1 (fun k hk => .inl (.inr (.inr (by rw [HAa, hk]))))).trans (KE.mono fun k _ hk => hk.elim .inl (fun e => .inr (.inl e)))
  have hnewX : blkOf a' ≠ some X := fun e => by
    rcases hat with h | h
    · exact hXr a (by omega) (by rw [HAa, ← h, e])
    · rw [h] at e
      have := Option.some.inj e
      omega
  have hnewG : blkOf a' ≠ some G := fun e => by
    rcases hat with h | h
    · exact HO.notG a (by omega) (by rw [HAa, ← h, e])
    · rw [h] at e
      have := Option.some.inj e
      omega
  have hold : ∀ i, i < n → i ≠ a → OwnS wE B (A i) (C i) (rows i) := fun i hi hir =>
    (HO.own i hi).of_block fun k hk => K0.block k ((HO.own i hi).lt hk).2 (fun hT => by
      rcases hT with e | e | e
      · exact hXr i hi (by rw [hk, e])
      · exact HO.notG i hi (by rw [hk, e])
      · exact HO.apart i a hi (by omega) hir k hk e)
  have hnewA : ∀ i, i < n → i ≠ a → ∀ k, blkOf a' = some k → blkOf (A i) ≠ some k := fun i hi hir k hk e => by
    rcases hat with h | h
    · exact HO.apart i a hi (by omega) hir k e (by rw [HAa, ← h, hk])
    · rw [h] at hk
      have h1 := ((HO.own i hi).lt e).2
      have := Option.some.inj hk
      omega
  refine ⟨hXE, ⟨⟨_, hrow, fun i hi => ?_⟩, by omega, HO.gB, fun i hi => ?_, fun i hi => ?_, fun i j hi hj hij k hk => ?_⟩, K0.mono fun k _ hk => hk.elim .inl (fun h => .inr (h.elim .inl fun e => .inr ⟨a, by omega, e⟩)), fun i hi => ?_⟩
  · subst HF5
    simp only [mergeRows]
    by_cases c1 : i < a
    · simp only [if_pos c1, if_neg (show i ≠ a by omega), if_neg (show i ≠ n - 1 by omega), if_neg (show ¬ (a + 1 ≤ i ∧ i < a + 1 + (n - (a + 2))) by omega)]
      exact HF1 i (by omega)
    · by_cases c2 : i = a
      · subst c2
        simp only [if_true, if_neg c1, List.length_append, Hla, Hlb]
      · simp only [if_neg c1, if_neg c2, if_neg (show i ≠ n - 1 by omega), if_pos (show a + 1 ≤ i ∧ i < a + 1 + (n - (a + 2)) by omega)]
        rw [show a + 2 + (i - (a + 1)) = i + 1 by omega]
        exact HF1 (i + 1) (by omega)
  · simp only [mergeRows]
    by_cases c1 : i < a
    · simp only [if_pos c1]
      exact hold i (by omega) (by omega)
    · by_cases c2 : i = a
      · simp only [if_neg c1, if_pos c2]
        exact hO1.of_block fun k hk => KE.block k (hO1.lt hk).2 (fun hT => hT.elim (fun e => hnewX (by rw [hk, e])) (fun e => hnewG (by rw [hk, e])))
      · simp only [if_neg c1, if_neg c2]
        exact hold (i + 1) (by omega) (by omega)
  · by_cases c1 : i < a
    · simp only [if_pos c1]; exact HO.notG i (by omega)
    · by_cases c2 : i = a
      · simp only [if_neg c1, if_pos c2]; exact hnewG
      · simp only [if_neg c1, if_neg c2]; exact HO.notG (i + 1) (by omega)
  · by_cases c1 : i < a
    · simp only [if_pos c1] at hk
      by_cases d1 : j < a
      · simp only [if_pos d1]; exact HO.apart i j (by omega) (by omega) hij k hk
      · by_cases d2 : j = a
        · simp only [if_neg d1, if_pos d2]; exact fun e => hnewA i (by omega) (by omega) k e hk
        · simp only [if_neg d1, if_neg d2]; exact HO.apart i (j + 1) (by omega) (by omega) (by omega) k hk
    · by_cases c2 : i = a
      · simp only [if_neg c1, if_pos c2] at hk
        by_cases d1 : j < a
        · simp only [if_pos d1]; exact hnewA j (by omega) (by omega) k hk
        · simp only [if_neg d1, if_neg (show j ≠ a by omega)]; exact hnewA (j + 1) (by omega) (by omega) k hk
      · simp only [if_neg c1, if_neg c2] at hk
        by_cases d1 : j < a
        · simp only [if_pos d1]; exact HO.apart (i + 1) j (by omega) (by omega) (by omega) k hk
        · by_cases d2 : j = a
          · simp only [if_neg d1, if_pos d2]; exact fun e => hnewA (i + 1) (by omega) (by omega) k e hk
          · simp only [if_neg d1, if_neg d2]; exact HO.apart (i + 1) (j + 1) (by omega) (by omega) (by omega) k hk
  · by_cases c1 : i < a
    · simp only [if_pos c1]; exact hXr i (by omega)
    · by_cases c2 : i = a
      · simp only [if_neg c1, if_pos c2]; exact hnewX
      · simp only [if_neg c1, if_neg c2]; exact hXr (i + 1) (by omega)

set_option maxRecDepth 100000 in
set_option maxHeartbeats 4000000 in
theorem join_many (B X G n r a : Nat) (A : Nat → Option Addr) (C : Nat → Nat) (rows : Nat → List ByteArray) (w : World)
    (hX : w.heap[X]? = some (.cells #[.slice (some ⟨G, 0, none⟩) n n] 58 (0, 0))) (hO : Own w B G n n A C rows) (hXG : X ≠ G) (hXr : ∀ i, i < n → blkOf (A i) ≠ some X)
    (hn : 2 ≤ n) (hr : r < n) (ha : a = if r = n - 1 then n - 2 else r) (hnm : n ≤ 1000000) (hl : (rows a).length + (rows (a + 1)).length ≤ 1000000) (hBX : B ≤ w.heap.size) :
    Calls Try.prog 41 #[.pointer (some ⟨X, 0, none⟩), .int .i64 (r : Int)] w fun e w' => e = .returned (.tuple #[]) ∧ JPost B X G n a A rows w w' := by
  obtain ⟨i9, hi, hz0, hz1, hz2⟩ := info_parts info9
  obtain ⟨i22, hi2, hy0, hy1, hy2⟩ := info_parts info22
  have ha2 : a + 1 < n := by subst ha; split <;> omega
  have hra : r = n - 1 ∧ a = n - 2 ∨ r ≠ n - 1 ∧ a = r := by by_cases e : r = n - 1 <;> simp [ha, e]
  clear ha
  have c0 : w.cell? ⟨X, 0, none⟩ = some (.slice (some ⟨G, 0, none⟩) n n) := cell_of_block hX rfl
  have c1 := hO.row.cell (i := a) (by omega) (Nat.le_refl _)
  have c2 := hO.row.cell (i := a + 1) (by omega) (Nat.le_refl _)
  have hn1 : ¬ ((n : Int) = 1) := by omega
  have wn : IntKind.i64.wrap ((n : Int) - 1) = (n : Int) - 1 := by rw [IntKind.wrap_i64]; omega
  have HO : Hid (Own w B G n n A C rows) := hO
  clear hO
  go_enter Try.func41, Try.ntmps41
  go_upto_if 29 with fail
  go_cut [1] (fun s1 wd => s1 = .int .i64 (a : Int) ∧ w = wd)
  case first =>
    rcases hra with ⟨h1, h2⟩ | ⟨h1, h2⟩
    · have e1 : (r : Int) = (n : Int) - 1 := by omega
      have e2 : IntKind.i64.wrap ((r : Int) - 1) = (a : Int) := by rw [IntKind.wrap_i64]; omega
      go_wp2_with fail
      go_meet
      case rel => exact ⟨by simp; omega, rfl⟩
    · have e1 : ¬ (r : Int) = (n : Int) - 1 := by omega
      go_wp2_with fail
      go_meet
      case rel => exact ⟨by rw [h2], rfl⟩
  case rest =>
    obtain ⟨rfl, rfl⟩ := hcut
    have k1 : (a : Int) < (n : Int) := by omega
    have k2 : (a : Int) + 1 < (n : Int) := by omega
    have e1 : IntKind.i64.wrap ((a : Int) + 1) = (a : Int) + 1 := by rw [IntKind.wrap_i64]; omega
    have e2 : IntKind.i64.wrap ((a : Int) + 2) = (a : Int) + 2 := by rw [IntKind.wrap_i64]; omega
    have t1 : ((a : Int) + 1).toNat = a + 1 := by omega
    have t2 : ((a : Int) + 2).toNat = a + 2 := by omega
    have p1 : 0 ≤ (a : Int) + 1 := by omega
    have p2 : 0 ≤ (a : Int) + 2 := by omega
    have p3 : (a : Int) + 1 ≤ (n : Int) := by omega
    have p4 : (a : Int) + 2 ≤ (n : Int) := by omega
    have hownA : w.ownsRow B 9 1 (.slice (A a) (rows a).length (C a)) (rows a).length ((rows a).map Value.string) := HO.own a (by omega)
    have hsB := (HO.own (a + 1) (by omega)).strs
    have hnone : A (a + 1) = none → (rows (a + 1)).length = 0 ∧ C (a + 1) = 0 := hsB.choose_spec.1.nil
    have hnews : ∀ ad, A (a + 1) = some ad → ∀ j u, ((rows (a + 1)).map Value.string)[j]? = some u → w.drew.cell? (ad.add j) = some u := fun ad he j u hj => by
      obtain ⟨b, hs, -⟩ := hsB
      simp only [List.getElem?_map, Option.map_eq_some_iff] at hj
      obtain ⟨x, hx, rfl⟩ := hj
      have hlt := (List.getElem?_eq_some_iff.1 hx).1
      have h3 := hs.at_ (by omega)
      rw [he] at h3
      cases h3
      have := hs.c0 j hlt
      simp only [List.getD_eq_getElem?_getD, hx] at this
      by_cases e0 : j = 0
      · subst e0; simpa [Addr.add] using this
      · simpa [Addr.add, e0] using this
    have hone := strs_one (rows (a + 1))
    have hnl : ((rows (a + 1)).map Value.string).length = (rows (a + 1)).length := by simp
    have hsh : ∀ (w1 : World) (v' : Value), Hid (w1.ownsRow B 9 1 v' ((rows a).length + (rows (a + 1)).length) ((rows a).map Value.string ++ (rows (a + 1)).map Value.string)) → ∃ a' c', v' = .slice a' ((rows a).length + (rows (a + 1)).length) c' ∧ Hid (OwnS w1 B a' c' (rows a ++ rows (a + 1))) := fun w1 v' ho => by
      have ho' : w1.ownsRow B 9 1 v' (rows a ++ rows (a + 1)).length ((rows a ++ rows (a + 1)).map Value.string) := by
        rw [List.length_append, List.map_append]; exact ho
      obtain ⟨a', c', h1, h2⟩ := OwnS.of_value ho'
      exact ⟨a', c', by rw [h1, List.length_append], h2⟩
    clear hsB
    generalize (rows a).map Value.string = XA at *
    generalize (rows (a + 1)).map Value.string = news at *
    have HLA : Hid ((rows a).length = (rows a).length) := rfl
    generalize hla : (rows a).length = la at *
    generalize hlb : (rows (a + 1)).length = lb at *
    have Hla : Hid ((rows a).length = la) := hla
    have Hlb : Hid ((rows (a + 1)).length = lb) := hlb
    clear hla hlb HLA
    generalize hAa : A a = Aa at c1 hownA
    have HAa : Hid (A a = Aa) := hAa
    clear hAa
    generalize hAb : A (a + 1) = Ab at c2 hnews hnone
    clear hAb
    generalize C a = Ca at c1 hownA
    generalize C (a + 1) = Cb at c2 hnone
    go_wp2_with fail
    go_cut [4] (fun s4 wd => ∃ a' c', s4 = .slice a' (la + lb) c' ∧ Hid (OwnS wd B a' c' (rows a ++ rows (a + 1))) ∧ Hid (w.grownBy wd (blkOf Aa)) ∧ Hid (blkOf a' = blkOf Aa ∨ blkOf a' = some w.heap.size))
    case first =>
      go_region_law (refine step_append_own_at rfl (.tmp 38) (.tmp 46) 22 rfl B 9 i9 _ 16 Try.underlying22 hi hz0 hz1 hz2 rfl (.slice Aa la Ca) la XA rfl hownA.drew Ab lb Cb news rfl hnl hnone hnews hone (by unfold maxLen; omega) (by omega) hBX ?_; intro v' w1 ho hg hat; obtain ⟨a', c', rfl, hO1⟩ := hsh _ _ ho)
      all_goals go_wp2_with fail
      all_goals go_meet
      all_goals
        have hg' := grown_undrew hg
        rw [ownBlock_slice] at hg'
        exact ⟨a', c', rfl, hO1, hg', hat.imp (fun e => by rw [ownBlock_slice, ownBlock_slice] at e; exact e) (fun e => by rw [ownBlock_slice] at e; exact e)⟩
    case rest =>
      obtain ⟨a', c', rfl, hO1, hg1, hat⟩ := hcut
      have hXl : X < w.heap.size := (Array.getElem?_eq_some_iff.1 hX).1
      have hGl : G < w.heap.size := HO.row.lt
      have nX : some X ≠ blkOf Aa := fun e => hXr a (by omega) (by rw [show A a = Aa from HAa, ← e])
      have nG : some G ≠ blkOf Aa := fun e => HO.notG a (by omega) (by rw [show A a = Aa from HAa, ← e])
      have hX1 := (hg1.block X hXl nX).trans hX
      obtain ⟨f1, hrow1, hf1⟩ := HO.row.of_block (hg1.block G hGl nG)
      have hone1 : ∀ j, j < n - (a + 2) → (f1 (a + 2 + j)).oneCell' = true := fun j hj => by rw [hf1 _ (by omega)]; rfl
      have HF1 : Hid (∀ i, i < n → f1 i = .slice (A i) (rows i).length (C i)) := hf1
      have HX : Hid (w.heap[X]? = some (.cells #[.slice (some ⟨G, 0, none⟩) n n] 58 (0, 0))) := hX
      clear hf1 hownA hnone hnews hone hnl hsh c0 c1 c2 hX nX nG
      obtain ⟨w1, hw1⟩ : ∃ w1, w1 = wc := ⟨_, rfl⟩
      subst hw1
      have c4 : w1.cell? ⟨X, 0, none⟩ = some (.slice (some ⟨G, 0, none⟩) n n) := cell_of_block hX1 rfl
      have hX1l : X < w1.heap.size := (Array.getElem?_eq_some_iff.1 hX1).1
      have hsz22 : (Try.prog.info? 22).map (·.size) = some 1 := by rw [hi2]; exact congrArg some hy1
      go_wp2_with fail
      go_cut [] (fun wd => Hid (wd.rowIs G 22 n (fun j => if a + 1 ≤ j ∧ j < a + 1 + (n - (a + 2)) then f1 (a + 2 + (j - (a + 1))) else f1 j)) ∧ Hid (Kept (fun k => k = G) w1 wd) ∧ wd.heap[X]? = some (.cells #[.slice (some ⟨G, 0, none⟩) n n] 58 (0, 0)))
      case first =>
        go_region_law (refine step_copy_row rfl (.tmp 54) (.tmp 61) 40 40 rfl 22 Try.underlying40 hsz22 _ _ _ _ _ _ rfl rfl G n 22 f1 hrow1.drew (a + 1) (a + 2) (n - (a + 2)) (by show _ = min _ _; omega) (fun hp => ⟨by simp; omega, by simp; omega⟩) (by omega) (by omega) hone1 ?_; intro w5 hrow5 hg5)
        all_goals go_wp2_with fail
        all_goals go_meet
        all_goals exact ⟨hrow5, Kept.of_grown (grown_undrew hg5) (fun k hk => .inl (Option.some.inj hk).symm), (hg5.block X (by simpa using hX1l) (by simp; omega)).trans hX1⟩
      case rest =>
        obtain ⟨hrow5, K5, hX5⟩ := hcut
        clear c4 hrow1 hone1
        have c5 : wc.cell? ⟨X, 0, none⟩ = some (.slice (some ⟨G, 0, none⟩) n n) := cell_of_block hX5 rfl
        have g0 : wc.frozen? ⟨X, 0, none⟩ = false := free_of_block hX5
        generalize hf5 : (fun j => if a + 1 ≤ j ∧ j < a + 1 + (n - (a + 2)) then f1 (a + 2 + (j - (a + 1))) else f1 j) = f5 at hrow5
        have HF5 : Hid ((fun j => if a + 1 ≤ j ∧ j < a + 1 + (n - (a + 2)) then f1 (a + 2 + (j - (a + 1))) else f1 j) = f5) := hf5
        clear hf5
        have d5 := World.rowIs.cell hrow5 (i := a) (by omega)
        have d6 := World.rowIs.cell hrow5 (i := n - 1) (by omega)
        have g5 := World.rowIs.frozen hrow5 a
        have g6 := World.rowIs.frozen hrow5 (n - 1)
        have t3 : ((n : Int) - 1).toNat = n - 1 := by omega
        have p5 : 0 ≤ (n : Int) - 1 := by omega
        have p6 : (n : Int) - 1 < (n : Int) := by omega
        have p7 : (n : Int) - 1 ≤ (n : Int) := by omega
        have nXG : ¬ (X = G) := hXG
        have nGX : ¬ (G = X) := fun e => hXG e.symm
        go_wp2_with fail
        go_region
        go_wp2_with fail
        go_region
        have hE := join_own HO hXr hXG ha2 HAa Hla Hlb hXl hO1 hg1 hat HF1 hrow5 HF5 K5 hX5
        have d7 : ((wc.setCell ⟨G, n - 1, none⟩ (.slice none 0 0)).setCell ⟨X, 0, none⟩ (.slice (some ⟨G, 0, none⟩) (n - 1) n)).drew.drew.cell? ⟨G, a, none⟩ = some (f5 a) := by
          have := ((((World.rowIs.set hrow5 (n - 1) (.slice none 0 0)).setOther (a := ⟨X, 0, none⟩) (fun e => hXG e.symm) (.slice (some ⟨G, 0, none⟩) (n - 1) n)).drew).drew).cell (i := a) (by omega)
          rw [if_neg (by omega)] at this
          exact this
        have g7 : ((wc.setCell ⟨G, n - 1, none⟩ (.slice none 0 0)).setCell ⟨X, 0, none⟩ (.slice (some ⟨G, 0, none⟩) (n - 1) n)).drew.drew.frozen? ⟨G, a, none⟩ = false :=
          ((((World.rowIs.set hrow5 (n - 1) (.slice none 0 0)).setOther (a := ⟨X, 0, none⟩) (fun e => hXG e.symm) (.slice (some ⟨G, 0, none⟩) (n - 1) n)).drew).drew).frozen a
        have c7 : ((wc.setCell ⟨G, n - 1, none⟩ (.slice none 0 0)).setCell ⟨X, 0, none⟩ (.slice (some ⟨G, 0, none⟩) (n - 1) n)).drew.drew.cell? ⟨X, 0, none⟩ = some (.slice (some ⟨G, 0, none⟩) (n - 1) n) :=
          cell_of_block (block_setCell (w := wc.setCell ⟨G, n - 1, none⟩ (.slice none 0 0)) ((blk_setCell_other _ ⟨G, n - 1, none⟩ _ X hXG).trans hX5) 0 _) rfl
        have Hcat : Hid (mergeRows a rows a = rows a ++ rows (a + 1)) := by show mergeRows a rows a = _; simp [mergeRows]
        have s6 : w.heap.size ≤ wc.heap.size := Nat.le_trans hg1.size K5.size
        have Hat : Hid (blkOf a' = blkOf Aa ∨ blkOf a' = some w.heap.size) := hat
        clear c5 g0 d5 d6 g5 g6 hrow5 hX5 hO1 hg1 hat
        generalize ((wc.setCell ⟨G, n - 1, none⟩ (Value.slice none 0 0)).setCell ⟨X, 0, none⟩ (Value.slice (some ⟨G, 0, none⟩) (n - 1) n)).drew.drew = w8 at *
        have k8 : (a : Int) < ((n - 1 : Nat) : Int) := by omega
        by_cases h512 : la + lb ≤ 512
        · have q1 : ¬ (512 : Int) < (la : Int) + (lb : Int) := by omega
          go_wp2_with fail
          go_end0
          exact ⟨rfl, JPost.short (by rw [show (rows a).length = la from Hla, show (rows (a + 1)).length = lb from Hlb]; exact h512) hE.1 hE.2.1 hE.2.2.1⟩
        · have q1 : (512 : Int) < (la : Int) + (lb : Int) := by omega
          have ec : (mergeRows a rows a).length = la + lb := by rw [show mergeRows a rows a = _ from Hcat, List.length_append, show (rows a).length = la from Hla, show (rows (a + 1)).length = lb from Hlb]
          have ct := split_any B X G n (n - 1) a _ _ (mergeRows a rows) _ hE.1 hE.2.1 hXG hE.2.2.2 (by omega) (by omega) hnm (by omega) (by omega) (Nat.le_trans hBX hE.2.2.1.size)
          have HE : Hid (Kept (fun k => k = X ∨ k = G ∨ ∃ i, i < n ∧ blkOf (A i) = some k) w (w8.setCell ⟨G, a, none⟩ (Value.slice a' (la + lb) c'))) := hE.2.2.1
          clear hE
          go_wp2_with fail
          refine ct.mono ?_
          rintro _ w' ⟨rfl, A', C', hX', hR', hK'⟩
          go_wp2_with fail
          go_end0
          refine ⟨rfl, JPost.long (a6 := a') (by rw [show (rows a).length = la from Hla, show (rows (a + 1)).length = lb from Hlb]; exact h512) hn ha2 hX' hR' HE (hK'.mono fun k _ hk => ?_) (by rw [show A a = Aa from HAa]; exact Hat)⟩
          simpa using hk
end Go.Proofs.Qxb6601288a
