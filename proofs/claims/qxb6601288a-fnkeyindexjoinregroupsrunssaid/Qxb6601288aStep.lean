import Derived.Test.Qxb6601288aFlat
import Derived.Laws.CopyOwn
import Derived.Deep.RegionLaw
import Derived.Lib.SliceRun
namespace Go.Proofs.Qxb6601288a
open Go.RowKit Go.Deep

theorem block_setCell {w : World} {h : Nat} {cur : Array Value} {t : TypeId} (hb : w.heap[h]? = some (.cells cur t (0, 0))) (o : Nat) (v : Value) : (w.setCell ⟨h, o, none⟩ v).heap[h]? = some (.cells (cur.setIfInBounds o v) t (0, 0)) := by
  simp [World.setCell, Array.getElem?_modify, hb]
theorem grown_setCell (w : World) (h o : Nat) (v : Value) : w.grownBy (w.setCell ⟨h, o, none⟩ v) (some h) :=
  ⟨rfl, rfl, rfl, by simp, fun k _ hne => blk_setCell_other _ _ _ _ (fun e => hne (congrArg some e))⟩
/-- setCells touches one block, from place o on -/
theorem setCells_keep (h : Nat) (t : TypeId) : ∀ (vs : List Value) (o : Nat) (w : World) (cur : Array Value), w.heap[h]? = some (.cells cur t (0, 0)) →
    (∃ cur', (w.setCells h o vs).heap[h]? = some (.cells cur' t (0, 0)) ∧ cur'.size = cur.size ∧ ∀ i, i < o → cur'[i]? = cur[i]?) ∧ w.grownBy (w.setCells h o vs) (some h)
  | [], o, w, cur, hb => ⟨⟨cur, hb, rfl, fun _ _ => rfl⟩, World.grownBy.refl _ _⟩
  | v :: r, o, w, cur, hb => by
    obtain ⟨⟨cur', h1, h2, h3⟩, h4⟩ := setCells_keep h t r (o + 1) _ _ (block_setCell hb o v)
    refine ⟨⟨cur', h1, by simpa using h2, fun i hi => ?_⟩, (grown_setCell w h o v).trans h4⟩
    rw [h3 i (by omega), Array.getElem?_setIfInBounds, if_neg (by omega)]

/-- clear of an own slice's end -/
theorem run_clear_own {P : Program} (w : World) (t e ty : TypeId) (z : Value) (ht : P.underlying t = some (.slice e)) (hv : ∀ w, (zeroValue e).run P w = .ok z w) (hz : z.cells = #[z]) (h1 : z.oneCell' = true)
    (b off n c : Nat) (hn : 0 < n) (cur : Array Value) (te : TypeId) (hg : w.heap[b]? = some (.cells cur te (0, 0))) (hfit : off + n ≤ cur.size) :
    ∃ w', (Builtin.clear_ #[t] ty #[.slice (some ⟨b, off, none⟩) n c]).run P w = .ok (.tuple #[]) w' ∧ Hid (∃ cur', w'.heap[b]? = some (.cells cur' te (0, 0)) ∧ cur'.size = cur.size ∧ ∀ i, i < off → cur'[i]? = cur[i]?) ∧ w.grownBy w' (some b) := by
  have hrun := Lib.run_clear_slice (P := P) w t e ty z ht hv hz h1 b off n c hn (fun j hj => by simp only [World.cell?, hg]; simp; omega) (fun j hj => by simp [World.frozen?, hg])
  obtain ⟨k1, k2⟩ := setCells_keep b te (List.replicate n z) off w cur hg
  exact ⟨_, hrun, k1, k2⟩

/-- copy inside one own row, as one step of a region that draws -/
theorem step_copy_row {P : Program} {ops : Array Oper} {o : Oper} {a : Act} {w : World} {K : Act → World → Prop} {Q : Exit → Act → World → Prop} {E : Prop} (hgd : o.guard = none) (d s : Operand) (dT sT : TypeId)
    (ho : o.op = .call { callee := .builtin .copy, args := #[d, s], argTypes := #[dT, sT] }) (elem : TypeId) (hu : P.underlying dT = some (.slice elem)) (hsz : (P.info? elem).map (·.size) = some 1)
    (dp sp : Option Addr) (dLen dCap sLen sCap : Nat) (hd : a.eval d = .slice dp dLen dCap) (hs : a.eval s = .slice sp sLen sCap)
    (g n : Nat) (t : TypeId) (f : Nat → Value) (hg : w.rowIs g t n f) (do_ so k : Nat) (hk : k = Nat.min sLen dLen)
    (hpos : 0 < k → dp = some ⟨g, do_, none⟩ ∧ sp = some ⟨g, so, none⟩) (hf1 : do_ + k ≤ n) (hf2 : so + k ≤ n) (h1 : ∀ j, j < k → (f (so + j)).oneCell' = true)
    (h : ∀ w', Hid (w'.rowIs g t n (fun j => if do_ ≤ j ∧ j < do_ + k then f (so + (j - do_)) else f j)) → w.grownBy w' (some g) → K (a.put o.dst (goInt k)) w') :
    if Region.wanted o (yielded ops a.tmps) = true then Oper.wp P o a w K Q else E := by
  have hw : Region.wanted o (yielded ops a.tmps) = true := by simp [Region.wanted, hgd]
  rw [if_pos hw]
  by_cases h0 : k = 0
  · have hrun := run_copy_none (P := P) w dT sT o.type elem dp sp dLen dCap sLen sCap hu hsz (hk.symm.trans h0)
    unfold Oper.wp
    simp [execOp, ho, resolve, invoke, builtin, hd, hs, hrun, Result.andThen]
    have := h w (hg.congr (fun i _ => by rw [if_neg (by omega)])) (World.grownBy.refl _ _)
    rw [h0] at this
    exact this
  · obtain ⟨rfl, rfl⟩ := hpos (by omega)
    obtain ⟨cur, hc, hsize, hcf⟩ := id hg
    have hrun := run_copy_row (P := P) w dT sT o.type elem g do_ dLen dCap ⟨g, so, none⟩ sLen sCap cur t ((List.range k).map fun j => f (so + j)) hu hsz hc (by simpa using hk)
      (fun j v hj => by
        simp only [List.getElem?_map, Option.map_eq_some_iff] at hj
        obtain ⟨j', hj', rfl⟩ := hj
        obtain ⟨hlt, rfl⟩ := List.getElem?_eq_some_iff.1 hj'
        simp only [List.length_range] at hlt
        simp only [List.getElem_range]
        have := hg.cell (i := so + j) (by omega)
        by_cases e0 : j = 0
        · subst e0; simpa [Addr.add] using this
        · simpa [Addr.add, e0] using this)
      (by simp only [List.length_map, List.length_range]; omega) (fun v hv => by
        obtain ⟨j, hj, rfl⟩ := List.mem_map.1 hv
        exact h1 j (by simpa using hj))
    unfold Oper.wp
    simp [execOp, ho, resolve, invoke, builtin, hd, hs, hrun, Result.andThen]
    refine h _ ?_ ⟨rfl, rfl, rfl, by simp, fun j _ hne => setRow_other w g j _ (fun e => hne (congrArg some e))⟩
    refine ⟨_, setRow_heap w g _ _ t _ hc, by simp; omega, fun i hi => ?_⟩
    simp only [List.getElem?_toArray]
    by_cases c1 : i < do_
    · rw [if_neg (by omega), List.getElem?_append_left (by simp; omega), List.getElem?_take_of_lt c1, Array.getElem?_toList]
      exact hcf i hi
    · by_cases c2 : i < do_ + k
      · rw [if_pos ⟨by omega, c2⟩, List.getElem?_append_right (by simp; omega), List.getElem?_append_left (by simp; omega)]
        simp
        have e1 : min do_ cur.size = do_ := by omega
        rw [e1]
        exact ⟨i - do_, List.getElem?_range (by omega), rfl⟩
      · rw [if_neg (by omega), List.getElem?_append_right (by simp; omega), List.getElem?_append_right (by simp; omega)]
        simp
        have e1 : do_ + k + (i - min do_ cur.size - k) = i := by omega
        rw [e1]
        exact hcf i hi

/-- append onto an own slice, whatever is appended, as one step of a region that draws -/
theorem step_append_own_at {P : Program} {ops : Array Oper} {o : Oper} {a : Act} {w : World} {K : Act → World → Prop} {Q : Exit → Act → World → Prop} {E : Prop}
    (hgd : o.guard = none) (s x : Operand) (t : TypeId) (ho : o.op = .call { callee := .builtin .append, args := #[s, x], argTypes := #[t, t] })
    (base : Nat) (e : TypeId) (i : TypeInfo) (z : Value) (bytes : Nat) (ht : P.underlying t = some (.slice e)) (hi : P.info? e = some i) (hz : i.zero = some z)
    (hsize : i.size = 1) (hby : i.bytes = bytes) (hzs : z.cells.size = 1)
    (v : Value) (n : Nat) (xs : List Value) (hs : a.eval s = v) (hown : w.ownsRow base e 1 v n xs)
    (ao : Option Addr) (m c : Nat) (news : List Value) (hx : a.eval x = .slice ao m c) (hl : news.length = m) (hnone : ao = none → m = 0 ∧ c = 0)
    (hnews : ∀ ad, ao = some ad → ∀ j u, news[j]? = some u → w.cell? (ad.add j) = some u) (h1 : ∀ u ∈ news, u.oneCell' = true)
    (h63 : n + m ≤ maxLen) (hbytes : (n + m) * bytes ≤ 140737488355328) (hbase : base ≤ w.heap.size)
    (h : ∀ v' w', Hid (w'.ownsRow base e 1 v' (n + m) (xs ++ news)) → Hid (w.grownBy w' v.ownBlock) → Hid (v'.ownBlock = v.ownBlock ∨ v'.ownBlock = some w.heap.size) → K (a.put o.dst v') w') :
    if Region.wanted o (yielded ops a.tmps) = true then Oper.wp P o a w K Q else E := by
  have hw : Region.wanted o (yielded ops a.tmps) = true := by simp [Region.wanted, hgd]
  rw [if_pos hw]
  cases ao with
  | some ad =>
    obtain ⟨v', w', hr, h2, h3, -, h5⟩ := run_append_own_at (P := P) w base t o.type e i z 1 bytes ht hi hz hsize hby hzs (by decide) v n xs hown ad m c news (by simpa using hl) (hnews ad rfl) h1 h63 hbytes hbase
    unfold Oper.wp
    simp [execOp, ho, resolve, invoke, builtin, hs, hx, hr, Result.andThen]
    exact h v' w' h2 h3 h5
  | none =>
    obtain ⟨rfl, rfl⟩ := hnone rfl
    obtain rfl : news = [] := List.eq_nil_of_length_eq_zero hl
    have hrun := run_append_owned_none (P := P) w base t o.type e i 1 ht hi _ n xs hown
    unfold Oper.wp
    simp [execOp, ho, resolve, invoke, builtin, hs, hx, hrun, Result.andThen]
    refine h v w ?_ (World.grownBy.refl _ _) (Or.inl rfl)
    rw [List.append_nil, Nat.add_zero]
    exact hown
end Go.Proofs.Qxb6601288a
