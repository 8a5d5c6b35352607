import Derived.Test.Qxb6000359aParts
import Derived.Maps.OwnSet
namespace Go.Proofs.Qxb6000359a
open Go.RowKit
open Go.Maps (Keyed IsMap Tidy int_keyed keyOf_int_mk)

theorem keyed27 : Keyed Try.prog 27 := int_keyed Try.underlying27
theorem zero4 (w : World) : (zeroValue 4).run Try.prog w = .ok (.bool false) w := by kernel_rfl

theorem plainElem_bool_inv {v : Value} {z : DataW Unit × List MemPlace} (h : plainElem Try.prog 4 v = some z) : ∃ x, v = .bool x ∧ z = (.lit (.bool x), []) := by
  unfold plainElem at h
  rw [Try.underlying4] at h
  cases v <;> simp at h
  subst h
  exact ⟨_, rfl, rfl⟩

/-- Block M is a map of at most n entries; at key x it holds 'S x' (false where the key is not there). -/
def SetMap (w : World) (M n : Nat) (S : Int → Bool) : Prop :=
  ∃ D : DataW Unit, w.ownsMap Try.prog 27 (plainElem Try.prog 4) M n D ∧ ∀ x : Int, D.atKey (.int .u64 x) (.lit (.bool false)) = .lit (.bool (S x))

theorem wf_u64 {x : Int} (h0 : 0 ≤ x) (h1 : x ≤ 18446744073709551615) : (Lit.int .u64 x).wf = true := by
  simp [Lit.wf, IntKind.min, IntKind.max, IntKind.signed, IntKind.bits]
  omega

namespace SetMap
variable {w : World} {M n : Nat} {S : Int → Bool}

theorem made (w : World) : SetMap (w.alloc (.map #[] 0)) w.heap.size 0 (fun _ => false) :=
  ⟨.map [], World.ownsMap_made w Try.prog 27 _, fun _ => rfl⟩

theorem of_block {w' : World} (h : SetMap w M n S) (e : w'.heap[M]? = w.heap[M]?) : SetMap w' M n S := by
  obtain ⟨D, ⟨es, clock, hb, r⟩, hS⟩ := h
  exact ⟨D, ⟨es, clock, e.trans hb, r⟩, hS⟩

theorem lt (h : SetMap w M n S) : M < w.heap.size := by
  obtain ⟨D, hD, _⟩ := h
  exact hD.lt

theorem ne_cells (h : SetMap w M n S) {g : Nat} {c : Array Value} {t : TypeId} {m : Nat × Nat} (hg : w.heap[g]? = some (.cells c t m)) : M ≠ g := by
  obtain ⟨D, ⟨es, clock, hb, r⟩, hS⟩ := h
  intro e
  rw [← e, hb] at hg
  cases hg

theorem look (h : SetMap w M n S) {x : Int} (h0 : 0 ≤ x) (h1 : x ≤ 18446744073709551615) : (Instr.lookup 65 (.map (some M)) (.int .u64 x) false).run Try.prog w = .ok (.bool (S x)) w := by
  obtain ⟨D, hD, hS⟩ := h
  obtain ⟨v, ps, hrun, hv⟩ := hD.lookup keyed27 Try.underlying65 (zero4 w) (plainElem_bool Try.underlying4 false) (keyOf_int_mk Try.underlying27 (wf_u64 h0 h1))
  obtain ⟨y, rfl, hy⟩ := plainElem_bool_inv hv
  rw [hS x] at hy
  simp at hy
  rw [hrun, hy.1]

theorem store (h : SetMap w M n S) {x : Int} (h0 : 0 ≤ x) (h1 : x ≤ 18446744073709551615) (hn : n < 1000000000) :
    ∃ w', (Instr.mapUpdate 65 (.map (some M)) (.int .u64 x) (.bool true)).run Try.prog w = .ok () w' ∧ SetMap w' M (n + 1) (fun y => S y || decide (y = x)) ∧ w.grownBy w' (some M) := by
  obtain ⟨D, hD, hS⟩ := h
  obtain ⟨w', hrun, hD', ht⟩ := hD.update keyed27 Try.underlying65 (by unfold maxLen; omega) (keyOf_int_mk Try.underlying27 (wf_u64 h0 h1)) (plainElem_bool Try.underlying4 true)
  refine ⟨w', hrun, ⟨_, hD', fun y => ?_⟩, ht⟩
  by_cases e : y = x
  · subst e
    rw [Maps.atKey_put_same hD.isMap (keyed27.key (keyOf_int_mk Try.underlying27 (wf_u64 h0 h1)))]
    simp
  · rw [Maps.atKey_put_other (by simpa using e), hS y]
    simp [e]

theorem drop (h : SetMap w M n S) {x : Int} (h0 : 0 ≤ x) (h1 : x ≤ 18446744073709551615) (hx : S x = true) (ty : TypeId) :
    1 ≤ n ∧ ∃ w', (Builtin.delete_ #[65, 27] ty #[.map (some M), .int .u64 x]).run Try.prog w = .ok (.tuple #[]) w' ∧ SetMap w' M (n - 1) (fun y => S y && !decide (y = x)) ∧ w.grownBy w' (some M) := by
  obtain ⟨D, hD, hS⟩ := h
  have hh : Maps.has D (.int .u64 x) = true := by
    cases hc : Maps.has D (.int .u64 x)
    · have := Maps.atKey_of_not_has hc (.lit (.bool false))
      rw [hS x, hx] at this
      simp at this
    · rfl
  have hsz := Maps.size_del (hD.tidy keyed27) (k := .int .u64 x)
  rw [hh] at hsz
  have hle := hD.size_le
  simp at hsz
  obtain ⟨w', hrun, hD', ht⟩ := hD.drop keyed27 Try.underlying65 (keyOf_int_mk Try.underlying27 (wf_u64 h0 h1)) ty
  refine ⟨by omega, w', hrun, ⟨D.del (.int .u64 x), ?_, fun y => ?_⟩, ht.grown⟩
  · obtain ⟨es, clock, hb, F, _, hDe⟩ := hD'
    refine ⟨es, clock, hb, F, ?_, hDe⟩
    have e1 : Maps.size (D.del (.int .u64 x)) = es.size := by
      rw [hDe]
      simp [Maps.size, length_sorted]
    omega
  · by_cases e : y = x
    · subst e
      rw [Maps.atKey_del_same]
      simp
    · rw [Maps.atKey_del_other (by simpa using e), hS y]
      simp [e]
end SetMap
end Go.Proofs.Qxb6000359a
