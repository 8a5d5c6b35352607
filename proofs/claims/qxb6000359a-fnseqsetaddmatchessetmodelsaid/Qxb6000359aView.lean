import Derived.Test.Qxb6000359aParts
import Derived.Deep.SlicePairs
import Derived.OpenShut
namespace Go.Proofs.Qxb6000359a
open Go.RowKit Go.Deep Go.ChangeShapes Go.WideShapes

/-- WHAT A WALK IS TOLD OF A SLICE OF PAIRS THAT CAME IN: nil; or it leads to a row of two-celled elements. -/
def IsPairs (w : World) (ad : Option Addr) (len cap : Nat) (V0 V1 : Nat → Value) : Prop :=
  (ad = none ∧ len = 0 ∧ cap = 0) ∨
  ∃ (a : Addr) (b off : Nat), ad = some a ∧ (0 < len → a = ⟨b, off, none⟩) ∧ (∀ i, i < len → w.cell? ⟨b, off + i * 2, none⟩ = some (V0 i)) ∧ ∀ i, i < len → w.cell? ⟨b, off + i * 2 + 1, none⟩ = some (V1 i)

theorem pairs_plain {w : World} {a : Addr} {len : Nat} {V0 V1 : Nat → Value} (h : ∀ i, i < len → w.cell? (a.add (i * 2)) = some (V0 i) ∧ w.cell? (a.add (i * 2 + 1)) = some (V1 i)) :
    ∃ b off : Nat, (0 < len → a = ⟨b, off, none⟩) ∧ (∀ i, i < len → w.cell? ⟨b, off + i * 2, none⟩ = some (V0 i)) ∧ ∀ i, i < len → w.cell? ⟨b, off + i * 2 + 1, none⟩ = some (V1 i) := by
  obtain ⟨b, off, spot⟩ := a
  by_cases hp : 0 < len
  · have hspot : spot = none := by
      have := World.cell?_spot (h 0 hp).1
      simpa [Addr.add] using this
    subst hspot
    refine ⟨b, off, fun _ => rfl, fun i hi => ?_, fun i hi => ?_⟩
    · have := (h i hi).1; rwa [add_plain] at this
    · have := (h i hi).2; rwa [add_plain, ← Nat.add_assoc] at this
  · exact ⟨b, off, fun e => absurd e hp, fun i hi => absurd hi (by omega), fun i hi => absurd hi (by omega)⟩

section
variable {H : Type} {enc : TypeId × Value → H} {w : World} {base : Nat} {spare : Nat → Bool} {held : Bool}

theorem view_ticks {fuel : Nat} {ad : Option Addr} {len cap : Nat} {x : DataW H × List MemPlace} (h : DataW.trod enc Try.prog w base spare held fuel 34 [.slice ad len cap] = some x) :
    ∃ (A0 : Nat → Bool) (A1 : Nat → Int), IsPairs w ad len cap (fun i => .bool (A0 i)) (fun i => .int .u64 (A1 i)) := by
  rcases open_slice_pairs Try.underlying34 Try.underlying42 (by kernel_rfl) rfl rfl (by kernel_rfl) (by kernel_rfl) h with ⟨hcs, _⟩ | ⟨a, l, c, m, n, V0, V1, D0, D1, P0, P1, hcs, _, hl, _, hm, _, hc⟩
  · simp only [List.cons.injEq, Value.slice.injEq, and_true] at hcs
    exact ⟨fun _ => false, fun _ => 0, Or.inl hcs⟩
  · simp only [List.cons.injEq, Value.slice.injEq, and_true] at hcs
    obtain ⟨rfl, rfl, rfl⟩ := hcs
    have hlm : len ≤ m := by rw [hm]; split <;> omega
    obtain ⟨A0, q0⟩ := choose_lt (n := len) (p := fun i (x : Bool) => V0 i = .bool x) (fun i hi => by
      obtain ⟨b, hb, _⟩ := DataW.trod_bool Try.underlying4 (hc i (by omega)).2.2.1
      exact ⟨b, by simpa using hb⟩)
    obtain ⟨A1, q1⟩ := choose_lt (n := len) (p := fun i (x : Int) => V1 i = .int .u64 x) (fun i hi => by
      obtain ⟨b, hb, _⟩ := DataW.trod_int Try.underlying27 (hc i (by omega)).2.2.2
      exact ⟨b, by simpa using hb⟩)
    obtain ⟨b, off, h1, h2, h3⟩ := pairs_plain (w := w) (a := a) (len := len) (V0 := fun i => .bool (A0 i)) (V1 := fun i => .int .u64 (A1 i)) (fun i hi => by
      rw [← q0 i hi, ← q1 i hi]; exact ⟨(hc i (by omega)).1, (hc i (by omega)).2.1⟩)
    exact ⟨A0, A1, Or.inr ⟨a, b, off, rfl, h1, h2, h3⟩⟩

theorem view_reqs {fuel : Nat} {ad : Option Addr} {len cap : Nat} {x : DataW H × List MemPlace} (h : DataW.trod enc Try.prog w base spare held fuel 22 [.slice ad len cap] = some x) :
    ∃ (A0 : Nat → Int) (A1 : Nat → Int), IsPairs w ad len cap (fun i => .int .u64 (A0 i)) (fun i => .int .u64 (A1 i)) ∧ ∀ i, i < len → (0 ≤ A0 i ∧ A0 i ≤ 18446744073709551615) ∧ 0 ≤ A1 i ∧ A1 i ≤ 18446744073709551615 := by
  rcases open_slice_pairs Try.underlying22 Try.underlying30 (by kernel_rfl) rfl rfl (by kernel_rfl) (by kernel_rfl) h with ⟨hcs, _⟩ | ⟨a, l, c, m, n, V0, V1, D0, D1, P0, P1, hcs, _, hl, _, hm, _, hc⟩
  · simp only [List.cons.injEq, Value.slice.injEq, and_true] at hcs
    exact ⟨fun _ => 0, fun _ => 0, Or.inl hcs, fun i _ => by omega⟩
  · simp only [List.cons.injEq, Value.slice.injEq, and_true] at hcs
    obtain ⟨rfl, rfl, rfl⟩ := hcs
    have hlm : len ≤ m := by rw [hm]; split <;> omega
    obtain ⟨A0, q0⟩ := choose_lt (n := len) (p := fun i (x : Int) => V0 i = .int .u64 x ∧ (Lit.int .u64 x).wf = true) (fun i hi => by
      obtain ⟨b, hb, _, hw⟩ := DataW.trod_int Try.underlying27 (hc i (by omega)).2.2.1
      exact ⟨b, by simpa using hb, hw⟩)
    obtain ⟨A1, q1⟩ := choose_lt (n := len) (p := fun i (x : Int) => V1 i = .int .u64 x ∧ (Lit.int .u64 x).wf = true) (fun i hi => by
      obtain ⟨b, hb, _, hw⟩ := DataW.trod_int Try.underlying27 (hc i (by omega)).2.2.2
      exact ⟨b, by simpa using hb, hw⟩)
    obtain ⟨b, off, h1, h2, h3⟩ := pairs_plain (w := w) (a := a) (len := len) (V0 := fun i => .int .u64 (A0 i)) (V1 := fun i => .int .u64 (A1 i)) (fun i hi => by
      rw [← (q0 i hi).1, ← (q1 i hi).1]; exact ⟨(hc i (by omega)).1, (hc i (by omega)).2.1⟩)
    exact ⟨A0, A1, Or.inr ⟨a, b, off, rfl, h1, h2, h3⟩, fun i hi => ⟨bounds_u64 (q0 i hi).2, bounds_u64 (q1 i hi).2⟩⟩
end
end Go.Proofs.Qxb6000359a
