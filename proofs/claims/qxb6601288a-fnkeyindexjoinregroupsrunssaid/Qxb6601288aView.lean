import Derived.Test.Qxb6601288aCopyRuns
import Derived.Deep.Slices
import Derived.OpenShut
namespace Go.Proofs.Qxb6601288a
open Go.RowKit Go.Deep Go.ChangeShapes Go.WideShapes

theorem plain_row {w : World} {a : Addr} {len : Nat} {V : Nat → Value} (h : ∀ i, i < len → w.cell? (a.add i) = some (V i)) :
    ∃ b off : Nat, (0 < len → a = ⟨b, off, none⟩) ∧ ∀ i, i < len → w.cell? ⟨b, off + i, none⟩ = some (V i) := by
  obtain ⟨b, off, spot⟩ := a
  by_cases hp : 0 < len
  · have hspot : spot = none := by
      have := World.cell?_spot (h 0 hp)
      simpa [Addr.add] using this
    subst hspot
    refine ⟨b, off, fun _ => rfl, fun i hi => ?_⟩
    have := h i hi
    rwa [add_plain] at this
  · exact ⟨b, off, fun e => absurd e hp, fun i hi => absurd hi (by omega)⟩

section
variable {H : Type} {enc : TypeId × Value → H} {w : World} {base : Nat} {spare : Nat → Bool} {held : Bool}

theorem view_strs {fuel : Nat} {cs : List Value} {x : DataW H × List MemPlace} (h : DataW.trod enc Try.prog w base spare held fuel 22 cs = some x) :
    ∃ (ad : Option Addr) (cap : Nat) (l : List ByteArray) (b off : Nat), cs = [.slice ad l.length cap] ∧ Strs w ad l.length cap (fun j => l.getD j ByteArray.empty) b off := by
  rcases open_slice1 Try.underlying22 (by kernel_rfl) h with ⟨hcs, _⟩ | ⟨a, len, c, m, n, V, D, Pl, hcs, _, hl, _, hm, _, hel⟩
  · exact ⟨none, 0, [], 0, 0, hcs, fun _ => ⟨rfl, rfl⟩, fun h0 => absurd h0 (by simp), fun i hi => absurd hi (by simp)⟩
  · have hlm : len ≤ m := by rw [hm]; split <;> omega
    obtain ⟨f, hf⟩ := choose_lt (n := len) (p := fun i (s : ByteArray) => V i = .string s) (fun i hi => by
      obtain ⟨s, hs, _⟩ := DataW.trod_string Try.underlying9 (hel i (by omega)).2
      exact ⟨s, by simpa using hs⟩)
    obtain ⟨b, off, h1, h2⟩ := plain_row (w := w) (a := a) (len := len) (V := V) (fun i hi => (hel i (by omega)).1)
    have hlen : ((List.range len).map f).length = len := by simp
    refine ⟨some a, c, (List.range len).map f, b, off, by rw [hlen]; exact hcs, fun e => (by cases e), fun h0 => by rw [h1 (by omega)], fun i hi => ?_⟩
    have hi' : i < len := by omega
    rw [h2 i hi', hf i hi']
    simp [hi']

theorem view_runs {fuel : Nat} {ad : Option Addr} {len cap : Nat} {x : DataW H × List MemPlace} (h : DataW.trod enc Try.prog w base spare held fuel 40 [.slice ad len cap] = some x) :
    ∃ (rows : Nat → List ByteArray) (v : RV), Runs w ad cap len (LL rows) (SS rows) v := by
  rcases open_slice1 Try.underlying40 (by kernel_rfl) h with ⟨hcs, _⟩ | ⟨a, l, c, m, n, V, D, Pl, hcs, _, hl, _, hm, _, hel⟩
  · simp only [List.cons.injEq, Value.slice.injEq, and_true] at hcs
    obtain ⟨rfl, rfl, rfl⟩ := hcs
    exact ⟨fun _ => [], ⟨0, 0, fun _ => none, fun _ => 0, fun _ => 0, fun _ => 0⟩, fun _ => ⟨rfl, rfl⟩, fun h0 => by omega, fun i hi => by omega, fun i hi => by omega, fun i hi => by omega, fun i hi => by omega⟩
  · simp only [List.cons.injEq, Value.slice.injEq, and_true] at hcs
    obtain ⟨rfl, rfl, rfl⟩ := hcs
    have hlm : len ≤ m := by rw [hm]; split <;> omega
    obtain ⟨f, hf⟩ := choose_lt (n := len) (p := fun i (q : Option Addr × Nat × List ByteArray × Nat × Nat) => V i = .slice q.1 q.2.2.1.length q.2.1 ∧ Strs w q.1 q.2.2.1.length q.2.1 (fun j => q.2.2.1.getD j ByteArray.empty) q.2.2.2.1 q.2.2.2.2) (fun i hi => by
      obtain ⟨ad, cap, l, b, off, h1, h2⟩ := view_strs (hel i (by omega)).2
      exact ⟨(ad, cap, l, b, off), by simpa using h1, h2⟩)
    obtain ⟨b, off, h1, h2⟩ := plain_row (w := w) (a := a) (len := len) (V := V) (fun i hi => (hel i (by omega)).1)
    refine ⟨fun i => (f i).2.2.1, ⟨b, off, fun i => (f i).1, fun i => (f i).2.1, fun i => (f i).2.2.2.1, fun i => (f i).2.2.2.2⟩, fun e => (by cases e), fun h0 => by rw [h1 h0], fun i hi => ?_, fun i hi => (hf i hi).2.nil, fun i hi => (hf i hi).2.at_, fun i hi => (hf i hi).2.c0⟩
    rw [h2 i hi, (hf i hi).1]
end
end Go.Proofs.Qxb6601288a
