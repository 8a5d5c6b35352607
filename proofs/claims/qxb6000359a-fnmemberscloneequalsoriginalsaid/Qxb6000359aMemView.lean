import Derived.Test.Qxb6000359aPend
import Derived.Deep.SlicePairs
import Derived.Deep.Fields
import Derived.OpenShut
namespace Go.Proofs.Qxb6000359a
open Go.RowKit Go.Deep Go.ChangeShapes Go.WideShapes

section
variable {H : Type} {enc : TypeId × Value → H} {w : World} {base : Nat} {spare : Nat → Bool} {held : Bool}

theorem view_trip {fuel : Nat} {ad : Option Addr} {len cap : Nat} {x : DataW H × List MemPlace} (h : DataW.trod enc Try.prog w base spare held fuel 46 [.slice ad len cap] = some x) :
    ∃ (A : Nat → Int) (B : Nat → ByteArray) (C : Nat → Int) (b off : Nat), Trip w ad len cap A B C b off := by
  rcases open_slice Try.underlying46 h with ⟨hcs, _⟩ | ⟨a, l, c, m, n, D, Pl, hcs, _, hl, _, hm, _, hel⟩
  · simp only [List.cons.injEq, Value.slice.injEq, and_true] at hcs
    obtain ⟨rfl, rfl, rfl⟩ := hcs
    exact ⟨fun _ => 0, fun _ => ByteArray.empty, fun _ => 0, 0, 0, ⟨fun _ => ⟨rfl, rfl⟩, fun h0 => absurd h0 (by omega), fun i hi => absurd hi (by omega), fun i hi => absurd hi (by omega), fun i hi => absurd hi (by omega)⟩⟩
  · simp only [List.cons.injEq, Value.slice.injEq, and_true] at hcs
    obtain ⟨rfl, rfl, rfl⟩ := hcs
    have hlm : len ≤ m := by rw [hm]; split <;> omega
    have ce : Try.prog.cellsOf 74 = 3 := by kernel_rfl
    have c49 : Try.prog.cellsOf 49 = 1 := by kernel_rfl
    have c9 : Try.prog.cellsOf 9 = 1 := by kernel_rfl
    have c27 : Try.prog.cellsOf 27 = 1 := by kernel_rfl
    have each : ∀ i, i < len → ∃ q : Int × ByteArray × Int, w.cell? (a.add (i * 3)) = some (.int .u32 q.1) ∧ w.cell? (a.add (i * 3 + 1)) = some (.string q.2.1) ∧ w.cell? (a.add (i * 3 + 2)) = some (.int .u64 q.2.2) := by
      intro i hi
      obtain ⟨cs', h1, h2⟩ := hel i (by omega)
      rw [ce] at h1
      obtain ⟨_, hlen, hcell⟩ := World.cells?_some h1
      obtain ⟨xs, k, hk, hxy, _, hxl, hf⟩ := DataW.trod_struct Try.underlying74 h2
      match xs, hxl, cs', hlen with
      | [y0, y1, y2], _, [v0, v1, v2], _ =>
        have g0 := hf 0 _ rfl
        have g1 := hf 1 _ rfl
        have g2 := hf 2 _ rfl
        simp [c49, c9, c27] at g0 g1 g2
        obtain ⟨z0, e0, _⟩ := DataW.trod_int Try.underlying49 g0
        obtain ⟨z1, e1, _⟩ := DataW.trod_string Try.underlying9 g1
        obtain ⟨z2, e2, _⟩ := DataW.trod_int Try.underlying27 g2
        have d0 := hcell 0 (by omega)
        have d1 := hcell 1 (by omega)
        have d2 := hcell 2 (by omega)
        rw [add_add] at d0 d1 d2
        simp at e0 e1 e2
        subst e0 e1 e2
        exact ⟨(z0, z1, z2), by simpa using d0, by simpa using d1, by simpa using d2⟩
    obtain ⟨q, hq⟩ := choose_lt each
    obtain ⟨b, off, spot⟩ := a
    by_cases hp : 0 < len
    · have hspot : spot = none := by
        have := World.cell?_spot (hq 0 hp).1
        simpa [Addr.add] using this
      subst hspot
      refine ⟨fun i => (q i).1, fun i => (q i).2.1, fun i => (q i).2.2, b, off, ⟨fun e => (by cases e), fun _ => rfl, fun i hi => ?_, fun i hi => ?_, fun i hi => ?_⟩⟩
      · have := (hq i hi).1; rwa [add_plain] at this
      · have := (hq i hi).2.1; rwa [add_plain, ← Nat.add_assoc] at this
      · have := (hq i hi).2.2; rwa [add_plain, ← Nat.add_assoc] at this
    · exact ⟨fun _ => 0, fun _ => ByteArray.empty, fun _ => 0, b, off, ⟨fun e => (by cases e), fun h0 => absurd h0 hp, fun i hi => absurd hi (by omega), fun i hi => absurd hi (by omega), fun i hi => absurd hi (by omega)⟩⟩

theorem view_ones {fuel : Nat} {ad : Option Addr} {len cap : Nat} {x : DataW H × List MemPlace} (h : DataW.trod enc Try.prog w base spare held fuel 47 [.slice ad len cap] = some x) :
    ∃ (A : Nat → Int) (b off : Nat), Ones w ad len cap A b off := by
  rcases open_ints Try.underlying47 Try.underlying49 (by kernel_rfl) h with ⟨hcs, _⟩ | ⟨a, l, c, zs, hcs, _, hl, _, hz, _, hc, _⟩
  · simp only [List.cons.injEq, Value.slice.injEq, and_true] at hcs
    obtain ⟨rfl, rfl, rfl⟩ := hcs
    exact ⟨fun _ => 0, 0, 0, ⟨fun _ => ⟨rfl, rfl⟩, fun h0 => absurd h0 (by omega), fun i hi => absurd hi (by omega)⟩⟩
  · simp only [List.cons.injEq, Value.slice.injEq, and_true] at hcs
    obtain ⟨rfl, rfl, rfl⟩ := hcs
    have hlm : len ≤ zs.length := by rw [hz]; split <;> omega
    by_cases hp : 0 < len
    · obtain ⟨b, off, rfl, hc'⟩ := ints_at hc (by omega)
      exact ⟨fun i => zs.getD i 0, b, off, ⟨fun e => (by cases e), fun _ => rfl, fun i hi => hc' i (by omega)⟩⟩
    · exact ⟨fun _ => 0, 0, 0, ⟨fun e => (by cases e), fun h0 => absurd h0 hp, fun i hi => absurd hi (by omega)⟩⟩

theorem view_pend {fuel : Nat} {p : Option Addr} {x : DataW H × List MemPlace} (h : DataW.trod enc Try.prog w base spare held fuel 48 [.pointer p] = some x) :
    p = none ∨ ∃ (b off : Nat) (d : PD) (ad : Option Addr) (cap pb poff : Nat), p = some ⟨b, off, none⟩ ∧ PendAt w b off d ad cap pb poff := by
  rcases open_ptr_fields Try.underlying48 Try.underlying76 (hone_of (by kernel_rfl)) (by kernel_rfl) (by decide) h with ⟨hcs, _⟩ | ⟨b, o, n, V, Y, hcs, _, _, hf⟩
  · left; simpa using hcs
  · right
    obtain rfl : p = some ⟨b, o, none⟩ := by simpa using hcs
    have f0 := hf 0 _ rfl
    have f1 := hf 1 _ rfl
    have f2 := hf 2 _ rfl
    have f3 := hf 3 _ rfl
    have f4 := hf 4 _ rfl
    have f5 := hf 5 _ rfl
    have f6 := hf 6 _ rfl
    have f7 := hf 7 _ rfl
    have f8 := hf 8 _ rfl
    have f9 := hf 9 _ rfl
    have f10 := hf 10 _ rfl
    obtain ⟨z0, e0, _⟩ := DataW.trod_int Try.underlying49 f0.2
    obtain ⟨z1, e1, _⟩ := DataW.trod_int Try.underlying27 f1.2
    obtain ⟨z2, e2, _⟩ := DataW.trod_int Try.underlying27 f2.2
    obtain ⟨z3, e3, _⟩ := DataW.trod_int Try.underlying49 f3.2
    obtain ⟨z4, e4, _⟩ := DataW.trod_string Try.underlying9 f4.2
    obtain ⟨z5, e5, _⟩ := DataW.trod_bool Try.underlying4 f5.2
    obtain ⟨z6, e6, _⟩ := DataW.trod_string Try.underlying9 f6.2
    obtain ⟨z7, e7, _⟩ := DataW.trod_int Try.underlying27 f7.2
    obtain ⟨z9, e9, _⟩ := DataW.trod_bool Try.underlying4 f9.2
    obtain ⟨z10, e10, _⟩ := DataW.trod_bool Try.underlying4 f10.2
    obtain ⟨ad, len, cap, e8⟩ : ∃ ad len cap, V 8 = .slice ad len cap := by
      rcases open_slice Try.underlying46 f8.2 with ⟨hcs, _⟩ | ⟨a, l, c, m, n, D, Pl, hcs, _⟩
      · exact ⟨_, _, _, by simpa using hcs⟩
      · exact ⟨_, _, _, by simpa using hcs⟩
    have f8' := f8.2
    rw [e8] at f8'
    obtain ⟨A, B, C, pb, poff, hT⟩ := view_trip f8'
    simp only [List.cons.injEq, and_true] at e0 e1 e2 e3 e4 e5 e6 e7 e9 e10
    refine ⟨b, o, ⟨z0, z1, z2, z3, z4, z5, z6, z7, z9, z10, len, A, B, C⟩, ad, cap, pb, poff, rfl, ⟨fun j v hj => ?_, hT⟩⟩
    match j, hj with
    | 0, hj => cases hj; exact f0.1.trans (congrArg some e0)
    | 1, hj => cases hj; exact f1.1.trans (congrArg some e1)
    | 2, hj => cases hj; exact f2.1.trans (congrArg some e2)
    | 3, hj => cases hj; exact f3.1.trans (congrArg some e3)
    | 4, hj => cases hj; exact f4.1.trans (congrArg some e4)
    | 5, hj => cases hj; exact f5.1.trans (congrArg some e5)
    | 6, hj => cases hj; exact f6.1.trans (congrArg some e6)
    | 7, hj => cases hj; exact f7.1.trans (congrArg some e7)
    | 8, hj => cases hj; exact f8.1.trans (congrArg some e8)
    | 9, hj => cases hj; exact f9.1.trans (congrArg some e9)
    | 10, hj => cases hj; exact f10.1.trans (congrArg some e10)
    | j + 11, hj => simp [PD.cells] at hj
end
end Go.Proofs.Qxb6000359a
