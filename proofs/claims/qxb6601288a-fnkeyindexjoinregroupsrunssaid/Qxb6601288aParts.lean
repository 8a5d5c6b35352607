import Derived.Test.Qxb6601288aRows
import Derived.WalkKit
import Derived.WalkSpells
import Derived.WalkLawsBesides
import Derived.ProofKit
import Derived.BigQuiet
import Derived.Deep.QuietTactic
import Derived.BigRegion
import Derived.Deep.RegionHeld3
import Derived.Maps.AppendAt
import Derived.Deep.OwnRows
import Derived.Deep.DeepCutAuto
namespace Go.Proofs.Qxb6601288a
open Go.RowKit

theorem ret_int {k : IntKind} {a b : Int} (h : a = b) : Ending.returned (.int k a) = .returned (.int k b) := by rw [h]
theorem ret_bool {a b : Bool} (h : a = b) : Ending.returned (.bool a) = .returned (.bool b) := by rw [h]
theorem cell_of_block {w : World} {b o : Nat} {c : Array Value} {t : TypeId} {m : Nat × Nat} {v : Value} (h : w.heap[b]? = some (.cells c t m)) (hv : c[o]? = some v) : w.cell? ⟨b, o, none⟩ = some v := by simp [World.cell?, h, hv]
theorem free_of_block {w : World} {b o : Nat} {c : Array Value} {t : TypeId} (h : w.heap[b]? = some (.cells c t (0, 0))) : w.frozen? ⟨b, o, none⟩ = false := by simp [World.frozen?, h]
theorem below_dN (B : Nat) (w : World) (n : Nat) : Below B w (w.drewN n) := ⟨rfl, rfl, rfl, Nat.le_refl _, fun _ _ => rfl⟩

/-- it returns a bool; if true, p -/
def RB (p : Prop) (e : Ending) : Prop := ∃ b, e = .returned (.bool b) ∧ (b = true → p)
theorem RB.no {p : Prop} {e : Ending} (h : e = .returned (.bool false)) : RB p e := ⟨false, h, fun h => by cases h⟩
theorem RB.yes {p : Prop} {e : Ending} (h : e = .returned (.bool true)) (hp : p) : RB p e := ⟨true, h, fun _ => hp⟩

/-- where a slice of slices lies -/
structure RV where
  b : Nat
  off : Nat
  A : Nat → Option Addr
  Cp : Nat → Nat
  bb : Nat → Nat
  oo : Nat → Nat

/-- A slice of n slices of strings: run i has L i strings, S i j. -/
structure Runs (w : World) (ad : Option Addr) (cap n : Nat) (L : Nat → Nat) (S : Nat → Nat → ByteArray) (v : RV) : Prop where
  nil : ad = none → n = 0 ∧ cap = 0
  at_ : 0 < n → ad = some ⟨v.b, v.off, none⟩
  cell : ∀ i, i < n → w.cell? ⟨v.b, v.off + i, none⟩ = some (.slice (v.A i) (L i) (v.Cp i))
  rnil : ∀ i, i < n → v.A i = none → L i = 0 ∧ v.Cp i = 0
  rat : ∀ i, i < n → 0 < L i → v.A i = some ⟨v.bb i, v.oo i, none⟩
  str : ∀ i, i < n → ∀ j, j < L i → w.cell? ⟨v.bb i, v.oo i + j, none⟩ = some (.string (S i j))

theorem Runs.below {w w' : World} {ad : Option Addr} {cap n : Nat} {L : Nat → Nat} {S : Nat → Nat → ByteArray} {v : RV} (h : Runs w ad cap n L S v) (hb : Below w.heap.size w w') : Runs w' ad cap n L S v :=
  ⟨h.nil, h.at_, fun i hi => (hb.cell (p := ⟨v.b, v.off + i, none⟩) (World.block_lt_of_cell? w _ (h.cell i hi))).trans (h.cell i hi), h.rnil, h.rat,
    fun i hi j hj => (hb.cell (p := ⟨v.bb i, v.oo i + j, none⟩) (World.block_lt_of_cell? w _ (h.str i hi j hj))).trans (h.str i hi j hj)⟩

/-- one run -/
structure Strs (w : World) (ad : Option Addr) (len cap : Nat) (f : Nat → ByteArray) (b off : Nat) : Prop where
  nil : ad = none → len = 0 ∧ cap = 0
  at_ : 0 < len → ad = some ⟨b, off, none⟩
  c0 : ∀ i, i < len → w.cell? ⟨b, off + i, none⟩ = some (.string (f i))
theorem Runs.run {w : World} {ad : Option Addr} {cap n : Nat} {L : Nat → Nat} {S : Nat → Nat → ByteArray} {v : RV} (h : Runs w ad cap n L S v) {i : Nat} (hi : i < n) : Strs w (v.A i) (L i) (v.Cp i) (S i) (v.bb i) (v.oo i) :=
  ⟨h.rnil i hi, h.rat i hi, h.str i hi⟩
theorem Strs.below {w w' : World} {ad : Option Addr} {len cap : Nat} {f : Nat → ByteArray} {b off : Nat} (h : Strs w ad len cap f b off) (hb : Below w.heap.size w w') : Strs w' ad len cap f b off :=
  ⟨h.nil, h.at_, fun i hi => (hb.cell (p := ⟨b, off + i, none⟩) (World.block_lt_of_cell? w _ (h.c0 i hi))).trans (h.c0 i hi)⟩

/-- the sum of the first k lengths -/
def tot (L : Nat → Nat) : Nat → Nat
  | 0 => 0
  | k + 1 => tot L k + L k
theorem tot_mono {L : Nat → Nat} {i k : Nat} (h : i ≤ k) : tot L i ≤ tot L k := by
  induction k with
  | zero => obtain rfl : i = 0 := by omega
            exact Nat.le_refl _
  | succ k ih =>
    by_cases e : i = k + 1
    · subst e; exact Nat.le_refl _
    · have := ih (by omega); simp only [tot]; omega
theorem le_tot {L : Nat → Nat} {i k : Nat} (h : i < k) : L i ≤ tot L k := by
  have := tot_mono (L := L) (i := i + 1) (k := k) h
  simp only [tot] at this
  omega

set_option maxRecDepth 100000 in
set_option maxHeartbeats 4000000 in
theorem zz26 (ad : Option Addr) (cap n : Nat) (L : Nat → Nat) (S : Nat → Nat → ByteArray) (v : RV) (r : Int) (w : World) (h : Runs w ad cap n L S v) :
    Calls Try.prog 26 #[.slice ad n cap, .int .i64 r] w fun e w' => RB True e ∧ w' = w := by
  by_cases hl : (1048576 : Int) < (n : Int)
  · go_enter Try.func26, Try.ntmps26
    go_wp2
    go_ret
    exact ⟨RB.no rfl, rfl⟩
  go_enter Try.func26, Try.ntmps26
  go_wp2
  go_loop [5, 6] (fun z i => ∃ (k : Nat) (m : Int), k ≤ n ∧ i = .int .i64 k ∧ z = .int .i64 m ∧ 0 ≤ m ∧ m ≤ 1048576) (fun _ i => n - (intOf i).toNat)
  case atStart => exact ⟨0, _, Nat.zero_le _, rfl, rfl, by omega, by omega⟩
  case round =>
    obtain ⟨k, m, hk, rfl, rfl, m0, m1⟩ := hrel
    by_cases hlt : k < n
    · obtain rfl := h.at_ (by omega)
      have c0 := h.cell k hlt
      have hr := h.run hlt
      clear h
      generalize v.A k = ak at c0 hr
      generalize L k = lk at c0 hr
      generalize v.Cp k = ck at c0 hr
      by_cases t1 : (1048576 : Int) < (lk : Int)
      · go_wp2
        go_ret
        exact ⟨RB.no rfl, rfl⟩
      by_cases t2 : (1048576 : Int) < m + (lk : Int)
      · go_wp2
        go_ret
        exact ⟨RB.no rfl, rfl⟩
      go_wp2
      go_loop [5, 7] (fun z i => ∃ (j : Nat) (m : Int), j ≤ lk ∧ i = .int .i64 j ∧ z = .int .i64 m ∧ 0 ≤ m ∧ m ≤ 1048576) (fun _ i => lk - (intOf i).toNat)
      case atStart => exact ⟨0, _, Nat.zero_le _, rfl, rfl, by omega, by omega⟩
      case round =>
        obtain ⟨j, m, hj, rfl, rfl, m0, m1⟩ := hrel
        by_cases hlt2 : j < lk
        · obtain rfl := hr.at_ (by omega)
          have c1 := hr.c0 j hlt2
          clear hr
          generalize S k j = s at c1
          by_cases q1 : (1048576 : Int) < (s.size : Int)
          · go_wp2
            go_ret
            exact ⟨RB.no rfl, rfl⟩
          by_cases q2 : (1048576 : Int) < m + (s.size : Int)
          · go_wp2
            go_ret
            exact ⟨RB.no rfl, rfl⟩
          go_wp2
          go_round
          case rel => exact ⟨j + 1, _, by omega, by go_num, rfl, by omega, by omega⟩
          case measure => simp [intOf]; omega
        · go_wp2
          go_round
          case rel => exact ⟨k + 1, _, by omega, by go_num, rfl, by omega, by omega⟩
          case measure => simp [intOf]; omega
    · go_wp2
      go_ret
      exact ⟨RB.yes rfl trivial, rfl⟩

set_option maxRecDepth 100000 in
set_option maxHeartbeats 4000000 in
theorem zz33 (ad : Option Addr) (cap n : Nat) (L : Nat → Nat) (S : Nat → Nat → ByteArray) (v : RV) (r : Int) (w : World) (h : Runs w ad cap n L S v) :
    Calls Try.prog 33 #[.slice ad n cap, .int .i64 r] w fun e w' => RB True e ∧ w' = w := by
  by_cases hl : (1048576 : Int) < (n : Int)
  · go_enter Try.func33, Try.ntmps33
    go_wp2
    go_ret
    exact ⟨RB.no rfl, rfl⟩
  go_enter Try.func33, Try.ntmps33
  go_wp2
  go_loop [5, 6] (fun z i => ∃ (k : Nat) (m : Int), k ≤ n ∧ i = .int .i64 k ∧ z = .int .i64 m ∧ 0 ≤ m ∧ m ≤ 1048576) (fun _ i => n - (intOf i).toNat)
  case atStart => exact ⟨0, _, Nat.zero_le _, rfl, rfl, by omega, by omega⟩
  case round =>
    obtain ⟨k, m, hk, rfl, rfl, m0, m1⟩ := hrel
    by_cases hlt : k < n
    · obtain rfl := h.at_ (by omega)
      have c0 := h.cell k hlt
      have hr := h.run hlt
      clear h
      generalize v.A k = ak at c0 hr
      generalize L k = lk at c0 hr
      generalize v.Cp k = ck at c0 hr
      by_cases t1 : (1048576 : Int) < (lk : Int)
      · go_wp2
        go_ret
        exact ⟨RB.no rfl, rfl⟩
      by_cases t2 : (1048576 : Int) < m + (lk : Int)
      · go_wp2
        go_ret
        exact ⟨RB.no rfl, rfl⟩
      go_wp2
      go_loop [5, 7] (fun z i => ∃ (j : Nat) (m : Int), j ≤ lk ∧ i = .int .i64 j ∧ z = .int .i64 m ∧ 0 ≤ m ∧ m ≤ 1048576) (fun _ i => lk - (intOf i).toNat)
      case atStart => exact ⟨0, _, Nat.zero_le _, rfl, rfl, by omega, by omega⟩
      case round =>
        obtain ⟨j, m, hj, rfl, rfl, m0, m1⟩ := hrel
        by_cases hlt2 : j < lk
        · obtain rfl := hr.at_ (by omega)
          have c1 := hr.c0 j hlt2
          clear hr
          generalize S k j = s at c1
          by_cases q1 : (1048576 : Int) < (s.size : Int)
          · go_wp2
            go_ret
            exact ⟨RB.no rfl, rfl⟩
          by_cases q2 : (1048576 : Int) < m + (s.size : Int)
          · go_wp2
            go_ret
            exact ⟨RB.no rfl, rfl⟩
          go_wp2
          go_round
          case rel => exact ⟨j + 1, _, by omega, by go_num, rfl, by omega, by omega⟩
          case measure => simp [intOf]; omega
        · go_wp2
          go_round
          case rel => exact ⟨k + 1, _, by omega, by go_num, rfl, by omega, by omega⟩
          case measure => simp [intOf]; omega
    · go_wp2
      go_ret
      exact ⟨RB.yes rfl trivial, rfl⟩

/-- an int and a bool; if the bool is true, p of the int -/
def RFit (p : Int → Prop) (e : Ending) : Prop := ∃ r ok, e = .returned (.tuple #[.int .i64 r, .bool ok]) ∧ (ok = true → p r)
theorem RFit.no {p : Int → Prop} {e : Ending} {r : Int} (h : e = .returned (.tuple #[.int .i64 r, .bool false])) : RFit p e := ⟨r, false, h, fun h => by cases h⟩
theorem RFit.yes {p : Int → Prop} {e : Ending} {r : Int} (h : e = .returned (.tuple #[.int .i64 r, .bool true])) (hp : p r) : RFit p e := ⟨r, true, h, fun _ => hp⟩

set_option maxHeartbeats 2000000 in
theorem fit_any (ad : Option Addr) (len cap : Nat) (f : Nat → ByteArray) (b off : Nat) (bud : Int) (w : World) (h : Strs w ad len cap f b off) (hb0 : 0 ≤ bud) (hb1 : bud ≤ 1048576) :
    Calls Try.prog 23 #[.slice ad len cap, .int .i64 bud] w fun e w' => RFit (fun r => 0 ≤ r ∧ r + 16 * (len : Int) ≤ bud) e ∧ w' = w := by
  go_enter Try.func23, Try.ntmps23
  go_wp2
  go_loop [1, 6] (fun s1 i => ∃ (k : Nat) (r : Int), k ≤ len ∧ i = .int .i64 k ∧ s1 = .int .i64 r ∧ 0 ≤ r ∧ r + 16 * (k : Int) ≤ bud) (fun _ i => len - (intOf i).toNat)
  case atStart => exact ⟨0, bud, Nat.zero_le _, rfl, rfl, hb0, by omega⟩
  case round =>
    obtain ⟨k, r, hk, rfl, rfl, r0, r1⟩ := hrel
    by_cases hlt : k < len
    · obtain rfl := h.at_ (by omega)
      have c0 := h.c0 k hlt
      clear h
      generalize f k = s at c0
      by_cases t1 : r < 16
      · go_wp2
        go_ret2
        exact ⟨RFit.no rfl, rfl⟩
      · by_cases t2 : r - 16 < (s.size : Int)
        · go_wp2
          go_ret2
          exact ⟨RFit.no rfl, rfl⟩
        · go_wp2
          go_round
          case rel => exact ⟨k + 1, _, by omega, by go_num, rfl, by omega, by omega⟩
          case measure => simp [intOf]; omega
    · go_wp2
      go_ret2
      exact ⟨RFit.yes rfl ⟨r0, by omega⟩, rfl⟩
end Go.Proofs.Qxb6601288a
