import Derived.Test.Qxb6601288aZz
namespace Go.Proofs.Qxb6601288a
open Go.RowKit Go.Deep

/-- a bool that is true just where p holds -/
def RIff (p : Prop) (e : Ending) : Prop := ∃ b, e = .returned (.bool b) ∧ (b = true ↔ p)
theorem RIff.no {p : Prop} {e : Ending} (h : e = .returned (.bool false)) (hp : ¬ p) : RIff p e := ⟨false, h, by simp [hp]⟩
theorem RIff.yes {p : Prop} {e : Ending} (h : e = .returned (.bool true)) (hp : p) : RIff p e := ⟨true, h, by simp [hp]⟩

/-- each name below the next -/
def Inc (l : List ByteArray) : Prop := ∀ k, 1 ≤ k → k < l.length → Op.bytesLess (l.getD (k - 1) ByteArray.empty).toList (l.getD k ByteArray.empty).toList = true

set_option maxHeartbeats 1000000 in
theorem inc_any (ad : Option Addr) (cap : Nat) (l : List ByteArray) (b off : Nat) (w : World) (hl : l.length ≤ 1000000) (h : Strs w ad l.length cap (fun j => l.getD j ByteArray.empty) b off) :
    Calls Try.prog 35 #[.slice ad l.length cap] w fun e w' => RIff (Inc l) e ∧ Below w.heap.size w w' := by
  have hI : Hid (Inc l ↔ ∀ k, 1 ≤ k → k < l.length → Op.bytesLess (l.getD (k - 1) ByteArray.empty).toList (l.getD k ByteArray.empty).toList = true) := Iff.rfl
  generalize hlen : l.length = len at *
  clear hlen
  go_enter Try.func35, Try.ntmps35
  go_wp2
  go_loopw [3] (fun i wr => ∃ k : Nat, 1 ≤ k ∧ i = .int .i64 k ∧ Below w.heap.size w wr ∧ Hid (∀ j, 1 ≤ j → j < k → j < len → Op.bytesLess (l.getD (j - 1) ByteArray.empty).toList (l.getD j ByteArray.empty).toList = true)) (fun i _ => len - (intOf i).toNat)
  case atStart => exact ⟨1, Nat.le_refl _, rfl, Below.refl _ _, fun j h1 h2 => by omega⟩
  case round =>
    obtain ⟨k, hk, rfl, hbel, hyes⟩ := hrel
    by_cases hlt : k < len
    · have hs := h.below hbel
      obtain rfl := h.at_ (by omega)
      have c0 := hs.c0 k hlt
      have c1 := hs.c0 (k - 1) (by omega)
      have e1 : IntKind.i64.wrap ((k : Int) - 1) = ((k - 1 : Nat) : Int) := by rw [IntKind.wrap_i64]; omega
      have q1 : ((k - 1 : Nat) : Int) < (len : Int) := by omega
      have q2 : (k : Int) < (len : Int) := by omega
      clear hs h
      have hno : Hid (Op.bytesLess (l.getD (k - 1) ByteArray.empty).toList (l.getD k ByteArray.empty).toList = false → ¬ Inc l) := fun e hi => by
        have := (show Inc l ↔ _ from hI).1 hi k hk hlt
        rw [e] at this
        cases this
      have hgo : Hid (Op.bytesLess (l.getD (k - 1) ByteArray.empty).toList (l.getD k ByteArray.empty).toList = true → ∀ j, 1 ≤ j → j < k + 1 → j < len → Op.bytesLess (l.getD (j - 1) ByteArray.empty).toList (l.getD j ByteArray.empty).toList = true) := fun e j h1 h2 h3 => by
        by_cases e2 : j = k
        · subst e2; exact e
        · exact (show ∀ j, _ from hyes) j h1 (by omega) h3
      clear hyes
      generalize l.getD k ByteArray.empty = s1 at c0 hno hgo
      generalize l.getD (k - 1) ByteArray.empty = s0 at c1 hno hgo
      cases hb : Op.bytesLess s0.toList s1.toList with
      | true =>
        go_wp2_with fail
        go_quiet (fail)
        go_wp2_with fail
        go_roundw
        case rel => exact ⟨k + 1, by omega, by go_num, hbel.trans (below_dN _ _ _), (show _ → _ from hgo) hb⟩
        case measure => simp [intOf]; omega
      | false =>
        go_wp2_with fail
        go_quiet (fail)
        go_wp2_with fail
        go_ret
        exact ⟨RIff.no rfl ((show _ → _ from hno) hb), hbel.trans (below_dN _ _ _)⟩
    · go_wp2
      go_ret
      exact ⟨RIff.yes rfl ((show Inc l ↔ _ from hI).2 fun j h1 h2 => (show ∀ j, _ from hyes) j h1 (by omega) h2), hbel⟩

/-- what the premise says -/
def Prem (n r : Nat) (rows : Nat → List ByteArray) : Prop := (∀ i, i < n → (rows i).length ≤ 512 ∧ (i ≠ r → (rows i).length ≠ 0)) ∧ (rows r).length < 256 ∧ Inc (flat rows n)

set_option maxRecDepth 100000 in
set_option maxHeartbeats 2000000 in
theorem prem_any (ad : Option Addr) (cap n r : Nat) (rows : Nat → List ByteArray) (v : RV) (w : World) (hr : r < n) (hn : n ≤ 1000000) (hl : tot (LL rows) n ≤ 1000000) (h : Runs w ad cap n (LL rows) (SS rows) v) :
    Calls Try.prog 34 #[.slice ad n cap, .int .i64 (r : Int)] w fun e w' => RB (Prem n r rows) e ∧ Below w.heap.size w w' := by
  have ct1 := flat_any ad cap n rows v w hn hl h
  have hflen : (flat rows n).length ≤ 1000000 := by rw [length_flat]; exact hl
  have cr := h.cell r hr
  obtain rfl := h.at_ (by omega)
  go_enter Try.func34, Try.ntmps34
  go_wp2_with fail
  go_loop [5] (fun i => ∃ k : Nat, k ≤ n ∧ i = .int .i64 k ∧ Hid (∀ i, i < k → (rows i).length ≤ 512 ∧ (i ≠ r → (rows i).length ≠ 0))) (fun i => n - (intOf i).toNat)
  case atStart => exact ⟨0, Nat.zero_le _, rfl, fun i hi => by omega⟩
  case round =>
    obtain ⟨k, hk, rfl, hyes⟩ := hrel
    by_cases hlt : k < n
    · have c0 := h.cell k hlt
      have hgo : Hid ((rows k).length ≤ 512 → (k ≠ r → (rows k).length ≠ 0) → ∀ i, i < k + 1 → (rows i).length ≤ 512 ∧ (i ≠ r → (rows i).length ≠ 0)) := fun h1 h2 i hi => by
        by_cases e2 : i = k
        · subst e2; exact ⟨h1, h2⟩
        · exact (show ∀ j, _ from hyes) i (by omega)
      clear h ct1 hyes cr
      simp only [LL] at c0
      generalize (rows k).length = lk at c0 hgo
      generalize v.A k = ak at c0
      generalize v.Cp k = ck at c0
      by_cases t1 : (512 : Int) < (lk : Int)
      · go_wp2_with fail
        go_ret
        exact ⟨RB.no rfl, Below.refl _ _⟩
      · by_cases t2 : k = r
        · subst t2
          go_wp2
          go_round
          case rel => exact ⟨k + 1, by omega, by go_num, (show _ → _ from hgo) (by omega) (fun e => absurd rfl e)⟩
          case measure => simp [intOf]; omega
        · have d2 : ¬ ((k : Int) = (r : Int)) := by omega
          by_cases t3 : lk = 0
          · subst t3
            go_wp2_with fail
            go_ret
            exact ⟨RB.no rfl, Below.refl _ _⟩
          · have d3 : ((lk : Int) == 0) = false := beq_eq_false_iff_ne.2 (by omega)
            have d4 : decide ((lk : Int) = 0) = false := decide_eq_false (by omega)
            go_wp2
            go_round
            case rel => exact ⟨k + 1, by omega, by go_num, (show _ → _ from hgo) (by omega) (fun _ => t3)⟩
            case measure => simp [intOf]; omega
    · obtain rfl : k = n := by omega
      have hP : Hid ((rows r).length < 256 → Inc (flat rows k) → Prem k r rows) := fun h1 h2 => ⟨hyes, h1, h2⟩
      clear hyes h
      simp only [LL] at cr
      generalize (rows r).length = lr at cr hP
      generalize v.A r = ar at cr
      generalize v.Cp r = cr' at cr
      by_cases t1 : (256 : Int) ≤ (lr : Int)
      · go_wp2_with fail
        go_ret
        exact ⟨RB.no rfl, Below.refl _ _⟩
      · go_wp2_with fail
        refine ct1.mono ?_
        rintro _ w1 ⟨a, c, rfl, hO, hb⟩
        obtain ⟨b1, hs, -⟩ := hO.strs
        have ct2 := inc_any a c (flat rows k) b1 0 w1 hflen hs
        go_wp2_with fail
        refine ct2.mono ?_
        rintro _ w2 ⟨⟨x, rfl, hx⟩, hb2⟩
        go_wp2_with fail
        go_ret
        exact ⟨⟨x, rfl, fun e => (show _ → _ from hP) (by omega) (hx.1 e)⟩, hb.trans (hb2.mono hb.size)⟩
end Go.Proofs.Qxb6601288a
