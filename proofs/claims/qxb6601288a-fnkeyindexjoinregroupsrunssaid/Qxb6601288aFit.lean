import Derived.Test.Qxb6601288aParts
namespace Go.Proofs.Qxb6601288a
open Go.RowKit

set_option maxHeartbeats 2000000 in
theorem fits_any (ad : Option Addr) (cap n : Nat) (L : Nat → Nat) (S : Nat → Nat → ByteArray) (v : RV) (w : World) (h : Runs w ad cap n L S v) :
    Calls Try.prog 27 #[.slice ad n cap] w fun e w' => RB (n ≤ 43690 ∧ tot L n ≤ 65536) e ∧ w' = w := by
  by_cases hl : (43690 : Int) < (n : Int)
  · go_enter Try.func27, Try.ntmps27
    go_wp2
    go_ret
    exact ⟨RB.no rfl, rfl⟩
  go_enter Try.func27, Try.ntmps27
  have e1 : IntKind.i64.wrap (24 * (n : Int)) = 24 * (n : Int) := by rw [IntKind.wrap_i64]; omega
  have e2 : IntKind.i64.wrap (1048576 - 24 * (n : Int)) = 1048576 - 24 * (n : Int) := by rw [IntKind.wrap_i64]; omega
  go_wp2
  go_loop [3, 4, 5, 6] (fun z i _ _ => ∃ (k : Nat) (m : Int), k ≤ n ∧ i = .int .i64 k ∧ z = .int .i64 m ∧ 0 ≤ m ∧ m + 16 * (tot L k : Int) ≤ 1048576) (fun _ i _ _ => n - (intOf i).toNat)
  case atStart => exact ⟨0, _, Nat.zero_le _, rfl, rfl, by omega, by simp only [tot]; omega⟩
  case round =>
    obtain ⟨k, m, hk, rfl, rfl, m0, m1⟩ := hrel
    by_cases hlt : k < n
    · obtain rfl := h.at_ (by omega)
      have c0 := h.cell k hlt
      have hr := h.run hlt
      have ct := fit_any (v.A k) (L k) (v.Cp k) (S k) (v.bb k) (v.oo k) m w hr m0 (by omega)
      have et : tot L (k + 1) = tot L k + L k := rfl
      clear hr h
      generalize v.A k = ak at c0 ct
      generalize L k = lk at c0 ct et
      generalize v.Cp k = ck at c0 ct
      go_wp2_with fail
      refine ct.mono ?_
      rintro _ _ ⟨⟨r, ok, rfl, hok⟩, rfl⟩
      cases ok with
      | false =>
        go_wp2
        go_ret
        exact ⟨RB.no rfl, rfl⟩
      | true =>
        obtain ⟨r0, r1⟩ := hok rfl
        go_wp2
        go_round
        case rel => exact ⟨k + 1, _, by omega, by go_num, rfl, r0, by omega⟩
        case measure => simp [intOf]; omega
    · go_wp2
      go_ret
      obtain rfl : k = n := by omega
      exact ⟨RB.yes rfl ⟨by omega, by omega⟩, rfl⟩
end Go.Proofs.Qxb6601288a
