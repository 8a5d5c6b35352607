import Derived.Test.Qxb6000359aWaitMath
import Derived.Test.Qxb6000359aPairs
import Derived.Deep.DeepCutAuto
namespace Go.Proofs.Qxb6000359a
open Go.RowKit

theorem wrap_dbl (x : Int) : wrap64 (wrap64 x * 2) = wrap64 (x * 2) := by unfold wrap64; omega
theorem wrap_id {x : Int} (h0 : -9223372036854775808 ≤ x) (h1 : x ≤ 9223372036854775807) : wrap64 x = x := by unfold wrap64; omega

set_option maxHeartbeats 1000000 in
theorem waitGap_any (every : Int) (bo : Bool) (t : Int) (w : World) (h0 : 1 ≤ t) (h1 : t ≤ 1000000) (e0 : -9223372036854775808 ≤ every) (e1 : every ≤ 9223372036854775807) :
    Calls Try.prog 20 #[.int .i64 every, .bool bo, .int .i64 t] w fun e w' => e = .returned (.int .i64 (gapv every bo t)) ∧ w' = w := by
  have E : Hid (wrap64 every = every) := wrap_id e0 e1
  cases bo
  · clear e0 e1
    go_enter Try.func20, Try.ntmps20
    go_wp2
    go_ret
    exact ⟨by simp [gapv], rfl⟩
  · clear e0 e1
    by_cases h5 : 5 < t - 1
    · have hv : Hid (gapv every true t = wrap64 (every * 2 ^ 5)) := by
        unfold gapv boff; rw [Nat.min_eq_right (by omega)]; rfl
      go_enter Try.func20, Try.ntmps20
      go_wp2
      go_loop [8, 9] (fun g c => ∃ k : Nat, k ≤ 5 ∧ c = .int .i64 k ∧ g = .int .i64 (wrap64 (every * 2 ^ k))) (fun _ c => 5 - (intOf c).toNat)
      case atStart => exact ⟨0, by omega, rfl, by simp only [Int.pow_zero, Int.mul_one]; rw [E.out]⟩
      case round =>
        obtain ⟨k, hk, rfl, rfl⟩ := hrel
        by_cases hlt : k < 5
        · have hm : Hid (wrap64 (wrap64 (every * 2 ^ k) * 2) = wrap64 (every * 2 ^ (k + 1))) := by
            show _ = _
            rw [wrap_dbl, Int.pow_succ, Int.mul_assoc]
          go_wp2
          go_round
          case rel => exact ⟨k + 1, by omega, by go_num, by rw [← hm.out]⟩
          case measure => simp [intOf]; omega
        · go_wp2
          go_ret
          obtain rfl : k = 5 := by omega
          exact ⟨ret_int hv.out.symm, rfl⟩
    · obtain ⟨d, hd⟩ : ∃ d : Nat, Hid (t = d + 1) := ⟨(t - 1).toNat, by show t = _; omega⟩
      have hd5 : d ≤ 5 := by have := hd.out; omega
      have hv : Hid (gapv every true t = wrap64 (every * 2 ^ d)) := by
        have := hd.out
        show gapv every true t = _
        unfold gapv boff; rw [Nat.min_eq_left (by omega)]; rw [show t.toNat - 1 = d by omega]; rfl
      have hsub : t - 1 = (d : Int) := by have := hd.out; omega
      go_enter Try.func20, Try.ntmps20
      go_wp2
      go_loop [8, 9] (fun g c => ∃ k : Nat, k ≤ d ∧ c = .int .i64 k ∧ g = .int .i64 (wrap64 (every * 2 ^ k))) (fun _ c => d - (intOf c).toNat)
      case atStart => exact ⟨0, by omega, rfl, by simp only [Int.pow_zero, Int.mul_one]; rw [E.out]⟩
      case round =>
        obtain ⟨k, hk, rfl, rfl⟩ := hrel
        by_cases hlt : k < d
        · have hm : Hid (wrap64 (wrap64 (every * 2 ^ k) * 2) = wrap64 (every * 2 ^ (k + 1))) := by
            show _ = _
            rw [wrap_dbl, Int.pow_succ, Int.mul_assoc]
          go_wp2
          go_round
          case rel => exact ⟨k + 1, by omega, by go_num, by rw [← hm.out]⟩
          case measure => simp [intOf]; omega
        · go_wp2
          go_ret
          obtain rfl : k = d := by omega
          exact ⟨ret_int hv.out.symm, rfl⟩
end Go.Proofs.Qxb6000359a
