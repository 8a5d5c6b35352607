/-
  THE PROOF OF 'Rows.FnSeqSetAddMatchesSetModelSaid': the frame is the guide's template at this function's number and types; the walk stands in Qxb6000359aModelWalk.
-/
import Derived.Test.Qxb6000359aModelWalk
import Derived.WalkKit
import Derived.ProofKit
import Derived.OpenShut
import Derived.ChangeOld
namespace Go.Proofs.Qxb6000359a.fnSeqSetAddMatchesSetModel
open Go.ChangeShapes Go.WideShapes Go.ChangeAt Go.RowKit

theorem own : ownKnob Try.prog.godebug = none := by kernel_rfl
theorem laidOut : laidOutB Try.prog = true := by kernel_rfl

theorem walk (ad1 ad2 : Option Addr) (len1 cap1 len2 cap2 : Nat) (I S J R : Nat → Int) (w : World)
    (h1 : IsPairs w ad1 len1 cap1 (fun i => .int .u64 (I i)) (fun i => .int .u64 (S i))) (h2 : IsPairs w ad2 len2 cap2 (fun i => .int .u64 (J i)) (fun i => .int .u64 (R i)))
    (b1 : ∀ i, i < len1 → (0 ≤ I i ∧ I i ≤ 18446744073709551615) ∧ 0 ≤ S i ∧ S i ≤ 18446744073709551615) (b2 : ∀ i, i < len2 → (0 ≤ J i ∧ J i ≤ 18446744073709551615) ∧ 0 ≤ R i ∧ R i ≤ 18446744073709551615) :
    Calls Try.prog 3 #[.slice ad1 len1 cap1, .slice ad2 len2 cap2] w fun e w' => e = .returned (.bool true) ∧ Below w.heap.size w w' := by
  by_cases t0 : (1048576 : Int) < (len1 : Int)
  · go_enter Try.func3, Try.ntmps3
    go_wp2
    go_ret
    exact ⟨rfl, Below.refl _ _⟩
  by_cases t1 : (1048576 : Int) < (len2 : Int)
  · go_enter Try.func3, Try.ntmps3
    go_wp2
    go_ret
    exact ⟨rfl, Below.refl _ _⟩
  by_cases t2 : (1048576 : Int) < (len1 : Int) + (len2 : Int)
  · go_enter Try.func3, Try.ntmps3
    go_wp2
    go_ret
    exact ⟨rfl, Below.refl _ _⟩
  by_cases t3 : (4096 : Int) < (len1 : Int)
  · go_enter Try.func3, Try.ntmps3
    go_wp2
    go_ret
    exact ⟨rfl, Below.refl _ _⟩
  by_cases t4 : (4096 : Int) < (len2 : Int)
  · go_enter Try.func3, Try.ntmps3
    go_wp2
    go_ret
    exact ⟨rfl, Below.refl _ _⟩
  exact model_walk ad1 ad2 len1 cap1 len2 cap2 I S J R w (by omega) (by omega) h1 h2 b1 b2

set_option maxRecDepth 100000 in
theorem lifted (os : Os) (started : os.Started) (H : Type) (enc : TypeId × Value → H) :
    ReturnsInHanded {} Try.checked os 3 .any (Rows.fnSeqSetAddMatchesSetModelSpec.pre6 enc Try.prog Try.f3 Rows.fnSeqSetAddMatchesSetModelRow.domain false) (Rows.fnSeqSetAddMatchesSetModelSpec.post enc Try.prog Try.f3 false true false false) := by
  refine returnsInHanded_of_change (C := Try.checked) own started (by kernel_rfl) Try.func3
    (ChangeSpec.witness6 (enc := enc) (C := Try.checked) false ⟨#[], #[.slice none 0 0, .slice none 0 0], []⟩ 8 (by kernel_rfl) (by kernel_rfl) (by kernel_rfl) (by kernel_rfl)) ?_
  intro W base args ds gs before hval0 hW hcnd _
  have hval : ∀ (j : Nat) t v, Try.f3.params[j]? = some t → args[j]? = some v → Value.okWide Try.prog W .any base t v := hval0
  have hW' := hW
  obtain ⟨p, q, hA0, hV, rfl, hfz, hnd⟩ := hW
  have hA : DataW.TrodAll enc Try.prog W 0 (fun _ => true) true Try.f3.params.toList args.toList ds p := hA0
  rw [Try.params3] at hA hval
  obtain ⟨v0, vs0, d0, ds0, p0, q0, hargs, rfl, rfl, h0, r0⟩ := trodAll_cons hA
  obtain ⟨v1, vs1, d1, ds1, p1, q1, rfl, rfl, rfl, h1, r1⟩ := trodAll_cons r0
  obtain ⟨rfl, rfl, rfl⟩ := trodAll_nil r1
  obtain rfl : args = #[v0, v1] := by cases args; simp_all
  obtain ⟨rfl, rfl⟩ := trodVars_none hV
  obtain ⟨a0, len0, cap0, rfl⟩ := okWide_slice Try.underlying22 (hval 0 22 v0 rfl rfl)
  obtain ⟨a1, len1, cap1, rfl⟩ := okWide_slice Try.underlying22 (hval 1 22 v1 rfl rfl)
  have k0 := h0
  have lt0 : ∀ x ∈ p0, x.block < W.heap.size := by obtain ⟨m, hm⟩ := k0; exact DataW.trod_lt m _ _ _ hm
  have k1 := h1
  have lt1 : ∀ x ∈ p1, x.block < W.heap.size := by obtain ⟨m, hm⟩ := k1; exact DataW.trod_lt m _ _ _ hm
  obtain ⟨I, S, w0, b0⟩ : ∃ (I S : Nat → Int), IsPairs W a0 len0 cap0 (fun i => .int .u64 (I i)) (fun i => .int .u64 (S i)) ∧ ∀ i, i < len0 → (0 ≤ I i ∧ I i ≤ 18446744073709551615) ∧ 0 ≤ S i ∧ S i ≤ 18446744073709551615 := by
    obtain ⟨fuel, hf⟩ := h0
    exact view_reqs hf
  obtain ⟨J, R, w1, b1⟩ : ∃ (J R : Nat → Int), IsPairs W a1 len1 cap1 (fun i => .int .u64 (J i)) (fun i => .int .u64 (R i)) ∧ ∀ i, i < len1 → (0 ≤ J i ∧ J i ≤ 18446744073709551615) ∧ 0 ≤ R i ∧ R i ≤ 18446744073709551615 := by
    obtain ⟨fuel, hf⟩ := h1
    exact view_reqs hf
  clear hA0 hval0
  refine (walk a0 a1 len0 cap0 len1 cap1 I S J R W w0 w1 b0 b1).mono fun e W' ⟨he, bel⟩ => ?_
  subst he
  exact ⟨_, rfl, _, _, _, [], _, [], hW', trodAll_mk1 (shut_bool Try.underlying4 _), (trodAll_cons_mk (Below.trod laidOut (by kernel_rfl) (of_decide_eq_true (by kernel_rfl)) k0 bel lt0) (trodAll_cons_mk (Below.trod laidOut (by kernel_rfl) (of_decide_eq_true (by kernel_rfl)) k1 bel lt1) trodAll_mk0)), rfl, bel.frame _, fun h => by cases h⟩

theorem over : Rows.fnSeqSetAddMatchesSetModelRow.holds Try.pinned (OpenSpec.ofChange Rows.fnSeqSetAddMatchesSetModelSpec) :=
  OpenClaim.holds_of_wide 3 Try.f3 rfl rfl rfl rfl rfl rfl rfl ⟨rfl, rfl, rfl, rfl, rfl⟩ rfl rfl rfl rfl rfl (by kernel_rfl) Try.func3 (by kernel_rfl)
    (of_decide_eq_true (by kernel_rfl)) (by unfold Func.isWrapper; first | (rw [if_pos (by decide +kernel)]; kernel_rfl) | (rw [if_neg (by decide +kernel)]; exact ⟨rfl, rfl⟩))
    (fun os started H enc _ => lifted os started H enc)

/-- THE STATEMENT -/
theorem proved : Rows.FnSeqSetAddMatchesSetModelSaid := over
end Go.Proofs.Qxb6000359a.fnSeqSetAddMatchesSetModel
