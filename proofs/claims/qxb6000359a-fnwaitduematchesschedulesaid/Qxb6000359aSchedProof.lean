/-
  THE PROOF OF 'Rows.FnWaitDueMatchesScheduleSaid': the frame is the guide's template at this function's number and types; the walk stands in Qxb6000359aSchedWalk.
-/
import Derived.Test.Qxb6000359aSchedWalk
import Derived.Test.Qxb6000359aView
import Derived.WalkKit
import Derived.ProofKit
import Derived.OpenShut
import Derived.ChangeOld
namespace Go.Proofs.Qxb6000359a.fnWaitDueMatchesSchedule
open Go.ChangeShapes Go.WideShapes Go.ChangeAt Go.RowKit

theorem own : ownKnob Try.prog.godebug = none := by kernel_rfl
theorem laidOut : laidOutB Try.prog = true := by kernel_rfl

theorem walk (ad : Option Addr) (len cap : Nat) (A0 : Nat → Bool) (A1 : Nat → Int) (first every : Int) (bo : Bool) (w : World)
    (h : IsPairs w ad len cap (fun i => .bool (A0 i)) (fun i => .int .u64 (A1 i))) (we : (Lit.int .i64 every).wf = true) :
    Calls Try.prog 6 #[.slice ad len cap, .int .i64 first, .int .i64 every, .bool bo] w fun e w' => e = .returned (.bool true) ∧ Below w.heap.size w w' := by
  have be := bounds_i64 we
  rcases h with ⟨rfl, rfl, rfl⟩ | ⟨a, b, off, rfl, h1, h2, h3⟩
  · exact sched_nil first every bo w
  · by_cases hl : 65536 < len
    · exact sched_big _ len cap first every bo w hl
    · exact sched_walk a b off len cap A0 A1 first every bo w (by omega) h1 h2 h3 be.1 be.2

set_option maxRecDepth 100000 in
theorem lifted (os : Os) (started : os.Started) (H : Type) (enc : TypeId × Value → H) :
    ReturnsInHanded {} Try.checked os 6 .any (Rows.fnWaitDueMatchesScheduleSpec.pre6 enc Try.prog Try.f6 Rows.fnWaitDueMatchesScheduleRow.domain false) (Rows.fnWaitDueMatchesScheduleSpec.post enc Try.prog Try.f6 false true false false) := by
  refine returnsInHanded_of_change (C := Try.checked) own started (by kernel_rfl) Try.func6
    (ChangeSpec.witness6 (enc := enc) (C := Try.checked) false ⟨#[], #[.slice none 0 0, .int .i64 0, .int .i64 0, .bool false], []⟩ 8 (by kernel_rfl) (by kernel_rfl) (by kernel_rfl) (by kernel_rfl)) ?_
  intro W base args ds gs before hval0 hW hcnd _
  have hval : ∀ (j : Nat) t v, Try.f6.params[j]? = some t → args[j]? = some v → Value.okWide Try.prog W .any base t v := hval0
  have hW' := hW
  obtain ⟨p, q, hA0, hV, rfl, hfz, hnd⟩ := hW
  have hA : DataW.TrodAll enc Try.prog W 0 (fun _ => true) true Try.f6.params.toList args.toList ds p := hA0
  rw [Try.params6] at hA hval
  obtain ⟨v0, vs0, d0, ds0, p0, q0, hargs, rfl, rfl, h0, r0⟩ := trodAll_cons hA
  obtain ⟨v1, vs1, d1, ds1, p1, q1, rfl, rfl, rfl, h1, r1⟩ := trodAll_cons r0
  obtain ⟨v2, vs2, d2, ds2, p2, q2, rfl, rfl, rfl, h2, r2⟩ := trodAll_cons r1
  obtain ⟨v3, vs3, d3, ds3, p3, q3, rfl, rfl, rfl, h3, r3⟩ := trodAll_cons r2
  obtain ⟨rfl, rfl, rfl⟩ := trodAll_nil r3
  obtain rfl : args = #[v0, v1, v2, v3] := by cases args; simp_all
  obtain ⟨rfl, rfl⟩ := trodVars_none hV
  obtain ⟨a0, len0, cap0, rfl⟩ := okWide_slice Try.underlying34 (hval 0 34 v0 rfl rfl)
  have k0 := h0
  have lt0 : ∀ x ∈ p0, x.block < W.heap.size := by obtain ⟨m, hm⟩ := k0; exact DataW.trod_lt m _ _ _ hm
  obtain ⟨A0, A1, w0⟩ : ∃ (A0 : Nat → Bool) (A1 : Nat → Int), IsPairs W a0 len0 cap0 (fun i => .bool (A0 i)) (fun i => .int .u64 (A1 i)) := by
    obtain ⟨fuel, hf⟩ := h0
    exact view_ticks hf
  obtain ⟨a1, rfl, rfl, rfl, w1⟩ := open_int Try.underlying3 (hval 1 3 v1 rfl rfl) h1
  obtain ⟨a2, rfl, rfl, rfl, w2⟩ := open_int Try.underlying3 (hval 2 3 v2 rfl rfl) h2
  obtain ⟨a3, rfl, rfl, rfl⟩ := open_bool Try.underlying4 (hval 3 4 v3 rfl rfl) h3
  clear hA0 hval0
  refine (walk a0 len0 cap0 A0 A1 a1 a2 a3 W w0 w2).mono fun e W' ⟨he, bel⟩ => ?_
  subst he
  exact ⟨_, rfl, _, _, _, [], _, [], hW', trodAll_mk1 (shut_bool Try.underlying4 _), (trodAll_cons_mk (Below.trod laidOut (by kernel_rfl) (of_decide_eq_true (by kernel_rfl)) k0 bel lt0) (trodAll_cons_mk (shut_int Try.underlying3 w1) (trodAll_cons_mk (shut_int Try.underlying3 w2) (trodAll_cons_mk (shut_bool Try.underlying4 _) trodAll_mk0)))), rfl, bel.frame _, fun h => by cases h⟩

theorem over : Rows.fnWaitDueMatchesScheduleRow.holds Try.pinned (OpenSpec.ofChange Rows.fnWaitDueMatchesScheduleSpec) :=
  OpenClaim.holds_of_wide 6 Try.f6 rfl rfl rfl rfl rfl rfl rfl ⟨rfl, rfl, rfl, rfl, rfl⟩ rfl rfl rfl rfl rfl (by kernel_rfl) Try.func6 (by kernel_rfl)
    (of_decide_eq_true (by kernel_rfl)) (by unfold Func.isWrapper; first | (rw [if_pos (by decide +kernel)]; kernel_rfl) | (rw [if_neg (by decide +kernel)]; exact ⟨rfl, rfl⟩))
    (fun os started H enc _ => lifted os started H enc)

/-- THE STATEMENT -/
theorem proved : Rows.FnWaitDueMatchesScheduleSaid := over
end Go.Proofs.Qxb6000359a.fnWaitDueMatchesSchedule
