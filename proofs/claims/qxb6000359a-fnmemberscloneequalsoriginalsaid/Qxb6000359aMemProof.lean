/-
  THE PROOF OF 'Rows.FnMembersCloneEqualsOriginalSaid': the frame is the guide's template at this function's number and types; the walk stands in Qxb6000359aMemWalk.
-/
import Derived.Test.Qxb6000359aMemWalk
import Derived.Test.Qxb6000359aMemView
import Derived.WalkKit
import Derived.ProofKit
import Derived.OpenShut
import Derived.ChangeOld
namespace Go.Proofs.Qxb6000359a.fnMembersCloneEqualsOriginal
open Go.ChangeShapes Go.WideShapes Go.ChangeAt Go.RowKit

theorem own : ownKnob Try.prog.godebug = none := by kernel_rfl
theorem laidOut : laidOutB Try.prog = true := by kernel_rfl

set_option maxRecDepth 100000 in
theorem lifted (os : Os) (started : os.Started) (H : Type) (enc : TypeId × Value → H) :
    ReturnsInHanded {} Try.checked os 8 .any (Rows.fnMembersCloneEqualsOriginalSpec.pre6 enc Try.prog Try.f8 Rows.fnMembersCloneEqualsOriginalRow.domain false) (Rows.fnMembersCloneEqualsOriginalSpec.post enc Try.prog Try.f8 false true false false) := by
  refine returnsInHanded_of_change (C := Try.checked) own started (by kernel_rfl) Try.func8
    (ChangeSpec.witness6 (enc := enc) (C := Try.checked) false ⟨#[], #[.int .u64 0, .slice none 0 0, .slice none 0 0, .pointer none, .int .u32 0], []⟩ 8 (by kernel_rfl) (by kernel_rfl) (by kernel_rfl) (by kernel_rfl)) ?_
  intro W base args ds gs before hval0 hW hcnd _
  have hval : ∀ (j : Nat) t v, Try.f8.params[j]? = some t → args[j]? = some v → Value.okWide Try.prog W .any base t v := hval0
  have hW' := hW
  obtain ⟨p, q, hA0, hV, rfl, hfz, hnd⟩ := hW
  have hA : DataW.TrodAll enc Try.prog W 0 (fun _ => true) true Try.f8.params.toList args.toList ds p := hA0
  rw [Try.params8] at hA hval
  obtain ⟨v0, vs0, d0, ds0, p0, q0, hargs, rfl, rfl, h0, r0⟩ := trodAll_cons hA
  obtain ⟨v1, vs1, d1, ds1, p1, q1, rfl, rfl, rfl, h1, r1⟩ := trodAll_cons r0
  obtain ⟨v2, vs2, d2, ds2, p2, q2, rfl, rfl, rfl, h2, r2⟩ := trodAll_cons r1
  obtain ⟨v3, vs3, d3, ds3, p3, q3, rfl, rfl, rfl, h3, r3⟩ := trodAll_cons r2
  obtain ⟨v4, vs4, d4, ds4, p4, q4, rfl, rfl, rfl, h4, r4⟩ := trodAll_cons r3
  obtain ⟨rfl, rfl, rfl⟩ := trodAll_nil r4
  obtain rfl : args = #[v0, v1, v2, v3, v4] := by cases args; simp_all
  obtain ⟨rfl, rfl⟩ := trodVars_none hV
  obtain ⟨ep, rfl, rfl, rfl, w0⟩ := open_int Try.underlying27 (hval 0 27 v0 rfl rfl) h0
  obtain ⟨a1, len1, cap1, rfl⟩ := okWide_slice Try.underlying46 (hval 1 46 v1 rfl rfl)
  obtain ⟨a2, len2, cap2, rfl⟩ := okWide_slice Try.underlying47 (hval 2 47 v2 rfl rfl)
  obtain ⟨jn, rfl, rfl, rfl, w4⟩ := open_int Try.underlying49 (hval 4 49 v4 rfl rfl) h4
  have k1 := h1
  have lt1 : ∀ x ∈ p1, x.block < W.heap.size := by obtain ⟨m, hm⟩ := k1; exact DataW.trod_lt m _ _ _ hm
  have k2 := h2
  have lt2 : ∀ x ∈ p2, x.block < W.heap.size := by obtain ⟨m, hm⟩ := k2; exact DataW.trod_lt m _ _ _ hm
  have k3 := h3
  have lt3 : ∀ x ∈ p3, x.block < W.heap.size := by obtain ⟨m, hm⟩ := k3; exact DataW.trod_lt m _ _ _ hm
  obtain ⟨A, B, C, b1, o1, t1⟩ : ∃ (A : Nat → Int) (B : Nat → ByteArray) (C : Nat → Int) (b off : Nat), Trip W a1 len1 cap1 A B C b off := by
    obtain ⟨fuel, hf⟩ := h1
    exact view_trip hf
  obtain ⟨L, b2, o2, t2⟩ : ∃ (L : Nat → Int) (b off : Nat), Ones W a2 len2 cap2 L b off := by
    obtain ⟨fuel, hf⟩ := h2
    exact view_ones hf
  obtain ⟨pp, rfl⟩ : ∃ pp, v3 = .pointer pp := okWide_pointer Try.underlying48 (hval 3 48 v3 rfl rfl)
  have hp : pp = none ∨ ∃ (b off : Nat) (d : PD) (ad : Option Addr) (cap pb poff : Nat), pp = some ⟨b, off, none⟩ ∧ PendAt W b off d ad cap pb poff := by
    obtain ⟨fuel, hf⟩ := h3
    exact view_pend hf
  clear hA0 hval0
  have walk : Calls Try.prog 8 #[.int .u64 ep, .slice a1 len1 cap1, .slice a2 len2 cap2, .pointer pp, .int .u32 jn] W fun e w' => e = .returned (.bool true) ∧ Below W.heap.size W w' := by
    rcases hp with rfl | ⟨b, off, d, ad, cap, pb, poff, rfl, hP⟩
    · exact members_nil ep a1 len1 cap1 A B C b1 o1 a2 len2 cap2 L b2 o2 jn W t1 t2
    · exact members_some ep a1 len1 cap1 A B C b1 o1 a2 len2 cap2 L b2 o2 b off d ad cap pb poff jn W t1 t2 hP
  refine walk.mono fun e W' ⟨he, bel⟩ => ?_
  subst he
  exact ⟨_, rfl, _, _, _, [], _, [], hW', trodAll_mk1 (shut_bool Try.underlying4 _), (trodAll_cons_mk (shut_int Try.underlying27 w0) (trodAll_cons_mk (Below.trod laidOut (by kernel_rfl) (of_decide_eq_true (by kernel_rfl)) k1 bel lt1) (trodAll_cons_mk (Below.trod laidOut (by kernel_rfl) (of_decide_eq_true (by kernel_rfl)) k2 bel lt2) (trodAll_cons_mk (Below.trod laidOut (by kernel_rfl) (of_decide_eq_true (by kernel_rfl)) k3 bel lt3) (trodAll_cons_mk (shut_int Try.underlying49 w4) trodAll_mk0))))), rfl, bel.frame _, fun h => by cases h⟩

theorem over : Rows.fnMembersCloneEqualsOriginalRow.holds Try.pinned (OpenSpec.ofChange Rows.fnMembersCloneEqualsOriginalSpec) :=
  OpenClaim.holds_of_wide 8 Try.f8 rfl rfl rfl rfl rfl rfl rfl ⟨rfl, rfl, rfl, rfl, rfl⟩ rfl rfl rfl rfl rfl (by kernel_rfl) Try.func8 (by kernel_rfl)
    (of_decide_eq_true (by kernel_rfl)) (by unfold Func.isWrapper; first | (rw [if_pos (by decide +kernel)]; kernel_rfl) | (rw [if_neg (by decide +kernel)]; exact ⟨rfl, rfl⟩))
    (fun os started H enc _ => lifted os started H enc)

/-- THE STATEMENT -/
theorem proved : Rows.FnMembersCloneEqualsOriginalSaid := over
end Go.Proofs.Qxb6000359a.fnMembersCloneEqualsOriginal
