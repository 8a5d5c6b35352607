import Derived.Test.Qxb6000359aBuild
namespace Go.Proofs.Qxb6000359a
open Go.RowKit

set_option maxRecDepth 100000 in
set_option maxHeartbeats 4000000 in
theorem same_nil (ep : Int) (a1 : Option Addr) (len1 cap1 : Nat) (A : Nat → Int) (B : Nat → ByteArray) (C : Nat → Int) (b1 o1 : Nat) (a2 : Option Addr) (len2 cap2 : Nat) (L : Nat → Int) (b2 o2 : Nat) (jn : Int)
    (a1' : Option Addr) (cap1' b1' o1' : Nat) (a2' : Option Addr) (cap2' b2' o2' : Nat) (w : World)
    (hl1 : len1 ≤ 1000000) (hl2 : len2 ≤ 1000000) (h1 : Trip w a1 len1 cap1 A B C b1 o1) (h2 : Ones w a2 len2 cap2 L b2 o2) (h1' : Trip w a1' len1 cap1' A B C b1' o1') (h2' : Ones w a2' len2 cap2' L b2' o2') :
    Calls Try.prog 29 #[.agg #[.int .u64 ep, .slice a1 len1 cap1, .slice a2 len2 cap2, .pointer none, .int .u32 jn], .agg #[.int .u64 ep, .slice a1' len1 cap1', .slice a2' len2 cap2', .pointer none, .int .u32 jn]] w fun e w' =>
      e = .returned (.bool true) ∧ Below w.heap.size w w' := by
  go_enter Try.func29, Try.ntmps29
  go_upto_region 1 with fail
  have hb0 : Below w.heap.size w ((w.alloc (.cells #[.int .u64 ep, .slice a1 len1 cap1, .slice a2 len2 cap2, .pointer none, .int .u32 jn] 60)).alloc (.cells #[.int .u64 ep, .slice a1' len1 cap1', .slice a2' len2 cap2', .pointer none, .int .u32 jn] 60)) := ((Below.refl _ _).alloc (Nat.le_refl _) _).alloc (by simp) _
  have hX : ((w.alloc (.cells #[.int .u64 ep, .slice a1 len1 cap1, .slice a2 len2 cap2, .pointer none, .int .u32 jn] 60)).alloc (.cells #[.int .u64 ep, .slice a1' len1 cap1', .slice a2' len2 cap2', .pointer none, .int .u32 jn] 60)).heap[w.heap.size]? = some (.cells #[.int .u64 ep, .slice a1 len1 cap1, .slice a2 len2 cap2, .pointer none, .int .u32 jn] 60 (0, 0)) := by
    rw [Below.heap_alloc _ _ _ (by simp)]; exact heap_alloc_new _ _
  have hY : ((w.alloc (.cells #[.int .u64 ep, .slice a1 len1 cap1, .slice a2 len2 cap2, .pointer none, .int .u32 jn] 60)).alloc (.cells #[.int .u64 ep, .slice a1' len1 cap1', .slice a2' len2 cap2', .pointer none, .int .u32 jn] 60)).heap[w.heap.size + 1]? = some (.cells #[.int .u64 ep, .slice a1' len1 cap1', .slice a2' len2 cap2', .pointer none, .int .u32 jn] 60 (0, 0)) := by
    have := heap_alloc_new (w.alloc (.cells #[.int .u64 ep, .slice a1 len1 cap1, .slice a2 len2 cap2, .pointer none, .int .u32 jn] 60)) (.cells #[.int .u64 ep, .slice a1' len1 cap1', .slice a2' len2 cap2', .pointer none, .int .u32 jn] 60)
    simpa using this
  generalize ((w.alloc (.cells #[.int .u64 ep, .slice a1 len1 cap1, .slice a2 len2 cap2, .pointer none, .int .u32 jn] 60)).alloc (.cells #[.int .u64 ep, .slice a1' len1 cap1', .slice a2' len2 cap2', .pointer none, .int .u32 jn] 60)) = w3 at hb0 hX hY ⊢
  have x0 : w3.cell? ⟨w.heap.size, 0, none⟩ = some (.int .u64 ep) := cell_of_block hX rfl
  have x1 : w3.cell? ⟨w.heap.size, 1, none⟩ = some (.slice a1 len1 cap1) := cell_of_block hX rfl
  have x2 : w3.cell? ⟨w.heap.size, 2, none⟩ = some (.slice a2 len2 cap2) := cell_of_block hX rfl
  have x3 : w3.cell? ⟨w.heap.size, 3, none⟩ = some (.pointer none) := cell_of_block hX rfl
  have x4 : w3.cell? ⟨w.heap.size, 4, none⟩ = some (.int .u32 jn) := cell_of_block hX rfl
  have y0 : w3.cell? ⟨w.heap.size + 1, 0, none⟩ = some (.int .u64 ep) := cell_of_block hY rfl
  have y1 : w3.cell? ⟨w.heap.size + 1, 1, none⟩ = some (.slice a1' len1 cap1') := cell_of_block hY rfl
  have y2 : w3.cell? ⟨w.heap.size + 1, 2, none⟩ = some (.slice a2' len2 cap2') := cell_of_block hY rfl
  have y3 : w3.cell? ⟨w.heap.size + 1, 3, none⟩ = some (.pointer none) := cell_of_block hY rfl
  have y4 : w3.cell? ⟨w.heap.size + 1, 4, none⟩ = some (.int .u32 jn) := cell_of_block hY rfl
  have hO := h2.below hb0
  have hO' := h2'.below hb0
  have ct := samePeers_any a1 a1' len1 cap1 cap1' A B C b1 o1 b1' o1' w3 hl1 (h1.below hb0) (h1'.below hb0)
  go_wp2_with (go_at_call 37; refine ct.mono ?_; rintro e w4 ⟨rfl, n, rfl⟩)
  go_loopw [5] (fun i wr => ∃ k : Nat, k ≤ len2 ∧ i = .int .i64 k ∧ ∃ n, wr = w3.drewN n) (fun i _ => len2 - (intOf i).toNat)
  case atStart => exact ⟨0, Nat.zero_le _, rfl, _, rfl⟩
  case round =>
    clear ct
    obtain ⟨k, hk, rfl, n, rfl⟩ := hrel
    by_cases hlt : k < len2
    · obtain rfl := hO.at_ (by omega)
      obtain rfl := hO'.at_ (by omega)
      have c0 := hO.c0 k hlt
      have c1 := hO'.c0 k hlt
      generalize L k = x at c0 c1
      go_wp2_with fail
      go_quiet (fail)
      go_wp2
      go_roundw
      case rel => exact ⟨k + 1, by omega, by go_num, _, rfl⟩
      case measure => simp [intOf]; omega
    · go_wp2
      go_ret
      exact ⟨rfl, ⟨hb0.os, hb0.tape, hb0.output, hb0.size, hb0.block⟩⟩

set_option maxRecDepth 100000 in
set_option maxHeartbeats 4000000 in
theorem same_some (ep : Int) (a1 : Option Addr) (len1 cap1 : Nat) (A : Nat → Int) (B : Nat → ByteArray) (C : Nat → Int) (b1 o1 : Nat) (a2 : Option Addr) (len2 cap2 : Nat) (L : Nat → Int) (b2 o2 : Nat) (jn : Int)
    (a1' : Option Addr) (cap1' b1' o1' : Nat) (a2' : Option Addr) (cap2' b2' o2' : Nat) (d : PD) (P : Nat) (a3 : Option Addr) (c3 b3 o3 : Nat) (P' : Nat) (a3' : Option Addr) (c3' b3' o3' : Nat) (w : World)
    (hl1 : len1 ≤ 1000000) (hl2 : len2 ≤ 1000000) (h1 : Trip w a1 len1 cap1 A B C b1 o1) (h2 : Ones w a2 len2 cap2 L b2 o2) (h1' : Trip w a1' len1 cap1' A B C b1' o1') (h2' : Ones w a2' len2 cap2' L b2' o2') (hl3 : d.len ≤ 1000000) (h3 : PendAt w P 0 d a3 c3 b3 o3) (h3' : PendAt w P' 0 d a3' c3' b3' o3') :
    Calls Try.prog 29 #[.agg #[.int .u64 ep, .slice a1 len1 cap1, .slice a2 len2 cap2, .pointer (some ⟨P, 0, none⟩), .int .u32 jn], .agg #[.int .u64 ep, .slice a1' len1 cap1', .slice a2' len2 cap2', .pointer (some ⟨P', 0, none⟩), .int .u32 jn]] w fun e w' =>
      e = .returned (.bool true) ∧ Below w.heap.size w w' := by
  go_enter Try.func29, Try.ntmps29
  go_upto_region 1 with fail
  have hb0 : Below w.heap.size w ((w.alloc (.cells #[.int .u64 ep, .slice a1 len1 cap1, .slice a2 len2 cap2, .pointer (some ⟨P, 0, none⟩), .int .u32 jn] 60)).alloc (.cells #[.int .u64 ep, .slice a1' len1 cap1', .slice a2' len2 cap2', .pointer (some ⟨P', 0, none⟩), .int .u32 jn] 60)) := ((Below.refl _ _).alloc (Nat.le_refl _) _).alloc (by simp) _
  have hX : ((w.alloc (.cells #[.int .u64 ep, .slice a1 len1 cap1, .slice a2 len2 cap2, .pointer (some ⟨P, 0, none⟩), .int .u32 jn] 60)).alloc (.cells #[.int .u64 ep, .slice a1' len1 cap1', .slice a2' len2 cap2', .pointer (some ⟨P', 0, none⟩), .int .u32 jn] 60)).heap[w.heap.size]? = some (.cells #[.int .u64 ep, .slice a1 len1 cap1, .slice a2 len2 cap2, .pointer (some ⟨P, 0, none⟩), .int .u32 jn] 60 (0, 0)) := by
    rw [Below.heap_alloc _ _ _ (by simp)]; exact heap_alloc_new _ _
  have hY : ((w.alloc (.cells #[.int .u64 ep, .slice a1 len1 cap1, .slice a2 len2 cap2, .pointer (some ⟨P, 0, none⟩), .int .u32 jn] 60)).alloc (.cells #[.int .u64 ep, .slice a1' len1 cap1', .slice a2' len2 cap2', .pointer (some ⟨P', 0, none⟩), .int .u32 jn] 60)).heap[w.heap.size + 1]? = some (.cells #[.int .u64 ep, .slice a1' len1 cap1', .slice a2' len2 cap2', .pointer (some ⟨P', 0, none⟩), .int .u32 jn] 60 (0, 0)) := by
    have := heap_alloc_new (w.alloc (.cells #[.int .u64 ep, .slice a1 len1 cap1, .slice a2 len2 cap2, .pointer (some ⟨P, 0, none⟩), .int .u32 jn] 60)) (.cells #[.int .u64 ep, .slice a1' len1 cap1', .slice a2' len2 cap2', .pointer (some ⟨P', 0, none⟩), .int .u32 jn] 60)
    simpa using this
  generalize ((w.alloc (.cells #[.int .u64 ep, .slice a1 len1 cap1, .slice a2 len2 cap2, .pointer (some ⟨P, 0, none⟩), .int .u32 jn] 60)).alloc (.cells #[.int .u64 ep, .slice a1' len1 cap1', .slice a2' len2 cap2', .pointer (some ⟨P', 0, none⟩), .int .u32 jn] 60)) = w3 at hb0 hX hY ⊢
  have x0 : w3.cell? ⟨w.heap.size, 0, none⟩ = some (.int .u64 ep) := cell_of_block hX rfl
  have x1 : w3.cell? ⟨w.heap.size, 1, none⟩ = some (.slice a1 len1 cap1) := cell_of_block hX rfl
  have x2 : w3.cell? ⟨w.heap.size, 2, none⟩ = some (.slice a2 len2 cap2) := cell_of_block hX rfl
  have x3 : w3.cell? ⟨w.heap.size, 3, none⟩ = some (.pointer (some ⟨P, 0, none⟩)) := cell_of_block hX rfl
  have x4 : w3.cell? ⟨w.heap.size, 4, none⟩ = some (.int .u32 jn) := cell_of_block hX rfl
  have y0 : w3.cell? ⟨w.heap.size + 1, 0, none⟩ = some (.int .u64 ep) := cell_of_block hY rfl
  have y1 : w3.cell? ⟨w.heap.size + 1, 1, none⟩ = some (.slice a1' len1 cap1') := cell_of_block hY rfl
  have y2 : w3.cell? ⟨w.heap.size + 1, 2, none⟩ = some (.slice a2' len2 cap2') := cell_of_block hY rfl
  have y3 : w3.cell? ⟨w.heap.size + 1, 3, none⟩ = some (.pointer (some ⟨P', 0, none⟩)) := cell_of_block hY rfl
  have y4 : w3.cell? ⟨w.heap.size + 1, 4, none⟩ = some (.int .u32 jn) := cell_of_block hY rfl
  have hO := h2.below hb0
  have hO' := h2'.below hb0
  have ct := samePeers_any a1 a1' len1 cap1 cap1' A B C b1 o1 b1' o1' w3 hl1 (h1.below hb0) (h1'.below hb0)
  go_wp2_with (go_at_call 37; refine ct.mono ?_; rintro e w4 ⟨rfl, n, rfl⟩)
  go_loopw [5] (fun i wr => ∃ k : Nat, k ≤ len2 ∧ i = .int .i64 k ∧ ∃ n, wr = w3.drewN n) (fun i _ => len2 - (intOf i).toNat)
  case atStart => exact ⟨0, Nat.zero_le _, rfl, _, rfl⟩
  case round =>
    clear ct
    obtain ⟨k, hk, rfl, n, rfl⟩ := hrel
    by_cases hlt : k < len2
    · obtain rfl := hO.at_ (by omega)
      obtain rfl := hO'.at_ (by omega)
      have c0 := hO.c0 k hlt
      have c1 := hO'.c0 k hlt
      generalize L k = x at c0 c1
      go_wp2_with fail
      go_quiet (fail)
      go_wp2
      go_roundw
      case rel => exact ⟨k + 1, by omega, by go_num, _, rfl⟩
      case measure => simp [intOf]; omega
    · have hP := h3.below hb0
      have hP' := h3'.below hb0
      obtain ⟨e0, e1, e2, e3, e4, e5, e6, e7, e8, e9, e10⟩ := hP.all0
      obtain ⟨f0, f1, f2, f3, f4, f5, f6, f7, f8, f9, f10⟩ := hP'.all0
      have ct := fun n => samePeers_any a3 a3' d.len c3 c3' d.A d.B d.C b3 o3 b3' o3' (w3.drewN n) hl3 (hP.trip.below ⟨rfl, rfl, rfl, Nat.le_refl _, fun _ _ => rfl⟩) (hP'.trip.below ⟨rfl, rfl, rfl, Nat.le_refl _, fun _ _ => rfl⟩)
      go_wp2_with fail
      go_quiet (fail)
      go_wp2_with fail
      go_quiet (fail)
      go_wp2_with fail
      go_quiet (fail)
      go_wp2_with fail
      go_quiet ((go_at_call 37; refine (ct _).mono ?_; rintro e w' ⟨he, m, hm⟩; exact ⟨he, _, by rw [hm, World.drewN_drewN, Nat.add_assoc]⟩))
      go_wp2
      go_ret
      exact ⟨rfl, ⟨hb0.os, hb0.tape, hb0.output, hb0.size, hb0.block⟩⟩
end Go.Proofs.Qxb6000359a
