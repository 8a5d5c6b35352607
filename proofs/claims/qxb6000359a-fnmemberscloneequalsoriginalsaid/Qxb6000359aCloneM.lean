import Derived.Test.Qxb6000359aBuild
namespace Go.Proofs.Qxb6000359a
open Go.RowKit

/-- clone on the way: its box X (cells m), its result's block X + 1, its variable's block X + 2 (cells c). -/
structure CL (w : World) (X : Nat) (m c : Array Value) (wc : World) : Prop where
  x0 : wc.heap[X]? = some (.cells m 60 (0, 0))
  r0 : wc.heap[X + 1]? = some (.cells (mC 0 (.slice none 0 0) (.slice none 0 0) (.pointer none) 0) 60 (0, 0))
  c0 : wc.heap[X + 1 + 1]? = some (.cells c 60 (0, 0))
  hX : X = w.heap.size
  bel : Below w.heap.size w wc
theorem CL.below {w : World} {X : Nat} {m c : Array Value} {wc w' : World} (h : CL w X m c wc) (hb : Below wc.heap.size wc w') : CL w X m c w' :=
  ⟨(hb.block _ (lt_of_block h.x0)).trans h.x0, (hb.block _ (lt_of_block h.r0)).trans h.r0, (hb.block _ (lt_of_block h.c0)).trans h.c0, h.hX, h.bel.trans (hb.mono h.bel.size)⟩
theorem CL.set {w : World} {X : Nat} {m c : Array Value} {wc : World} (h : CL w X m c wc) (o : Nat) (v : Value) : CL w X m (c.setIfInBounds o v) (wc.setCell ⟨X + 1 + 1, o, none⟩ v) :=
  ⟨by rw [heap_setCell_other _ _ _ _ (by show X ≠ X + 1 + 1; omega)]; exact h.x0, by rw [heap_setCell_other _ _ _ _ (by show X + 1 ≠ X + 1 + 1; omega)]; exact h.r0, by rw [heap_setCell_same _ _ _ _ _ _ h.c0], h.hX, h.bel.setCell (by have := h.hX; simp; omega) _⟩
theorem CL.start (w : World) (m : Array Value) : CL w w.heap.size m m (((w.alloc (.cells m 60)).alloc (.cells (mC 0 (.slice none 0 0) (.slice none 0 0) (.pointer none) 0) 60)).alloc (.cells m 60)) := by
  refine ⟨?_, ?_, ?_, rfl, (((Below.refl _ _).alloc (Nat.le_refl _) _).alloc (by simp) _).alloc (by simp; omega) _⟩
  · rw [Below.heap_alloc _ _ _ (by simp; omega), Below.heap_alloc _ _ _ (by simp)]; exact heap_alloc_new _ _
  · rw [Below.heap_alloc _ _ _ (by simp)]
    have := heap_alloc_new (w.alloc (.cells m 60)) (.cells (mC 0 (.slice none 0 0) (.slice none 0 0) (.pointer none) 0) 60)
    simpa using this
  · have := heap_alloc_new ((w.alloc (.cells m 60)).alloc (.cells (mC 0 (.slice none 0 0) (.slice none 0 0) (.pointer none) 0) 60)) (.cells m 60)
    simpa using this

set_option maxRecDepth 100000 in
set_option maxHeartbeats 4000000 in
theorem clone_nil (ep : Int) (a1 : Option Addr) (len1 cap1 : Nat) (A : Nat → Int) (B : Nat → ByteArray) (C : Nat → Int) (b1 o1 : Nat) (a2 : Option Addr) (len2 cap2 : Nat) (L : Nat → Int) (b2 o2 : Nat) (jn : Int) (w : World)
    (hl1 : len1 ≤ 1000000) (hl2 : len2 ≤ 1000000) (h1 : Trip w a1 len1 cap1 A B C b1 o1) (h2 : Ones w a2 len2 cap2 L b2 o2) :
    Calls Try.prog 36 #[.agg #[.int .u64 ep, .slice a1 len1 cap1, .slice a2 len2 cap2, .pointer none, .int .u32 jn]] w fun e w' =>
      ∃ (a1' : Option Addr) (c1' b1' o1' : Nat) (a2' : Option Addr) (c2' b2' o2' : Nat), e = .returned (.agg #[.int .u64 ep, .slice a1' len1 c1', .slice a2' len2 c2', .pointer none, .int .u32 jn]) ∧ Trip w' a1' len1 c1' A B C b1' o1' ∧ Ones w' a2' len2 c2' L b2' o2' ∧ Below w.heap.size w w' ∧ (0 < len1 → w.heap.size ≤ b1') ∧ (0 < len2 → w.heap.size ≤ b2') := by
  go_enter Try.func36, Try.ntmps36
  go_upto_region 2 with fail
  have hst : CL w w.heap.size #[.int .u64 ep, .slice a1 len1 cap1, .slice a2 len2 cap2, .pointer none, .int .u32 jn] #[.int .u64 ep, .slice a1 len1 cap1, .slice a2 len2 cap2, .pointer none, .int .u32 jn] (((w.alloc (.cells #[.int .u64 ep, .slice a1 len1 cap1, .slice a2 len2 cap2, .pointer none, .int .u32 jn] 60)).alloc (.cells #[.int .u64 0, .slice none 0 0, .slice none 0 0, .pointer none, .int .u32 0] 60)).alloc (.cells #[.int .u64 ep, .slice a1 len1 cap1, .slice a2 len2 cap2, .pointer none, .int .u32 jn] 60)) := CL.start w _
  generalize (((w.alloc (.cells #[.int .u64 ep, .slice a1 len1 cap1, .slice a2 len2 cap2, .pointer none, .int .u32 jn] 60)).alloc (.cells #[.int .u64 0, .slice none 0 0, .slice none 0 0, .pointer none, .int .u32 0] 60)).alloc (.cells #[.int .u64 ep, .slice a1 len1 cap1, .slice a2 len2 cap2, .pointer none, .int .u32 jn] 60)) = w3 at hst ⊢
  have hT := h1.below hst.bel
  have hO := h2.below hst.bel
  have ct1 := cloneMembers_any a1 len1 cap1 A B C b1 o1 w3.drew hl1 (hT.below (Below.refl _ _).drew)
  have ct2 := fun wx (hb : Below w3.drew.heap.size w3.drew wx) => cloneLeft_any a2 len2 cap2 L b2 o2 wx hl2 ((hO.below (Below.refl _ _).drew).below hb)
  have x1 : w3.cell? ⟨w.heap.size, 1, none⟩ = some (.slice a1 len1 cap1) := cell_of_block hst.x0 rfl
  have x2 : w3.cell? ⟨w.heap.size, 2, none⟩ = some (.slice a2 len2 cap2) := cell_of_block hst.x0 rfl
  have hwl := lt_of_block hst.c0
  have nX : ¬ (w.heap.size = w.heap.size + 1 + 1) := by omega
  have nX' : ¬ (w.heap.size + 1 + 1 = w.heap.size) := by omega
  go_cut [] (fun wd => ∃ (a1' : Option Addr) (c1' b1' o1' : Nat) (a2' : Option Addr) (c2' b2' o2' : Nat), CL w w.heap.size #[.int .u64 ep, .slice a1 len1 cap1, .slice a2 len2 cap2, .pointer none, .int .u32 jn] (mC ep (.slice a1' len1 c1') (.slice a2' len2 c2') (.pointer none) jn) wd ∧ Trip wd a1' len1 c1' A B C b1' o1' ∧ Ones wd a2' len2 c2' L b2' o2' ∧ (0 < len1 → w.heap.size + 1 + 1 < b1') ∧ (0 < len2 → w.heap.size + 1 + 1 < b2'))
  case first =>
    go_region_held3 (fun w' => w'.cell? ⟨w.heap.size, 1, none⟩ = some (.slice a1 len1 cap1) ∧ w'.cell? ⟨w.heap.size, 2, none⟩ = some (.slice a2 len2 cap2)) (first | exact ⟨by assumption, by assumption⟩ | (simp [go_sem, *]; done))
      (first | (go_at_call 39; refine ct1.mono ?_; rintro e w4 ⟨a1', c1', b1', o1', rfl, hT4, hb4, hbb4⟩; have hC4 := (hst.below (Below.refl _ _).drew).below hb4; have z1 : w4.cell? ⟨w.heap.size, 1, none⟩ = some (.slice a1 len1 cap1) := cell_of_block hC4.x0 rfl; have z2 : w4.cell? ⟨w.heap.size, 2, none⟩ = some (.slice a2 len2 cap2) := cell_of_block hC4.x0 rfl) | (go_at_call 40; refine (ct2 _ hb4).mono ?_; rintro e w5 ⟨a2', c2', b2', o2', rfl, hO5, hb5, hbb5⟩; have hC5 := hC4.below hb5; have hT5 := hT4.below hb5; have z3 : w5.cell? ⟨w.heap.size, 1, none⟩ = some (.slice a1 len1 cap1) := cell_of_block hC5.x0 rfl; have z4 : w5.cell? ⟨w.heap.size, 2, none⟩ = some (.slice a2 len2 cap2) := cell_of_block hC5.x0 rfl; have y1 : w5.cell? ⟨w.heap.size + 1 + 1, 1, none⟩ = some (.slice a1 len1 cap1) := cell_of_block hC5.c0 rfl; have y2 : w5.cell? ⟨w.heap.size + 1 + 1, 2, none⟩ = some (.slice a2 len2 cap2) := cell_of_block hC5.c0 rfl; have f1 := free_of_block (o := 1) hC5.c0; have f2 := free_of_block (o := 2) hC5.c0))
    go_wp2_with fail
    go_meet
    case rel =>
      have s4 := hb4.size
      have n1 : 0 < len1 → w.heap.size + 1 + 1 < b1' := fun h0 => Nat.lt_of_lt_of_le hwl (hbb4 h0)
      have n2 : 0 < len2 → w.heap.size + 1 + 1 < b2' := fun h0 => Nat.lt_of_lt_of_le (Nat.lt_of_lt_of_le hwl s4) (hbb5 h0)
      exact ⟨a1', c1', b1', o1', a2', c2', b2', o2', (hC5.set 1 _).set 2 _, (hT5.set (fun h0 => by have := n1 h0; omega) 1 _).set (fun h0 => by have := n1 h0; omega) 2 _, (hO5.set (fun h0 => by have := n2 h0; omega) 1 _).set (fun h0 => by have := n2 h0; omega) 2 _, n1, n2⟩
  case rest =>
    obtain ⟨a1', c1', b1', o1', a2', c2', b2', o2', hC, hT5, hO5, hn1, hn2⟩ := hcut
    clear hT hO ct1 ct2 x1 x2 hst hwl
    have z0 : wc.cell? ⟨w.heap.size + 1 + 1, 0, none⟩ = some (.int .u64 ep) := cell_of_block hC.c0 rfl
    have z1 : wc.cell? ⟨w.heap.size + 1 + 1, 1, none⟩ = some (.slice a1' len1 c1') := cell_of_block hC.c0 rfl
    have z2 : wc.cell? ⟨w.heap.size + 1 + 1, 2, none⟩ = some (.slice a2' len2 c2') := cell_of_block hC.c0 rfl
    have z3 : wc.cell? ⟨w.heap.size + 1 + 1, 3, none⟩ = some (.pointer none) := cell_of_block hC.c0 rfl
    have z4 : wc.cell? ⟨w.heap.size + 1 + 1, 4, none⟩ = some (.int .u32 jn) := cell_of_block hC.c0 rfl
    have y0 : wc.cell? ⟨w.heap.size + 1, 0, none⟩ = some (.int .u64 0) := cell_of_block hC.r0 rfl
    have y1 : wc.cell? ⟨w.heap.size + 1, 1, none⟩ = some (.slice none 0 0) := cell_of_block hC.r0 rfl
    have y2 : wc.cell? ⟨w.heap.size + 1, 2, none⟩ = some (.slice none 0 0) := cell_of_block hC.r0 rfl
    have y3 : wc.cell? ⟨w.heap.size + 1, 3, none⟩ = some (.pointer none) := cell_of_block hC.r0 rfl
    have y4 : wc.cell? ⟨w.heap.size + 1, 4, none⟩ = some (.int .u32 0) := cell_of_block hC.r0 rfl
    have g0 := free_of_block (o := 0) hC.r0
    have g1 := free_of_block (o := 1) hC.r0
    have g2 := free_of_block (o := 2) hC.r0
    have g3 := free_of_block (o := 3) hC.r0
    have g4 := free_of_block (o := 4) hC.r0
    have x3 : wc.cell? ⟨w.heap.size, 3, none⟩ = some (.pointer none) := cell_of_block hC.x0 rfl
    go_wp2_with fail
    have q1 : 0 < len1 → b1' ≠ w.heap.size + 1 := fun h0 => by have := hn1 h0; omega
    have q2 : 0 < len2 → b2' ≠ w.heap.size + 1 := fun h0 => by have := hn2 h0; omega
    refine bodyPost_ret (v := .agg #[.int .u64 ep, .slice a1' len1 c1', .slice a2' len2 c2', .pointer none, .int .u32 jn]) (by simp [results, Try.results36, go_sem, y0, y1, y2, y3, y4]) rfl ⟨a1', c1', b1', o1', a2', c2', b2', o2', rfl, ?_, ?_, ?_, fun h0 => by have := hn1 h0; omega, fun h0 => by have := hn2 h0; omega⟩
    · exact ((((hT5.set q1 _ _).set q1 _ _).set q1 _ _).set q1 _ _).set q1 _ _
    · exact ((((hO5.set q2 _ _).set q2 _ _).set q2 _ _).set q2 _ _).set q2 _ _
    · exact ((((hC.bel.setCell (by simp) _).setCell (by simp) _).setCell (by simp) _).setCell (by simp) _).setCell (by simp) _
set_option maxRecDepth 100000 in
set_option maxHeartbeats 4000000 in
theorem clone_some (ep : Int) (a1 : Option Addr) (len1 cap1 : Nat) (A : Nat → Int) (B : Nat → ByteArray) (C : Nat → Int) (b1 o1 : Nat) (a2 : Option Addr) (len2 cap2 : Nat) (L : Nat → Int) (b2 o2 : Nat) (P : Nat) (d : PD) (a3 : Option Addr) (c3 b3 o3 : Nat) (jn : Int) (w : World)
    (hl1 : len1 ≤ 1000000) (hl2 : len2 ≤ 1000000) (h1 : Trip w a1 len1 cap1 A B C b1 o1) (h2 : Ones w a2 len2 cap2 L b2 o2) (hl3 : d.len ≤ 1000000) (h3 : PendAt w P 0 d a3 c3 b3 o3) :
    Calls Try.prog 36 #[.agg #[.int .u64 ep, .slice a1 len1 cap1, .slice a2 len2 cap2, .pointer (some ⟨P, 0, none⟩), .int .u32 jn]] w fun e w' =>
      ∃ (a1' : Option Addr) (c1' b1' o1' : Nat) (a2' : Option Addr) (c2' b2' o2' N : Nat) (a3' : Option Addr) (c3' b3' o3' : Nat), e = .returned (.agg #[.int .u64 ep, .slice a1' len1 c1', .slice a2' len2 c2', .pointer (some ⟨N, 0, none⟩), .int .u32 jn]) ∧ Trip w' a1' len1 c1' A B C b1' o1' ∧ Ones w' a2' len2 c2' L b2' o2' ∧ PendAt w' N 0 d a3' c3' b3' o3' ∧ Below w.heap.size w w' ∧ (0 < len1 → w.heap.size ≤ b1') ∧ (0 < len2 → w.heap.size ≤ b2') ∧ w.heap.size ≤ N ∧ (0 < d.len → w.heap.size ≤ b3') := by
  go_enter Try.func36, Try.ntmps36
  go_upto_region 2 with fail
  have hst : CL w w.heap.size #[.int .u64 ep, .slice a1 len1 cap1, .slice a2 len2 cap2, .pointer (some ⟨P, 0, none⟩), .int .u32 jn] #[.int .u64 ep, .slice a1 len1 cap1, .slice a2 len2 cap2, .pointer (some ⟨P, 0, none⟩), .int .u32 jn] (((w.alloc (.cells #[.int .u64 ep, .slice a1 len1 cap1, .slice a2 len2 cap2, .pointer (some ⟨P, 0, none⟩), .int .u32 jn] 60)).alloc (.cells #[.int .u64 0, .slice none 0 0, .slice none 0 0, .pointer none, .int .u32 0] 60)).alloc (.cells #[.int .u64 ep, .slice a1 len1 cap1, .slice a2 len2 cap2, .pointer (some ⟨P, 0, none⟩), .int .u32 jn] 60)) := CL.start w _
  generalize (((w.alloc (.cells #[.int .u64 ep, .slice a1 len1 cap1, .slice a2 len2 cap2, .pointer (some ⟨P, 0, none⟩), .int .u32 jn] 60)).alloc (.cells #[.int .u64 0, .slice none 0 0, .slice none 0 0, .pointer none, .int .u32 0] 60)).alloc (.cells #[.int .u64 ep, .slice a1 len1 cap1, .slice a2 len2 cap2, .pointer (some ⟨P, 0, none⟩), .int .u32 jn] 60)) = w3 at hst ⊢
  have hT := h1.below hst.bel
  have hO := h2.below hst.bel
  have ct1 := cloneMembers_any a1 len1 cap1 A B C b1 o1 w3.drew hl1 (hT.below (Below.refl _ _).drew)
  have ct2 := fun wx (hb : Below w3.drew.heap.size w3.drew wx) => cloneLeft_any a2 len2 cap2 L b2 o2 wx hl2 ((hO.below (Below.refl _ _).drew).below hb)
  have x1 : w3.cell? ⟨w.heap.size, 1, none⟩ = some (.slice a1 len1 cap1) := cell_of_block hst.x0 rfl
  have x2 : w3.cell? ⟨w.heap.size, 2, none⟩ = some (.slice a2 len2 cap2) := cell_of_block hst.x0 rfl
  have hwl := lt_of_block hst.c0
  have nX : ¬ (w.heap.size = w.heap.size + 1 + 1) := by omega
  have nX' : ¬ (w.heap.size + 1 + 1 = w.heap.size) := by omega
  go_cut [] (fun wd => ∃ (a1' : Option Addr) (c1' b1' o1' : Nat) (a2' : Option Addr) (c2' b2' o2' : Nat), CL w w.heap.size #[.int .u64 ep, .slice a1 len1 cap1, .slice a2 len2 cap2, .pointer (some ⟨P, 0, none⟩), .int .u32 jn] (mC ep (.slice a1' len1 c1') (.slice a2' len2 c2') (.pointer (some ⟨P, 0, none⟩)) jn) wd ∧ Trip wd a1' len1 c1' A B C b1' o1' ∧ Ones wd a2' len2 c2' L b2' o2' ∧ (0 < len1 → w.heap.size + 1 + 1 < b1') ∧ (0 < len2 → w.heap.size + 1 + 1 < b2'))
  case first =>
    go_region_held3 (fun w' => w'.cell? ⟨w.heap.size, 1, none⟩ = some (.slice a1 len1 cap1) ∧ w'.cell? ⟨w.heap.size, 2, none⟩ = some (.slice a2 len2 cap2)) (first | exact ⟨by assumption, by assumption⟩ | (simp [go_sem, *]; done))
      (first | (go_at_call 39; refine ct1.mono ?_; rintro e w4 ⟨a1', c1', b1', o1', rfl, hT4, hb4, hbb4⟩; have hC4 := (hst.below (Below.refl _ _).drew).below hb4; have z1 : w4.cell? ⟨w.heap.size, 1, none⟩ = some (.slice a1 len1 cap1) := cell_of_block hC4.x0 rfl; have z2 : w4.cell? ⟨w.heap.size, 2, none⟩ = some (.slice a2 len2 cap2) := cell_of_block hC4.x0 rfl) | (go_at_call 40; refine (ct2 _ hb4).mono ?_; rintro e w5 ⟨a2', c2', b2', o2', rfl, hO5, hb5, hbb5⟩; have hC5 := hC4.below hb5; have hT5 := hT4.below hb5; have z3 : w5.cell? ⟨w.heap.size, 1, none⟩ = some (.slice a1 len1 cap1) := cell_of_block hC5.x0 rfl; have z4 : w5.cell? ⟨w.heap.size, 2, none⟩ = some (.slice a2 len2 cap2) := cell_of_block hC5.x0 rfl; have y1 : w5.cell? ⟨w.heap.size + 1 + 1, 1, none⟩ = some (.slice a1 len1 cap1) := cell_of_block hC5.c0 rfl; have y2 : w5.cell? ⟨w.heap.size + 1 + 1, 2, none⟩ = some (.slice a2 len2 cap2) := cell_of_block hC5.c0 rfl; have f1 := free_of_block (o := 1) hC5.c0; have f2 := free_of_block (o := 2) hC5.c0))
    go_wp2_with fail
    go_meet
    case rel =>
      have s4 := hb4.size
      have n1 : 0 < len1 → w.heap.size + 1 + 1 < b1' := fun h0 => Nat.lt_of_lt_of_le hwl (hbb4 h0)
      have n2 : 0 < len2 → w.heap.size + 1 + 1 < b2' := fun h0 => Nat.lt_of_lt_of_le (Nat.lt_of_lt_of_le hwl s4) (hbb5 h0)
      exact ⟨a1', c1', b1', o1', a2', c2', b2', o2', (hC5.set 1 _).set 2 _, (hT5.set (fun h0 => by have := n1 h0; omega) 1 _).set (fun h0 => by have := n1 h0; omega) 2 _, (hO5.set (fun h0 => by have := n2 h0; omega) 1 _).set (fun h0 => by have := n2 h0; omega) 2 _, n1, n2⟩
  case rest =>
    obtain ⟨a1', c1', b1', o1', a2', c2', b2', o2', hC, hT5, hO5, hn1, hn2⟩ := hcut
    clear hT hO ct1 ct2 x1 x2 hst hwl
    have h3' := h3.below hC.bel
    obtain ⟨e0, e1, e2, e3, e4, e5, e6, e7, e8, e9, e10⟩ := h3'.all0
    have hP := h3.lt
    have hwz := lt_of_block hC.c0
    have x3 : wc.cell? ⟨w.heap.size, 3, none⟩ = some (.pointer (some ⟨P, 0, none⟩)) := cell_of_block hC.x0 rfl
    have ct3 := fun o => cloneMembers_any a3 d.len c3 d.A d.B d.C b3 o3 (wc.alloc o) hl3 (h3'.trip.below ((Below.refl _ _).alloc (Nat.le_refl _) _))
    have hPw : P < wc.heap.size := by omega
    have n1 : wc.heap.size ≠ w.heap.size + 1 + 1 := by omega
    have n2 : wc.heap.size ≠ w.heap.size + 1 := by omega
    have n3 : w.heap.size + 1 + 1 ≠ wc.heap.size := by omega
    have n4 : w.heap.size + 1 ≠ wc.heap.size := by omega
    have n5 : w.heap.size < wc.heap.size := by omega
    go_wp2_with (go_at_call 39; refine (ct3 _).mono ?_; rintro e w5 ⟨a3', c3', b3', o3', rfl, hT6, hb6, hbb6⟩; have hN := (hb6.block wc.heap.size (by simp)).trans (heap_alloc_new wc _); have hC5 := (hC.below ((Below.refl _ _).alloc (Nat.le_refl _) _)).below hb6; have x8 : w5.cell? ⟨wc.heap.size, 8, none⟩ = some (.slice a3 d.len c3) := cell_of_block hN rfl; have p8 := free_of_block (o := 8) hN; have z0 : w5.cell? ⟨w.heap.size + 1 + 1, 0, none⟩ = some (.int .u64 ep) := cell_of_block hC5.c0 rfl; have z1 : w5.cell? ⟨w.heap.size + 1 + 1, 1, none⟩ = some (.slice a1' len1 c1') := cell_of_block hC5.c0 rfl; have z2 : w5.cell? ⟨w.heap.size + 1 + 1, 2, none⟩ = some (.slice a2' len2 c2') := cell_of_block hC5.c0 rfl; have z3 : w5.cell? ⟨w.heap.size + 1 + 1, 3, none⟩ = some (.pointer (some ⟨P, 0, none⟩)) := cell_of_block hC5.c0 rfl; have z4 : w5.cell? ⟨w.heap.size + 1 + 1, 4, none⟩ = some (.int .u32 jn) := cell_of_block hC5.c0 rfl; have f3 := free_of_block (o := 3) hC5.c0; have y0 : w5.cell? ⟨w.heap.size + 1, 0, none⟩ = some (.int .u64 0) := cell_of_block hC5.r0 rfl; have y1 : w5.cell? ⟨w.heap.size + 1, 1, none⟩ = some (.slice none 0 0) := cell_of_block hC5.r0 rfl; have y2 : w5.cell? ⟨w.heap.size + 1, 2, none⟩ = some (.slice none 0 0) := cell_of_block hC5.r0 rfl; have y3 : w5.cell? ⟨w.heap.size + 1, 3, none⟩ = some (.pointer none) := cell_of_block hC5.r0 rfl; have y4 : w5.cell? ⟨w.heap.size + 1, 4, none⟩ = some (.int .u32 0) := cell_of_block hC5.r0 rfl; have g0 := free_of_block (o := 0) hC5.r0; have g1 := free_of_block (o := 1) hC5.r0; have g2 := free_of_block (o := 2) hC5.r0; have g3 := free_of_block (o := 3) hC5.r0; have g4 := free_of_block (o := 4) hC5.r0)
    have s6 := hb6.size
    simp at s6
    have hT7 := (hT5.below ((Below.refl _ _).alloc (Nat.le_refl _) _)).below hb6
    have hO7 := (hO5.below ((Below.refl _ _).alloc (Nat.le_refl _) _)).below hb6
    have hlt1 : 0 < len1 → b1' < wc.heap.size := fun h0 => World.block_lt_of_cell? wc _ (hT5.c0 0 h0)
    have hlt2 : 0 < len2 → b2' < wc.heap.size := fun h0 => World.block_lt_of_cell? wc _ (hO5.c0 0 h0)
    have k1 : 0 < len1 → b1' ≠ wc.heap.size := fun h0 => by have := hlt1 h0; omega
    have k2 : 0 < len1 → b1' ≠ w.heap.size + 1 + 1 := fun h0 => by have := hn1 h0; omega
    have k3 : 0 < len1 → b1' ≠ w.heap.size + 1 := fun h0 => by have := hn1 h0; omega
    have l1 : 0 < len2 → b2' ≠ wc.heap.size := fun h0 => by have := hlt2 h0; omega
    have l2 : 0 < len2 → b2' ≠ w.heap.size + 1 + 1 := fun h0 => by have := hn2 h0; omega
    have l3 : 0 < len2 → b2' ≠ w.heap.size + 1 := fun h0 => by have := hn2 h0; omega
    have m0 : 0 < d.len → wc.heap.size + 1 ≤ b3' := fun h0 => by have := hbb6 h0; simpa using this
    have m1 : 0 < d.len → b3' ≠ wc.heap.size := fun h0 => by have := m0 h0; omega
    have m2 : 0 < d.len → b3' ≠ w.heap.size + 1 + 1 := fun h0 => by have := m0 h0; omega
    have m3 : 0 < d.len → b3' ≠ w.heap.size + 1 := fun h0 => by have := m0 h0; omega
    refine bodyPost_ret (v := .agg #[.int .u64 ep, .slice a1' len1 c1', .slice a2' len2 c2', .pointer (some ⟨wc.heap.size, 0, none⟩), .int .u32 jn]) (by simp [results, Try.results36, go_sem, y0, y1, y2, y3, y4]) rfl ⟨a1', c1', b1', o1', a2', c2', b2', o2', wc.heap.size, a3', c3', b3', o3', rfl, ?_, ?_, ?_, ?_, fun h0 => by have := hn1 h0; omega, fun h0 => by have := hn2 h0; omega, by omega, fun h0 => by have := m0 h0; omega⟩
    · exact ((((((hT7.set k1 _ _).set k2 _ _).set k3 _ _).set k3 _ _).set k3 _ _).set k3 _ _).set k3 _ _
    · exact ((((((hO7.set l1 _ _).set l2 _ _).set l3 _ _).set l3 _ _).set l3 _ _).set l3 _ _).set l3 _ _
    · refine PendAt.of_block (d := d) (ad := a3') (cap := c3') (t := 83) ?_ ((((((((hT6).set m1 _ _).set m2 _ _).set m3 _ _).set m3 _ _).set m3 _ _).set m3 _ _).set m3 _ _)
      have hPf := heap_setCell_same _ _ 8 _ _ (.slice a3' d.len c3') hN
      rw [heap_setCell_other _ _ _ _ (by exact n2), heap_setCell_other _ _ _ _ (by exact n2), heap_setCell_other _ _ _ _ (by exact n2), heap_setCell_other _ _ _ _ (by exact n2), heap_setCell_other _ _ _ _ (by exact n2), heap_setCell_other _ _ _ _ (by exact n1)]
      exact hPf
    · have hw5 : w.heap.size ≤ wc.heap.size := by omega
      exact ((((((hC5.bel.setCell hw5 _).setCell (by simp; omega) _).setCell (by simp) _).setCell (by simp) _).setCell (by simp) _).setCell (by simp) _).setCell (by simp) _
end Go.Proofs.Qxb6000359a
