import Derived.Test.Qxb6000359aPend
namespace Go.Proofs.Qxb6000359a
open Go.RowKit

def mC (ep : Int) (v1 v2 v3 : Value) (jn : Int) : Array Value := #[.int .u64 ep, v1, v2, v3, .int .u32 jn]

/-- buildMembers on the way: its result's block R, its variable's block R + 1 (cells c); the peers' row. -/
structure BM (w : World) (R : Nat) (c : Array Value) (wc : World) : Prop where
  r0 : wc.heap[R]? = some (.cells (mC 0 (.slice none 0 0) (.slice none 0 0) (.pointer none) 0) 60 (0, 0))
  m0 : wc.heap[R + 1]? = some (.cells c 60 (0, 0))
  hR : R = w.heap.size
  bel : Below w.heap.size w wc

theorem BM.below {w : World} {R : Nat} {c : Array Value} {wc w' : World} (h : BM w R c wc) (hb : Below wc.heap.size wc w') : BM w R c w' :=
  ⟨(hb.block _ (lt_of_block h.r0)).trans h.r0, (hb.block _ (lt_of_block h.m0)).trans h.m0, h.hR, h.bel.trans (hb.mono h.bel.size)⟩
theorem BM.set {w : World} {R : Nat} {c : Array Value} {wc : World} (h : BM w R c wc) (o : Nat) (v : Value) : BM w R (c.setIfInBounds o v) (wc.setCell ⟨R + 1, o, none⟩ v) :=
  ⟨by rw [heap_setCell_other _ _ _ _ (by simp)]; exact h.r0, by rw [heap_setCell_same _ _ _ _ _ _ h.m0], h.hR, h.bel.setCell (by have := h.hR; simp; omega) _⟩

theorem Ones.set {w : World} {ad : Option Addr} {len cap : Nat} {A : Nat → Int} {b off : Nat} (h : Ones w ad len cap A b off) {G : Nat} (hG : 0 < len → b ≠ G) (o : Nat) (v : Value) : Ones (w.setCell ⟨G, o, none⟩ v) ad len cap A b off :=
  ⟨h.nil, h.at_, fun i hi => (World.cell?_of_block (w := w) (Below.heap_setCell _ _ _ _ (hG (by omega)))).trans (h.c0 i hi)⟩

theorem BM.start {w w1 : World} {c : Array Value} (hb : Below ((w.alloc (.cells (mC 0 (.slice none 0 0) (.slice none 0 0) (.pointer none) 0) 60)).alloc (.cells c 60)).heap.size ((w.alloc (.cells (mC 0 (.slice none 0 0) (.slice none 0 0) (.pointer none) 0) 60)).alloc (.cells c 60)) w1) : BM w w.heap.size c w1 := by
  refine ⟨?_, ?_, rfl, (((Below.refl _ _).alloc (Nat.le_refl _) _).alloc (by simp) _).trans (hb.mono (by simp; omega))⟩
  · rw [hb.block _ (by simp; omega), Below.heap_alloc _ _ _ (by simp)]; exact heap_alloc_new _ _
  · rw [hb.block _ (by simp)]
    have := heap_alloc_new (w.alloc (.cells (mC 0 (.slice none 0 0) (.slice none 0 0) (.pointer none) 0) 60)) (.cells c 60)
    simpa using this
theorem BM.cell {w : World} {R : Nat} {c : Array Value} {wc : World} (h : BM w R c wc) {o : Nat} {v : Value} (hv : c[o]? = some v) : wc.cell? ⟨R + 1, o, none⟩ = some v := cell_of_block h.m0 hv
theorem BM.free {w : World} {R : Nat} {c : Array Value} {wc : World} (h : BM w R c wc) (o : Nat) : wc.frozen? ⟨R + 1, o, none⟩ = false := free_of_block h.m0

theorem BM.other {w : World} {R : Nat} {c : Array Value} {wc : World} (h : BM w R c wc) {G : Nat} (hG : R + 1 < G) (o : Nat) (v : Value) : BM w R c (wc.setCell ⟨G, o, none⟩ v) :=
  ⟨by rw [heap_setCell_other _ _ _ _ (by simp; omega)]; exact h.r0, by rw [heap_setCell_other _ _ _ _ (by simp; omega)]; exact h.m0, h.hR, h.bel.setCell (by have := h.hR; simp; omega) _⟩

set_option maxRecDepth 100000 in
set_option maxHeartbeats 4000000 in
theorem build_nil (ep : Int) (a1 : Option Addr) (len1 cap1 : Nat) (A : Nat → Int) (B : Nat → ByteArray) (C : Nat → Int) (b1 o1 : Nat) (a2 : Option Addr) (len2 cap2 : Nat) (L : Nat → Int) (b2 o2 : Nat) (jn : Int) (w : World)
    (hl1 : len1 ≤ 1000000) (hl2 : len2 ≤ 1000000) (h1 : Trip w a1 len1 cap1 A B C b1 o1) (h2 : Ones w a2 len2 cap2 L b2 o2) :
    Calls Try.prog 27 #[.int .u64 ep, .slice a1 len1 cap1, .slice a2 len2 cap2, .pointer none, .int .u32 jn] w fun e w' =>
      ∃ (a1' : Option Addr) (c1' b1' o1' : Nat) (a2' : Option Addr) (c2' b2' o2' : Nat), e = .returned (.agg #[.int .u64 ep, .slice a1' len1 c1', .slice a2' len2 c2', .pointer none, .int .u32 jn]) ∧ Trip w' a1' len1 c1' A B C b1' o1' ∧ Ones w' a2' len2 c2' L b2' o2' ∧ Below w.heap.size w w' := by
  have hnil := fun (wx : World) (ad : Option Addr) (n c : Nat) => run_neq_slice_nil_any (P := Try.prog) wx 47 49 ad n c 0 0 Try.underlying47
  have hmk := run_make_row' (P := Try.prog) 56 58 (.int .u32 0) 4 Try.underlying56 info58 rfl .i64 .i64 len2 (by omega) (by omega)
  have ct := fun c c' => buildPeers_any a1 len1 cap1 A B C b1 o1 ((w.alloc (.cells c 60)).alloc (.cells c' 60)) hl1 (h1.below (((Below.refl _ _).alloc (Nat.le_refl _) _).alloc (by simp) _))
  go_enter Try.func27, Try.ntmps27
  go_upto_if 23 with (go_at_call 35; refine (ct _ _).mono ?_; rintro e w1 ⟨a1', c1', b1', o1', rfl, hT, hb, hbb⟩; have hM := BM.start hb; have z1 : w1.cell? ⟨w.heap.size + 1, 1, none⟩ = some (.slice none 0 0) := hM.cell rfl; have f1 := hM.free 1)
  have hM2 : BM w w.heap.size (mC ep (.slice a1' len1 c1') (.slice none 0 0) (.pointer none) jn) (w1.setCell ⟨w.heap.size + 1, 1, none⟩ (.slice a1' len1 c1')) := hM.set 1 (.slice a1' len1 c1')
  have hne1 : 0 < len1 → w.heap.size + 1 < b1' := fun h0 => by have := hbb h0; simp at this; omega
  have hT2 := hT.set (G := w.heap.size + 1) (fun h0 => by have := hne1 h0; omega) 1 (.slice a1' len1 c1')
  have hO2 := h2.below hM2.bel
  have hz := lt_of_block hM2.m0
  obtain ⟨w2, hw2⟩ : ∃ w2, w2 = w1.setCell ⟨w.heap.size + 1, 1, none⟩ (.slice a1' len1 c1') := ⟨_, rfl⟩
  rw [← hw2] at hM2 hT2 hO2 hz ⊢
  have hlt1 : 0 < len1 → b1' < w2.heap.size := fun h0 => World.block_lt_of_cell? w2 _ (hT2.c0 0 h0)
  have hlt2 : 0 < len2 → b2 < w2.heap.size := fun h0 => World.block_lt_of_cell? w2 _ (hO2.c0 0 h0)
  clear hw2 hT hM z1 f1 hb hbb ct
  go_cut [] (fun wc => ∃ (a2' : Option Addr) (c2' b2' o2' : Nat), BM w w.heap.size (mC ep (.slice a1' len1 c1') (.slice a2' len2 c2') (.pointer none) jn) wc ∧ Trip wc a1' len1 c1' A B C b1' o1' ∧ Ones wc a2' len2 c2' L b2' o2' ∧ (0 < len2 → w.heap.size + 1 < b2'))
  case first =>
    cases a2 with
    | none =>
      obtain ⟨rfl, rfl⟩ := h2.nil rfl
      go_wp2_with fail
      go_meet
      case rel => exact ⟨none, 0, b2, o2, hM2, hT2, hO2, fun h0 => absurd h0 (by omega)⟩
    | some a =>
      go_wp2_with fail
      go_loopw [13] (fun i wr => ∃ k : Nat, k ≤ len2 ∧ i = .int .i64 k ∧ BM w w.heap.size (mC ep (.slice a1' len1 c1') (.slice none 0 0) (.pointer none) jn) wr ∧ Trip wr a1' len1 c1' A B C b1' o1' ∧ Ones wr (some a) len2 cap2 L b2 o2 ∧ OneRow wr w2.heap.size 58 len2 k (fun i => .int .u32 (L i))) (fun i _ => len2 - (intOf i).toNat)
      case atStart => 
        have hbl := (Below.refl w2.heap.size w2).alloc (Nat.le_refl _) (.cells (madeCells #[.int .u32 0] len2) 58)
        exact ⟨0, Nat.zero_le _, rfl, hM2.below hbl, hT2.below hbl, hO2.below hbl, OneRow.made _ _ _ _ _⟩
      case round =>
        clear hM2 hT2 hO2
        obtain ⟨k, hk, rfl, hM2, hT2, hO2, hrow⟩ := hrel
        by_cases hlt : k < len2
        · obtain rfl : a = ⟨b2, o2, none⟩ := by simpa using hO2.at_ (by omega)
          have c0 := hO2.c0 k hlt
          have f0 := hrow.free k
          obtain ⟨x0, d0⟩ := hrow.some1 hlt
          go_wp2
          go_roundw
          case rel => exact ⟨k + 1, by omega, by go_num, hM2.other hz k _, hT2.set (fun h0 => by have := hlt1 h0; omega) k _, hO2.set (fun h0 => by have := hlt2 h0; omega) k _, hrow.store⟩
          case measure => simp [intOf]; omega
        · have z2 : wr.cell? ⟨w.heap.size + 1, 2, none⟩ = some (.slice none 0 0) := hM2.cell rfl
          have f2 := hM2.free 2
          go_wp2_with fail
          go_meet
          case rel =>
            obtain rfl : k = len2 := by omega
            exact ⟨_, _, _, _, hM2.set 2 _, hT2.set (fun h0 => by have := hne1 h0; omega) 2 _, (hrow.ones (cap := k)).set (fun _ => by omega) 2 _, fun _ => hz⟩
  case rest =>
    obtain ⟨a2', c2', b2', o2', hM3, hT3, hO3, hne2⟩ := hcut
    have z0 : wc.cell? ⟨w.heap.size + 1, 0, none⟩ = some (.int .u64 ep) := hM3.cell rfl
    have z1 : wc.cell? ⟨w.heap.size + 1, 1, none⟩ = some (.slice a1' len1 c1') := hM3.cell rfl
    have z2 : wc.cell? ⟨w.heap.size + 1, 2, none⟩ = some (.slice a2' len2 c2') := hM3.cell rfl
    have z3 : wc.cell? ⟨w.heap.size + 1, 3, none⟩ = some (.pointer none) := hM3.cell rfl
    have z4 : wc.cell? ⟨w.heap.size + 1, 4, none⟩ = some (.int .u32 jn) := hM3.cell rfl
    have y0 : wc.cell? ⟨w.heap.size, 0, none⟩ = some (.int .u64 0) := cell_of_block hM3.r0 rfl
    have y1 : wc.cell? ⟨w.heap.size, 1, none⟩ = some (.slice none 0 0) := cell_of_block hM3.r0 rfl
    have y2 : wc.cell? ⟨w.heap.size, 2, none⟩ = some (.slice none 0 0) := cell_of_block hM3.r0 rfl
    have y3 : wc.cell? ⟨w.heap.size, 3, none⟩ = some (.pointer none) := cell_of_block hM3.r0 rfl
    have y4 : wc.cell? ⟨w.heap.size, 4, none⟩ = some (.int .u32 0) := cell_of_block hM3.r0 rfl
    have g0 := free_of_block (o := 0) hM3.r0
    have g1 := free_of_block (o := 1) hM3.r0
    have g2 := free_of_block (o := 2) hM3.r0
    have g3 := free_of_block (o := 3) hM3.r0
    have g4 := free_of_block (o := 4) hM3.r0
    go_wp2_with fail
    have q1 : 0 < len1 → b1' ≠ w.heap.size := fun h0 => by have := hne1 h0; omega
    have q2 : 0 < len2 → b2' ≠ w.heap.size := fun h0 => by have := hne2 h0; omega
    refine bodyPost_ret (v := .agg #[.int .u64 ep, .slice a1' len1 c1', .slice a2' len2 c2', .pointer none, .int .u32 jn]) (by simp [results, Try.results27, go_sem, y0, y1, y2, y3, y4]) rfl ⟨a1', c1', b1', o1', a2', c2', b2', o2', rfl, ?_, ?_, ?_⟩
    · exact ((((hT3.set q1 _ _).set q1 _ _).set q1 _ _).set q1 _ _).set q1 _ _
    · exact ((((hO3.set q2 _ _).set q2 _ _).set q2 _ _).set q2 _ _).set q2 _ _
    · exact ((((hM3.bel.setCell (Nat.le_refl _) _).setCell (Nat.le_refl _) _).setCell (Nat.le_refl _) _).setCell (Nat.le_refl _) _).setCell (Nat.le_refl _) _
end Go.Proofs.Qxb6000359a
