import Derived.Test.Qxb6000359aBuild
namespace Go.Proofs.Qxb6000359a
open Go.RowKit

set_option maxRecDepth 100000 in
set_option maxHeartbeats 4000000 in
theorem build_some (ep : Int) (a1 : Option Addr) (len1 cap1 : Nat) (A : Nat → Int) (B : Nat → ByteArray) (C : Nat → Int) (b1 o1 : Nat) (a2 : Option Addr) (len2 cap2 : Nat) (L : Nat → Int) (b2 o2 : Nat) (pb po : Nat) (d : PD) (a3 : Option Addr) (c3 b3 o3 : Nat) (jn : Int) (w : World)
    (hl1 : len1 ≤ 1000000) (hl2 : len2 ≤ 1000000) (h1 : Trip w a1 len1 cap1 A B C b1 o1) (h2 : Ones w a2 len2 cap2 L b2 o2) (hl3 : d.len ≤ 1000000) (h3 : PendAt w pb po d a3 c3 b3 o3) :
    Calls Try.prog 27 #[.int .u64 ep, .slice a1 len1 cap1, .slice a2 len2 cap2, .pointer (some ⟨pb, po, none⟩), .int .u32 jn] w fun e w' =>
      ∃ (a1' : Option Addr) (c1' b1' o1' : Nat) (a2' : Option Addr) (c2' b2' o2' P : Nat) (a3' : Option Addr) (c3' b3' o3' : Nat), e = .returned (.agg #[.int .u64 ep, .slice a1' len1 c1', .slice a2' len2 c2', .pointer (some ⟨P, 0, none⟩), .int .u32 jn]) ∧ Trip w' a1' len1 c1' A B C b1' o1' ∧ Ones w' a2' len2 c2' L b2' o2' ∧ PendAt w' P 0 d a3' c3' b3' o3' ∧ Below w.heap.size w w' := by
  have hnil := fun (wx : World) (ad : Option Addr) (n c : Nat) => run_neq_slice_nil_any (P := Try.prog) wx 47 49 ad n c 0 0 Try.underlying47
  have hmk := run_make_row' (P := Try.prog) 56 58 (.int .u32 0) 4 Try.underlying56 info58 rfl .i64 .i64 len2 (by omega) (by omega)
  have ct := fun c c' => buildPeers_any a1 len1 cap1 A B C b1 o1 ((w.alloc (.cells c 60)).alloc (.cells c' 60)) hl1 (h1.below (((Below.refl _ _).alloc (Nat.le_refl _) _).alloc (by simp) _))
  go_enter Try.func27, Try.ntmps27
  go_upto_if 23 with (go_at_call 35; refine (ct _ _).mono ?_; rintro e w1 ⟨a1', c1', b1', o1', rfl, hT, hb, hbb⟩; have hM := BM.start hb; have z1 : w1.cell? ⟨w.heap.size + 1, 1, none⟩ = some (.slice none 0 0) := hM.cell rfl; have f1 := hM.free 1)
  have hM2 : BM w w.heap.size (mC ep (.slice a1' len1 c1') (.slice none 0 0) (.pointer none) jn) (w1.setCell ⟨w.heap.size + 1, 1, none⟩ (.slice a1' len1 c1')) := hM.set 1 (.slice a1' len1 c1')
  have hne1 : 0 < len1 → w.heap.size + 1 < b1' := fun h0 => by have := hbb h0; simp at this; omega
  have hT2 := hT.set (G := w.heap.size + 1) (fun h0 => by have := hne1 h0; omega) 1 (.slice a1' len1 c1')
  have hO2 := h2.below hM2.bel
  have hz := lt_of_block hM2.m0
  obtain ⟨w2, hw2⟩ : ∃ w2, w2 = w1.setCell ⟨w.heap.size + 1, 1, none⟩ (.slice a1' len1 c1') := ⟨_, rfl⟩
  rw [← hw2] at hM2 hT2 hO2 hz ⊢
  have hlt1 : 0 < len1 → b1' < w2.heap.size := fun h0 => World.block_lt_of_cell? w2 _ (hT2.c0 0 h0)
  have hlt2 : 0 < len2 → b2 < w2.heap.size := fun h0 => World.block_lt_of_cell? w2 _ (hO2.c0 0 h0)
  clear hw2 hT hM z1 f1 hb hbb ct
  go_cut [] (fun wc => ∃ (a2' : Option Addr) (c2' b2' o2' : Nat), BM w w.heap.size (mC ep (.slice a1' len1 c1') (.slice a2' len2 c2') (.pointer none) jn) wc ∧ Trip wc a1' len1 c1' A B C b1' o1' ∧ Ones wc a2' len2 c2' L b2' o2' ∧ (0 < len2 → w.heap.size + 1 < b2'))
  case first =>
    cases a2 with
    | none =>
      obtain ⟨rfl, rfl⟩ := h2.nil rfl
      go_wp2_with fail
      go_meet
      case rel => exact ⟨none, 0, b2, o2, hM2, hT2, hO2, fun h0 => absurd h0 (by omega)⟩
    | some a =>
      go_wp2_with fail
      go_loopw [13] (fun i wr => ∃ k : Nat, k ≤ len2 ∧ i = .int .i64 k ∧ BM w w.heap.size (mC ep (.slice a1' len1 c1') (.slice none 0 0) (.pointer none) jn) wr ∧ Trip wr a1' len1 c1' A B C b1' o1' ∧ Ones wr (some a) len2 cap2 L b2 o2 ∧ OneRow wr w2.heap.size 58 len2 k (fun i => .int .u32 (L i))) (fun i _ => len2 - (intOf i).toNat)
      case atStart => 
        have hbl := (Below.refl w2.heap.size w2).alloc (Nat.le_refl _) (.cells (madeCells #[.int .u32 0] len2) 58)
        exact ⟨0, Nat.zero_le _, rfl, hM2.below hbl, hT2.below hbl, hO2.below hbl, OneRow.made _ _ _ _ _⟩
      case round =>
        clear hM2 hT2 hO2
        obtain ⟨k, hk, rfl, hM2, hT2, hO2, hrow⟩ := hrel
        by_cases hlt : k < len2
        · obtain rfl : a = ⟨b2, o2, none⟩ := by simpa using hO2.at_ (by omega)
          have c0 := hO2.c0 k hlt
          have f0 := hrow.free k
          obtain ⟨x0, d0⟩ := hrow.some1 hlt
          go_wp2
          go_roundw
          case rel => exact ⟨k + 1, by omega, by go_num, hM2.other hz k _, hT2.set (fun h0 => by have := hlt1 h0; omega) k _, hO2.set (fun h0 => by have := hlt2 h0; omega) k _, hrow.store⟩
          case measure => simp [intOf]; omega
        · have z2 : wr.cell? ⟨w.heap.size + 1, 2, none⟩ = some (.slice none 0 0) := hM2.cell rfl
          have f2 := hM2.free 2
          go_wp2_with fail
          go_meet
          case rel =>
            obtain rfl : k = len2 := by omega
            exact ⟨_, _, _, _, hM2.set 2 _, hT2.set (fun h0 => by have := hne1 h0; omega) 2 _, (hrow.ones (cap := k)).set (fun _ => by omega) 2 _, fun _ => hz⟩
  case rest =>
    obtain ⟨a2', c2', b2', o2', hM3, hT3, hO3, hne2⟩ := hcut
    have h3' := h3.below hM3.bel
    obtain ⟨e0, e1, e2, e3, e4, e5, e6, e7, e8, e9, e10⟩ := h3'.all
    have hpb := h3'.lt
    have hwz := lt_of_block hM3.m0
    clear hM2 hT2 hO2 hlt1 hlt2 hz h1 h2 h3 hnil hmk
    go_wp2_with fail
    go_region
    go_wp2_with fail
    go_region
    go_upto_region 17 with fail
    have hB3 : Below wc.heap.size wc (wc.alloc (.cells #[.int .u32 d.o, .int .u64 d.i, .int .u64 d.s, .int .u32 d.p, .string d.pa, .bool d.rm, .string d.rf, .int .u64 d.fr, .slice none 0 0, .bool false, .bool false] 83)).drew.drew := ((Below.refl _ _).alloc (Nat.le_refl _) _).drew.drew
    have hP3 : (wc.alloc (.cells #[.int .u32 d.o, .int .u64 d.i, .int .u64 d.s, .int .u32 d.p, .string d.pa, .bool d.rm, .string d.rf, .int .u64 d.fr, .slice none 0 0, .bool false, .bool false] 83)).drew.drew.heap[wc.heap.size]? = some (.cells #[.int .u32 d.o, .int .u64 d.i, .int .u64 d.s, .int .u32 d.p, .string d.pa, .bool d.rm, .string d.rf, .int .u64 d.fr, .slice none 0 0, .bool false, .bool false] 83 (0, 0)) := heap_alloc_new wc _
    generalize (wc.alloc (.cells #[.int .u32 d.o, .int .u64 d.i, .int .u64 d.s, .int .u32 d.p, .string d.pa, .bool d.rm, .string d.rf, .int .u64 d.fr, .slice none 0 0, .bool false, .bool false] 83)).drew.drew = w3 at hB3 hP3 ⊢
    have hM4 := hM3.below hB3
    have hT4 := hT3.below hB3
    have hO4 := hO3.below hB3
    have hPd := h3'.below hB3
    have u8' : w3.cell? ⟨pb, po + 8, none⟩ = some (.slice a3 d.len c3) := hPd.all.2.2.2.2.2.2.2.2.1
    have hlt1 : 0 < len1 → b1' < wc.heap.size := fun h0 => World.block_lt_of_cell? wc _ (hT3.c0 0 h0)
    have hlt2 : 0 < len2 → b2' < wc.heap.size := fun h0 => World.block_lt_of_cell? wc _ (hO3.c0 0 h0)
    clear hM3 hT3 hO3 h3' e0 e1 e2 e3 e4 e5 e6 e7 e8 e9 e10
    have ct3 := buildPeers_any a3 d.len c3 d.A d.B d.C b3 o3 w3 hl3 hPd.trip
    have hPl := lt_of_block hP3
    have n1 : wc.heap.size ≠ w.heap.size + 1 := by omega
    have n2 : wc.heap.size ≠ w.heap.size := by omega
    have n3 : w.heap.size + 1 ≠ wc.heap.size := by omega
    have n4 : w.heap.size ≠ wc.heap.size := by omega
    have n5 : pb ≠ wc.heap.size := by omega
    have n6 : wc.heap.size ≠ pb := by omega
    go_wp2_with (go_at_call 35; refine ct3.mono ?_; rintro e w4 ⟨a3', c3', b3', o3', rfl, hT5, hb5, hbb5⟩; have hP5 := (hb5.block wc.heap.size hPl).trans hP3; have hM5 := hM4.below hb5; have hPd5 := (hPd.below hb5).all; have x8 : w4.cell? ⟨wc.heap.size, 8, none⟩ = some (.slice none 0 0) := cell_of_block hP5 rfl; have x9 : w4.cell? ⟨wc.heap.size, 9, none⟩ = some (.bool false) := cell_of_block hP5 rfl; have x10 : w4.cell? ⟨wc.heap.size, 10, none⟩ = some (.bool false) := cell_of_block hP5 rfl; have p8 := free_of_block (o := 8) hP5; have p9 := free_of_block (o := 9) hP5; have p10 := free_of_block (o := 10) hP5; have v9 := hPd5.2.2.2.2.2.2.2.2.2.1; have v10 := hPd5.2.2.2.2.2.2.2.2.2.2; have z0 : w4.cell? ⟨w.heap.size + 1, 0, none⟩ = some (.int .u64 ep) := hM5.cell rfl; have z1 : w4.cell? ⟨w.heap.size + 1, 1, none⟩ = some (.slice a1' len1 c1') := hM5.cell rfl; have z2 : w4.cell? ⟨w.heap.size + 1, 2, none⟩ = some (.slice a2' len2 c2') := hM5.cell rfl; have z3 : w4.cell? ⟨w.heap.size + 1, 3, none⟩ = some (.pointer none) := hM5.cell rfl; have z4 : w4.cell? ⟨w.heap.size + 1, 4, none⟩ = some (.int .u32 jn) := hM5.cell rfl; have f3 := hM5.free 3; have y0 : w4.cell? ⟨w.heap.size, 0, none⟩ = some (.int .u64 0) := cell_of_block hM5.r0 rfl; have y1 : w4.cell? ⟨w.heap.size, 1, none⟩ = some (.slice none 0 0) := cell_of_block hM5.r0 rfl; have y2 : w4.cell? ⟨w.heap.size, 2, none⟩ = some (.slice none 0 0) := cell_of_block hM5.r0 rfl; have y3 : w4.cell? ⟨w.heap.size, 3, none⟩ = some (.pointer none) := cell_of_block hM5.r0 rfl; have y4 : w4.cell? ⟨w.heap.size, 4, none⟩ = some (.int .u32 0) := cell_of_block hM5.r0 rfl; have g0 := free_of_block (o := 0) hM5.r0; have g1 := free_of_block (o := 1) hM5.r0; have g2 := free_of_block (o := 2) hM5.r0; have g3 := free_of_block (o := 3) hM5.r0; have g4 := free_of_block (o := 4) hM5.r0; clear hPd5)
    have k1 : 0 < len1 → b1' ≠ wc.heap.size := fun h0 => by have := hlt1 h0; omega
    have k2 : 0 < len1 → b1' ≠ w.heap.size + 1 := fun h0 => by have := hne1 h0; omega
    have k3 : 0 < len1 → b1' ≠ w.heap.size := fun h0 => by have := hne1 h0; omega
    have l1 : 0 < len2 → b2' ≠ wc.heap.size := fun h0 => by have := hlt2 h0; omega
    have l2 : 0 < len2 → b2' ≠ w.heap.size + 1 := fun h0 => by have := hne2 h0; omega
    have l3 : 0 < len2 → b2' ≠ w.heap.size := fun h0 => by have := hne2 h0; omega
    have hz3 := hB3.size
    have m1 : 0 < d.len → b3' ≠ wc.heap.size := fun h0 => by have := hbb5 h0; omega
    have m2 : 0 < d.len → b3' ≠ w.heap.size + 1 := fun h0 => by have := hbb5 h0; omega
    have m3 : 0 < d.len → b3' ≠ w.heap.size := fun h0 => by have := hbb5 h0; omega
    refine bodyPost_ret (v := .agg #[.int .u64 ep, .slice a1' len1 c1', .slice a2' len2 c2', .pointer (some ⟨wc.heap.size, 0, none⟩), .int .u32 jn]) (by simp [results, Try.results27, go_sem, y0, y1, y2, y3, y4]) rfl ⟨a1', c1', b1', o1', a2', c2', b2', o2', wc.heap.size, a3', c3', b3', o3', rfl, ?_, ?_, ?_, ?_⟩
    · exact (((((((((hT4.below hb5).set k1 _ _).set k1 _ _).set k1 _ _).set k2 _ _).set k3 _ _).set k3 _ _).set k3 _ _).set k3 _ _).set k3 _ _
    · exact (((((((((hO4.below hb5).set l1 _ _).set l1 _ _).set l1 _ _).set l2 _ _).set l3 _ _).set l3 _ _).set l3 _ _).set l3 _ _).set l3 _ _
    · refine PendAt.of_block (d := d) (ad := a3') (cap := c3') (t := 83) ?_ ((((((((((hT5).set m1 _ _).set m1 _ _).set m1 _ _).set m2 _ _).set m3 _ _).set m3 _ _).set m3 _ _).set m3 _ _).set m3 _ _)
      have hPf := heap_setCell_same _ _ 10 _ _ (.bool d.vt) (heap_setCell_same _ _ 9 _ _ (.bool d.aw) (heap_setCell_same _ _ 8 _ _ (.slice a3' d.len c3') hP5))
      rw [heap_setCell_other _ _ _ _ (by exact n2), heap_setCell_other _ _ _ _ (by exact n2), heap_setCell_other _ _ _ _ (by exact n2), heap_setCell_other _ _ _ _ (by exact n2), heap_setCell_other _ _ _ _ (by exact n2), heap_setCell_other _ _ _ _ (by exact n1)]
      exact hPf
    · have hw5 : w.heap.size ≤ wc.heap.size := by omega
      exact ((((((((hM5.bel.setCell hw5 _).setCell hw5 _).setCell hw5 _).setCell (by simp) _).setCell (Nat.le_refl _) _).setCell (Nat.le_refl _) _).setCell (Nat.le_refl _) _).setCell (Nat.le_refl _) _).setCell (Nat.le_refl _) _
end Go.Proofs.Qxb6000359a
