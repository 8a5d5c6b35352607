import Derived.Test.Qxb6000359aGuard
import Derived.Test.Qxb6000359aSame
import Derived.Test.Qxb6000359aCloneM
import Derived.Test.Qxb6000359aBuildSome
namespace Go.Proofs.Qxb6000359a
open Go.RowKit

theorem below_dN (B : Nat) (w : World) (n : Nat) : Below B w (w.drewN n) := ⟨rfl, rfl, rfl, Nat.le_refl _, fun _ _ => rfl⟩

theorem PendAt.set {w : World} {b off : Nat} {d : PD} {ad : Option Addr} {cap pb poff : Nat} (h : PendAt w b off d ad cap pb poff) {G : Nat} (hb : b ≠ G) (hG : 0 < d.len → pb ≠ G) (o : Nat) (v : Value) : PendAt (w.setCell ⟨G, o, none⟩ v) b off d ad cap pb poff :=
  ⟨fun j u hj => (World.cell?_of_block (w := w) (Below.heap_setCell _ _ _ _ hb)).trans (h.cell j u hj), h.trip.set hG o v⟩

set_option maxHeartbeats 1000000 in
theorem zzClone_nil (ep : Int) (a1 : Option Addr) (len1 cap1 : Nat) (A : Nat → Int) (B : Nat → ByteArray) (C : Nat → Int) (b1 o1 : Nat) (a2 : Option Addr) (len2 cap2 : Nat) (L : Nat → Int) (b2 o2 : Nat) (jn : Int) (w : World)
    (hl1 : len1 ≤ 1000000) (hl2 : len2 ≤ 1000000) (h1 : Trip w a1 len1 cap1 A B C b1 o1) (h2 : Ones w a2 len2 cap2 L b2 o2) :
    Calls Try.prog 28 #[.agg #[.int .u64 ep, .slice a1 len1 cap1, .slice a2 len2 cap2, .pointer none, .int .u32 jn]] w fun e w' =>
      ∃ (a1' : Option Addr) (c1' b1' o1' : Nat) (a2' : Option Addr) (c2' b2' o2' : Nat), e = .returned (.agg #[.int .u64 ep, .slice a1' len1 c1', .slice a2' len2 c2', .pointer none, .int .u32 jn]) ∧ Trip w' a1' len1 c1' A B C b1' o1' ∧ Ones w' a2' len2 c2' L b2' o2' ∧ Below w.heap.size w w' := by
  go_enter Try.func28, Try.ntmps28
  go_wp2_with fail
  have hb0 : Below w.heap.size w ((w.alloc (.cells #[.int .u64 ep, .slice a1 len1 cap1, .slice a2 len2 cap2, .pointer none, .int .u32 jn] 60)).alloc (.cells #[.int .u64 0, .slice none 0 0, .slice none 0 0, .pointer none, .int .u32 0] 60)) := ((Below.refl _ _).alloc (Nat.le_refl _) _).alloc (by simp) _
  have hR : ((w.alloc (.cells #[.int .u64 ep, .slice a1 len1 cap1, .slice a2 len2 cap2, .pointer none, .int .u32 jn] 60)).alloc (.cells #[.int .u64 0, .slice none 0 0, .slice none 0 0, .pointer none, .int .u32 0] 60)).heap[w.heap.size + 1]? = some (.cells #[.int .u64 0, .slice none 0 0, .slice none 0 0, .pointer none, .int .u32 0] 60 (0, 0)) := by
    have := heap_alloc_new (w.alloc (.cells #[.int .u64 ep, .slice a1 len1 cap1, .slice a2 len2 cap2, .pointer none, .int .u32 jn] 60)) (.cells #[.int .u64 0, .slice none 0 0, .slice none 0 0, .pointer none, .int .u32 0] 60)
    simpa using this
  generalize ((w.alloc (.cells #[.int .u64 ep, .slice a1 len1 cap1, .slice a2 len2 cap2, .pointer none, .int .u32 jn] 60)).alloc (.cells #[.int .u64 0, .slice none 0 0, .slice none 0 0, .pointer none, .int .u32 0] 60)) = w3 at hb0 hR ⊢
  refine (clone_nil ep a1 len1 cap1 A B C b1 o1 a2 len2 cap2 L b2 o2 jn _ hl1 hl2 (h1.below hb0) (h2.below hb0)).mono ?_
  rintro e w5 ⟨a1', c1', b1', o1', a2', c2', b2', o2', rfl, hT, hO, hb, hn1, hn2⟩
  have hRl := lt_of_block hR
  have hR5 := (hb.block _ hRl).trans hR
  have y0 : w5.cell? ⟨w.heap.size + 1, 0, none⟩ = some (.int .u64 0) := cell_of_block hR5 rfl
  have y1 : w5.cell? ⟨w.heap.size + 1, 1, none⟩ = some (.slice none 0 0) := cell_of_block hR5 rfl
  have y2 : w5.cell? ⟨w.heap.size + 1, 2, none⟩ = some (.slice none 0 0) := cell_of_block hR5 rfl
  have y3 : w5.cell? ⟨w.heap.size + 1, 3, none⟩ = some (.pointer none) := cell_of_block hR5 rfl
  have y4 : w5.cell? ⟨w.heap.size + 1, 4, none⟩ = some (.int .u32 0) := cell_of_block hR5 rfl
  have g0 := free_of_block (o := 0) hR5
  have g1 := free_of_block (o := 1) hR5
  have g2 := free_of_block (o := 2) hR5
  have g3 := free_of_block (o := 3) hR5
  have g4 := free_of_block (o := 4) hR5
  go_wp2_with fail
  have q1 : 0 < len1 → b1' ≠ w.heap.size + 1 := fun h0 => by have := hn1 h0; omega
  have q2 : 0 < len2 → b2' ≠ w.heap.size + 1 := fun h0 => by have := hn2 h0; omega
  refine bodyPost_ret (v := .agg #[.int .u64 ep, .slice a1' len1 c1', .slice a2' len2 c2', .pointer none, .int .u32 jn]) (by simp [results, Try.results28, go_sem, y0, y1, y2, y3, y4]) rfl ⟨a1', c1', b1', o1', a2', c2', b2', o2', rfl, ?_, ?_, ?_⟩
  · exact ((((hT.set q1 _ _).set q1 _ _).set q1 _ _).set q1 _ _).set q1 _ _
  · exact ((((hO.set q2 _ _).set q2 _ _).set q2 _ _).set q2 _ _).set q2 _ _
  · exact ((((((hb0.trans (hb.mono hb0.size)).setCell (by simp) _).setCell (by simp) _).setCell (by simp) _).setCell (by simp) _).setCell (by simp) _)

set_option maxHeartbeats 1000000 in
theorem zzClone_some (ep : Int) (a1 : Option Addr) (len1 cap1 : Nat) (A : Nat → Int) (B : Nat → ByteArray) (C : Nat → Int) (b1 o1 : Nat) (a2 : Option Addr) (len2 cap2 : Nat) (L : Nat → Int) (b2 o2 : Nat) (P : Nat) (d : PD) (a3 : Option Addr) (c3 b3 o3 : Nat) (jn : Int) (w : World)
    (hl1 : len1 ≤ 1000000) (hl2 : len2 ≤ 1000000) (h1 : Trip w a1 len1 cap1 A B C b1 o1) (h2 : Ones w a2 len2 cap2 L b2 o2) (hl3 : d.len ≤ 1000000) (h3 : PendAt w P 0 d a3 c3 b3 o3) :
    Calls Try.prog 28 #[.agg #[.int .u64 ep, .slice a1 len1 cap1, .slice a2 len2 cap2, .pointer (some ⟨P, 0, none⟩), .int .u32 jn]] w fun e w' =>
      ∃ (a1' : Option Addr) (c1' b1' o1' : Nat) (a2' : Option Addr) (c2' b2' o2' N : Nat) (a3' : Option Addr) (c3' b3' o3' : Nat), e = .returned (.agg #[.int .u64 ep, .slice a1' len1 c1', .slice a2' len2 c2', .pointer (some ⟨N, 0, none⟩), .int .u32 jn]) ∧ Trip w' a1' len1 c1' A B C b1' o1' ∧ Ones w' a2' len2 c2' L b2' o2' ∧ PendAt w' N 0 d a3' c3' b3' o3' ∧ Below w.heap.size w w' := by
  go_enter Try.func28, Try.ntmps28
  go_wp2_with fail
  have hb0 : Below w.heap.size w ((w.alloc (.cells #[.int .u64 ep, .slice a1 len1 cap1, .slice a2 len2 cap2, .pointer (some ⟨P, 0, none⟩), .int .u32 jn] 60)).alloc (.cells #[.int .u64 0, .slice none 0 0, .slice none 0 0, .pointer none, .int .u32 0] 60)) := ((Below.refl _ _).alloc (Nat.le_refl _) _).alloc (by simp) _
  have hR : ((w.alloc (.cells #[.int .u64 ep, .slice a1 len1 cap1, .slice a2 len2 cap2, .pointer (some ⟨P, 0, none⟩), .int .u32 jn] 60)).alloc (.cells #[.int .u64 0, .slice none 0 0, .slice none 0 0, .pointer none, .int .u32 0] 60)).heap[w.heap.size + 1]? = some (.cells #[.int .u64 0, .slice none 0 0, .slice none 0 0, .pointer none, .int .u32 0] 60 (0, 0)) := by
    have := heap_alloc_new (w.alloc (.cells #[.int .u64 ep, .slice a1 len1 cap1, .slice a2 len2 cap2, .pointer (some ⟨P, 0, none⟩), .int .u32 jn] 60)) (.cells #[.int .u64 0, .slice none 0 0, .slice none 0 0, .pointer none, .int .u32 0] 60)
    simpa using this
  generalize ((w.alloc (.cells #[.int .u64 ep, .slice a1 len1 cap1, .slice a2 len2 cap2, .pointer (some ⟨P, 0, none⟩), .int .u32 jn] 60)).alloc (.cells #[.int .u64 0, .slice none 0 0, .slice none 0 0, .pointer none, .int .u32 0] 60)) = w3 at hb0 hR ⊢
  refine (clone_some ep a1 len1 cap1 A B C b1 o1 a2 len2 cap2 L b2 o2 P d a3 c3 b3 o3 jn _ hl1 hl2 (h1.below hb0) (h2.below hb0) hl3 (h3.below hb0)).mono ?_
  rintro e w5 ⟨a1', c1', b1', o1', a2', c2', b2', o2', N, a3', c3', b3', o3', rfl, hT, hO, hP, hb, hn1, hn2, hnN, hn3⟩
  have hRl := lt_of_block hR
  have hR5 := (hb.block _ hRl).trans hR
  have y0 : w5.cell? ⟨w.heap.size + 1, 0, none⟩ = some (.int .u64 0) := cell_of_block hR5 rfl
  have y1 : w5.cell? ⟨w.heap.size + 1, 1, none⟩ = some (.slice none 0 0) := cell_of_block hR5 rfl
  have y2 : w5.cell? ⟨w.heap.size + 1, 2, none⟩ = some (.slice none 0 0) := cell_of_block hR5 rfl
  have y3 : w5.cell? ⟨w.heap.size + 1, 3, none⟩ = some (.pointer none) := cell_of_block hR5 rfl
  have y4 : w5.cell? ⟨w.heap.size + 1, 4, none⟩ = some (.int .u32 0) := cell_of_block hR5 rfl
  have g0 := free_of_block (o := 0) hR5
  have g1 := free_of_block (o := 1) hR5
  have g2 := free_of_block (o := 2) hR5
  have g3 := free_of_block (o := 3) hR5
  have g4 := free_of_block (o := 4) hR5
  go_wp2_with fail
  have q1 : 0 < len1 → b1' ≠ w.heap.size + 1 := fun h0 => by have := hn1 h0; omega
  have q2 : 0 < len2 → b2' ≠ w.heap.size + 1 := fun h0 => by have := hn2 h0; omega
  have q3 : 0 < d.len → b3' ≠ w.heap.size + 1 := fun h0 => by have := hn3 h0; omega
  have q4 : N ≠ w.heap.size + 1 := by omega
  refine bodyPost_ret (v := .agg #[.int .u64 ep, .slice a1' len1 c1', .slice a2' len2 c2', .pointer (some ⟨N, 0, none⟩), .int .u32 jn]) (by simp [results, Try.results28, go_sem, y0, y1, y2, y3, y4]) rfl ⟨a1', c1', b1', o1', a2', c2', b2', o2', N, a3', c3', b3', o3', rfl, ?_, ?_, ?_, ?_⟩
  · exact ((((hT.set q1 _ _).set q1 _ _).set q1 _ _).set q1 _ _).set q1 _ _
  · exact ((((hO.set q2 _ _).set q2 _ _).set q2 _ _).set q2 _ _).set q2 _ _
  · exact ((((hP.set q4 q3 _ _).set q4 q3 _ _).set q4 q3 _ _).set q4 q3 _ _).set q4 q3 _ _
  · exact ((((((hb0.trans (hb.mono hb0.size)).setCell (by simp) _).setCell (by simp) _).setCell (by simp) _).setCell (by simp) _).setCell (by simp) _)

set_option maxRecDepth 100000 in
set_option maxHeartbeats 4000000 in
theorem members_nil (ep : Int) (a1 : Option Addr) (len1 cap1 : Nat) (A : Nat → Int) (B : Nat → ByteArray) (C : Nat → Int) (b1 o1 : Nat) (a2 : Option Addr) (len2 cap2 : Nat) (L : Nat → Int) (b2 o2 : Nat) (jn : Int) (w : World)
    (h1 : Trip w a1 len1 cap1 A B C b1 o1) (h2 : Ones w a2 len2 cap2 L b2 o2) :
    Calls Try.prog 8 #[.int .u64 ep, .slice a1 len1 cap1, .slice a2 len2 cap2, .pointer none, .int .u32 jn] w fun e w' => e = .returned (.bool true) ∧ Below w.heap.size w w' := by
  go_enter Try.func8, Try.ntmps8
  go_wp2_with fail
  refine (zz_nil ep a1 len1 cap1 A B C b1 o1 a2 len2 cap2 jn w h1).mono ?_
  rintro e w' ⟨⟨x, rfl, -⟩, hw⟩
  subst hw
  cases x
  · go_wp2
    go_ret
    exact ⟨rfl, Below.refl _ _⟩
  go_wp2_with fail
  refine (within_nil a1 len1 cap1 A B C b1 o1 a2 len2 cap2 _ h1).mono ?_
  rintro e w'' ⟨⟨x, rfl, hx⟩, hw⟩
  subst hw
  cases x
  · go_wp2
    go_ret
    exact ⟨rfl, Below.refl _ _⟩
  obtain ⟨l1, l2⟩ := hx rfl
  go_wp2_with fail
  refine (copyMembers_any a1 len1 cap1 A B C b1 o1 _ (by omega) h1).mono ?_
  rintro e w1 ⟨a1', c1', b1', o1', rfl, hT1, hb1, -⟩
  go_wp2_with fail
  refine (copyLeft_any a2 len2 cap2 L b2 o2 w1 (by omega) (h2.below hb1)).mono ?_
  rintro e w2 ⟨a2', c2', b2', o2', rfl, hO2, hb2, -⟩
  have hT2 := hT1.below hb2
  go_wp2_with fail
  refine (copyPend_nil w2).mono ?_
  rintro e w3 ⟨rfl, hw⟩
  subst hw
  go_wp2_with fail
  refine (build_nil ep a1' len1 c1' A B C b1' o1' a2' len2 c2' L b2' o2' jn _ (by omega) (by omega) hT2 hO2).mono ?_
  rintro e w4 ⟨a3, c3, b3, o3, a4, c4, b4, o4, rfl, hT4, hO4, hb4⟩
  go_wp2_with fail
  have hbm := (Below.refl w4.heap.size w4).alloc (Nat.le_refl _) (.cells #[.int .u64 ep, .slice a3 len1 c3, .slice a4 len2 c4, .pointer none, .int .u32 jn] 60)
  refine (zzClone_nil ep a3 len1 c3 A B C b3 o3 a4 len2 c4 L b4 o4 jn _ (by omega) (by omega) (hT4.below hbm) (hO4.below hbm)).mono ?_
  rintro e w5 ⟨a6, c6, b6, o6, a7, c7, b7, o7, rfl, hT5, hO5, hb5⟩
  have hm := (hb5.block w4.heap.size (by simp)).trans (heap_alloc_new w4 _)
  have m0 : w5.cell? ⟨w4.heap.size, 0, none⟩ = some (.int .u64 ep) := cell_of_block hm rfl
  have m1 : w5.cell? ⟨w4.heap.size, 1, none⟩ = some (.slice a3 len1 c3) := cell_of_block hm rfl
  have m2 : w5.cell? ⟨w4.heap.size, 2, none⟩ = some (.slice a4 len2 c4) := cell_of_block hm rfl
  have m3 : w5.cell? ⟨w4.heap.size, 3, none⟩ = some (.pointer none) := cell_of_block hm rfl
  have m4 : w5.cell? ⟨w4.heap.size, 4, none⟩ = some (.int .u32 jn) := cell_of_block hm rfl
  have hml := lt_of_block hm
  have hbc := (Below.refl w5.heap.size w5).alloc (Nat.le_refl _) (.cells #[.int .u64 ep, .slice a6 len1 c6, .slice a7 len2 c7, .pointer none, .int .u32 jn] 60)
  go_wp2_with fail
  refine (same_nil ep a6 len1 c6 A B C b6 o6 a7 len2 c7 L b7 o7 jn a3 c3 b3 o3 a4 c4 b4 o4 _ (by omega) (by omega) (hT5.below hbc) (hO5.below hbc) (((hT4.below hbm).below hb5).below hbc) (((hO4.below hbm).below hb5).below hbc)).mono ?_
  rintro e w6 ⟨rfl, hb6⟩
  go_wp2
  go_ret
  refine ⟨rfl, ?_⟩
  have s1 := hb1.size
  have s2 := hb2.size
  have s4 := hb4.size
  have s5 := hb5.size
  simp at s5
  exact ((((hb1.trans (hb2.mono s1)).trans (hb4.mono (by omega))).trans (hbm.mono (by omega))).trans (hb5.mono (by simp; omega))).trans ((hbc.mono (by omega)).trans (hb6.mono (by simp; omega)))

set_option maxRecDepth 100000 in
set_option maxHeartbeats 4000000 in
theorem members_some (ep : Int) (a1 : Option Addr) (len1 cap1 : Nat) (A : Nat → Int) (B : Nat → ByteArray) (C : Nat → Int) (b1 o1 : Nat) (a2 : Option Addr) (len2 cap2 : Nat) (L : Nat → Int) (b2 o2 : Nat) (pb po : Nat) (d : PD) (ap : Option Addr) (cp bp op : Nat) (jn : Int) (w : World)
    (h1 : Trip w a1 len1 cap1 A B C b1 o1) (h2 : Ones w a2 len2 cap2 L b2 o2) (h3 : PendAt w pb po d ap cp bp op) :
    Calls Try.prog 8 #[.int .u64 ep, .slice a1 len1 cap1, .slice a2 len2 cap2, .pointer (some ⟨pb, po, none⟩), .int .u32 jn] w fun e w' => e = .returned (.bool true) ∧ Below w.heap.size w w' := by
  go_enter Try.func8, Try.ntmps8
  go_wp2_with fail
  refine (zz_some ep a1 len1 cap1 A B C b1 o1 a2 len2 cap2 pb po d ap cp bp op jn w h3 h1).mono ?_
  rintro e w' ⟨⟨x, rfl, -⟩, hw⟩
  subst hw
  cases x
  · go_wp2
    go_ret
    exact ⟨rfl, Below.refl _ _⟩
  go_wp2_with fail
  refine (within_some a1 len1 cap1 A B C b1 o1 a2 len2 cap2 pb po d ap cp bp op _ h3 h1).mono ?_
  rintro e w'' ⟨⟨x, rfl, hx⟩, nq, hw⟩
  subst hw
  cases x
  · go_wp2
    go_ret
    exact ⟨rfl, below_dN _ _ _⟩
  obtain ⟨l1, l2, l3⟩ := hx rfl
  have hbq := below_dN w'.heap.size w' nq
  have h1q := h1.below hbq
  have h2q := h2.below hbq
  have h3q := h3.below hbq
  have hsq : (w'.drewN nq).heap.size = w'.heap.size := rfl
  obtain ⟨wq, hwq⟩ : ∃ wq, wq = w'.drewN nq := ⟨_, rfl⟩
  rw [← hwq] at hbq h1q h2q h3q hsq ⊢
  clear hwq
  go_wp2_with fail
  refine (copyMembers_any a1 len1 cap1 A B C b1 o1 _ (by omega) h1q).mono ?_
  rintro e w1 ⟨a1', c1', b1', o1', rfl, hT1, hb1, -⟩
  go_wp2_with fail
  refine (copyLeft_any a2 len2 cap2 L b2 o2 w1 (by omega) (h2q.below hb1)).mono ?_
  rintro e w2 ⟨a2', c2', b2', o2', rfl, hO2, hb2, -⟩
  go_wp2_with fail
  refine (copyPend_any pb po d ap cp bp op w2 (by omega) ((h3q.below hb1).below hb2)).mono ?_
  rintro e w3 ⟨Q0, ap', cp', bp', op', rfl, hP3, hb3, -⟩
  go_wp2_with fail
  refine (build_some ep a1' len1 c1' A B C b1' o1' a2' len2 c2' L b2' o2' Q0 0 d ap' cp' bp' op' jn _ (by omega) (by omega) ((hT1.below hb2).below hb3) (hO2.below hb3) (by omega) hP3).mono ?_
  rintro e w4 ⟨a3, c3, b3, o3, a4, c4, b4, o4, Q, a5, c5, b5, o5, rfl, hT4, hO4, hP4, hb4⟩
  go_wp2_with fail
  have hbm := (Below.refl w4.heap.size w4).alloc (Nat.le_refl _) (.cells #[.int .u64 ep, .slice a3 len1 c3, .slice a4 len2 c4, .pointer (some ⟨Q, 0, none⟩), .int .u32 jn] 60)
  refine (zzClone_some ep a3 len1 c3 A B C b3 o3 a4 len2 c4 L b4 o4 Q d a5 c5 b5 o5 jn _ (by omega) (by omega) (hT4.below hbm) (hO4.below hbm) (by omega) (hP4.below hbm)).mono ?_
  rintro e w5 ⟨a6, c6, b6, o6, a7, c7, b7, o7, N, a8, c8, b8, o8, rfl, hT5, hO5, hP5, hb5⟩
  have hm := (hb5.block w4.heap.size (by simp)).trans (heap_alloc_new w4 _)
  have m0 : w5.cell? ⟨w4.heap.size, 0, none⟩ = some (.int .u64 ep) := cell_of_block hm rfl
  have m1 : w5.cell? ⟨w4.heap.size, 1, none⟩ = some (.slice a3 len1 c3) := cell_of_block hm rfl
  have m2 : w5.cell? ⟨w4.heap.size, 2, none⟩ = some (.slice a4 len2 c4) := cell_of_block hm rfl
  have m3 : w5.cell? ⟨w4.heap.size, 3, none⟩ = some (.pointer (some ⟨Q, 0, none⟩)) := cell_of_block hm rfl
  have m4 : w5.cell? ⟨w4.heap.size, 4, none⟩ = some (.int .u32 jn) := cell_of_block hm rfl
  have hml := lt_of_block hm
  have hbc := (Below.refl w5.heap.size w5).alloc (Nat.le_refl _) (.cells #[.int .u64 ep, .slice a6 len1 c6, .slice a7 len2 c7, .pointer (some ⟨N, 0, none⟩), .int .u32 jn] 60)
  go_wp2_with fail
  refine (same_some ep a6 len1 c6 A B C b6 o6 a7 len2 c7 L b7 o7 jn a3 c3 b3 o3 a4 c4 b4 o4 d N a8 c8 b8 o8 Q a5 c5 b5 o5 _ (by omega) (by omega) (hT5.below hbc) (hO5.below hbc) (((hT4.below hbm).below hb5).below hbc) (((hO4.below hbm).below hb5).below hbc) (by omega) (hP5.below hbc) (((hP4.below hbm).below hb5).below hbc)).mono ?_
  rintro e w6 ⟨rfl, hb6⟩
  go_wp2
  go_ret
  refine ⟨rfl, ?_⟩
  have s1 := hb1.size
  have s2 := hb2.size
  have s4 := hb4.size
  have s5 := hb5.size
  simp at s5
  have s3 := hb3.size
  exact (((((hbq.trans (hb1.mono (by omega))).trans (hb2.mono (by omega))).trans (hb3.mono (by omega))).trans (hb4.mono (by omega))).trans (hbm.mono (by omega))).trans ((hb5.mono (by simp; omega)).trans ((hbc.mono (by omega)).trans (hb6.mono (by simp; omega))))
end Go.Proofs.Qxb6000359a
