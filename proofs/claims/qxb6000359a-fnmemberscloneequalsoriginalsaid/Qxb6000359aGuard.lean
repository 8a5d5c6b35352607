import Derived.Test.Qxb6000359aPend
namespace Go.Proofs.Qxb6000359a
open Go.RowKit

/-- it returns a bool; if true, p -/
def RB (p : Prop) (e : Ending) : Prop := ∃ b, e = .returned (.bool b) ∧ (b = true → p)
theorem RB.no {p : Prop} {e : Ending} (h : e = .returned (.bool false)) : RB p e := ⟨false, h, fun h => by cases h⟩
theorem RB.yes {p : Prop} {e : Ending} (h : e = .returned (.bool true)) (hp : p) : RB p e := ⟨true, h, fun _ => hp⟩

set_option maxRecDepth 100000 in
set_option maxHeartbeats 4000000 in
theorem zz_nil (ep : Int) (a1 : Option Addr) (len1 cap1 : Nat) (A : Nat → Int) (B : Nat → ByteArray) (C : Nat → Int) (b1 o1 : Nat) (a2 : Option Addr) (len2 cap2 : Nat) (jn : Int) (w : World) (h1 : Trip w a1 len1 cap1 A B C b1 o1) :
    Calls Try.prog 22 #[.int .u64 ep, .slice a1 len1 cap1, .slice a2 len2 cap2, .pointer none, .int .u32 jn] w fun e w' => RB True e ∧ w' = w := by
  by_cases hl : (1048576 : Int) < (len1 : Int)
  · go_enter Try.func22, Try.ntmps22
    go_wp2
    go_ret
    exact ⟨RB.no rfl, rfl⟩
  · go_enter Try.func22, Try.ntmps22
    go_wp2
    go_loop [11, 12] (fun z i => ∃ (k : Nat) (n : Int), k ≤ len1 ∧ i = .int .i64 k ∧ z = .int .i64 n ∧ 0 ≤ n ∧ n ≤ 1048576) (fun _ i => len1 - (intOf i).toNat)
    case atStart => exact ⟨0, _, Nat.zero_le _, rfl, rfl, by omega, by omega⟩
    case round =>
      obtain ⟨k, n, hk, rfl, rfl, n0, n1⟩ := hrel
      by_cases hlt : k < len1
      · obtain rfl := h1.at_ (by omega)
        have c1 := h1.c1 k hlt
        clear h1
        generalize B k = s at c1
        by_cases t1 : (1048576 : Int) < (s.size : Int)
        · go_wp2
          go_ret
          exact ⟨RB.no rfl, rfl⟩
        · by_cases t2 : (1048576 : Int) < n + (s.size : Int)
          · go_wp2
            go_ret
            exact ⟨RB.no rfl, rfl⟩
          · go_wp2
            go_round
            case rel => exact ⟨k + 1, _, by omega, by go_num, rfl, by omega, by omega⟩
            case measure => simp [intOf]; omega
      · by_cases t1 : (1048576 : Int) < (len2 : Int)
        · go_wp2
          go_ret
          exact ⟨RB.no rfl, rfl⟩
        · by_cases t2 : (1048576 : Int) < n + (len2 : Int)
          · go_wp2
            go_ret
            exact ⟨RB.no rfl, rfl⟩
          · go_wp2
            go_ret
            exact ⟨RB.yes rfl trivial, rfl⟩

set_option maxRecDepth 100000 in
set_option maxHeartbeats 4000000 in
theorem zz_some (ep : Int) (a1 : Option Addr) (len1 cap1 : Nat) (A : Nat → Int) (B : Nat → ByteArray) (C : Nat → Int) (b1 o1 : Nat) (a2 : Option Addr) (len2 cap2 : Nat) (pb po : Nat) (d : PD) (a3 : Option Addr) (c3 b3 o3 : Nat) (jn : Int) (w : World) (h3 : PendAt w pb po d a3 c3 b3 o3) (h1 : Trip w a1 len1 cap1 A B C b1 o1) :
    Calls Try.prog 22 #[.int .u64 ep, .slice a1 len1 cap1, .slice a2 len2 cap2, .pointer (some ⟨pb, po, none⟩), .int .u32 jn] w fun e w' => RB True e ∧ w' = w := by
  by_cases hl : (1048576 : Int) < (len1 : Int)
  · go_enter Try.func22, Try.ntmps22
    go_wp2
    go_ret
    exact ⟨RB.no rfl, rfl⟩
  · go_enter Try.func22, Try.ntmps22
    go_wp2
    go_loop [11, 12] (fun z i => ∃ (k : Nat) (n : Int), k ≤ len1 ∧ i = .int .i64 k ∧ z = .int .i64 n ∧ 0 ≤ n ∧ n ≤ 1048576) (fun _ i => len1 - (intOf i).toNat)
    case atStart => exact ⟨0, _, Nat.zero_le _, rfl, rfl, by omega, by omega⟩
    case round =>
      obtain ⟨k, n, hk, rfl, rfl, n0, n1⟩ := hrel
      by_cases hlt : k < len1
      · obtain rfl := h1.at_ (by omega)
        have c1 := h1.c1 k hlt
        clear h1
        generalize B k = s at c1
        by_cases t1 : (1048576 : Int) < (s.size : Int)
        · go_wp2
          go_ret
          exact ⟨RB.no rfl, rfl⟩
        · by_cases t2 : (1048576 : Int) < n + (s.size : Int)
          · go_wp2
            go_ret
            exact ⟨RB.no rfl, rfl⟩
          · go_wp2
            go_round
            case rel => exact ⟨k + 1, _, by omega, by go_num, rfl, by omega, by omega⟩
            case measure => simp [intOf]; omega
      · obtain ⟨e0, e1, e2, e3, e4, e5, e6, e7, e8, e9, e10⟩ := h3.all
        have hT := h3.trip
        clear e0 e1 e2 e3 e5 e7 e9 e10 h1 h3
        generalize d.pa = pa at e4
        generalize d.rf = rf at e6
        generalize d.len = len3 at e8 hT
        by_cases t1 : (1048576 : Int) < (len2 : Int)
        · go_wp2
          go_ret
          exact ⟨RB.no rfl, rfl⟩
        by_cases t2 : (1048576 : Int) < n + (len2 : Int)
        · go_wp2
          go_ret
          exact ⟨RB.no rfl, rfl⟩
        by_cases t3 : (1048576 : Int) < (pa.size : Int)
        · go_wp2
          go_ret
          exact ⟨RB.no rfl, rfl⟩
        by_cases t4 : (1048576 : Int) < n + (len2 : Int) + (pa.size : Int)
        · go_wp2
          go_ret
          exact ⟨RB.no rfl, rfl⟩
        by_cases t5 : (1048576 : Int) < (rf.size : Int)
        · go_wp2
          go_ret
          exact ⟨RB.no rfl, rfl⟩
        by_cases t6 : (1048576 : Int) < n + (len2 : Int) + (pa.size : Int) + (rf.size : Int)
        · go_wp2
          go_ret
          exact ⟨RB.no rfl, rfl⟩
        by_cases t7 : (1048576 : Int) < (len3 : Int)
        · go_wp2
          go_ret
          exact ⟨RB.no rfl, rfl⟩
        by_cases t8 : (1048576 : Int) < n + (len2 : Int) + (pa.size : Int) + (rf.size : Int) + (len3 : Int)
        · go_wp2
          go_ret
          exact ⟨RB.no rfl, rfl⟩
        go_wp2
        go_loop [11, 13] (fun z i => ∃ (j : Nat) (m : Int), j ≤ len3 ∧ i = .int .i64 j ∧ z = .int .i64 m ∧ 0 ≤ m ∧ m ≤ 1048576) (fun _ i => len3 - (intOf i).toNat)
        case atStart => exact ⟨0, _, Nat.zero_le _, rfl, rfl, by omega, by omega⟩
        case round =>
          obtain ⟨j, m, hj, rfl, rfl, m0, m1⟩ := hrel
          by_cases hlt3 : j < len3
          · obtain rfl := hT.at_ (by omega)
            have c1 := hT.c1 j hlt3
            clear hT
            generalize d.B j = s at c1
            by_cases q1 : (1048576 : Int) < (s.size : Int)
            · go_wp2
              go_ret
              exact ⟨RB.no rfl, rfl⟩
            · by_cases q2 : (1048576 : Int) < m + (s.size : Int)
              · go_wp2
                go_ret
                exact ⟨RB.no rfl, rfl⟩
              · go_wp2
                go_round
                case rel => exact ⟨j + 1, _, by omega, by go_num, rfl, by omega, by omega⟩
                case measure => simp [intOf]; omega
          · go_wp2
            go_ret
            exact ⟨RB.yes rfl trivial, rfl⟩

set_option maxRecDepth 100000 in
set_option maxHeartbeats 4000000 in
theorem within_nil (a1 : Option Addr) (len1 cap1 : Nat) (A : Nat → Int) (B : Nat → ByteArray) (C : Nat → Int) (b1 o1 : Nat) (a2 : Option Addr) (len2 cap2 : Nat) (w : World) (h1 : Trip w a1 len1 cap1 A B C b1 o1) :
    Calls Try.prog 23 #[.slice a1 len1 cap1, .slice a2 len2 cap2, .pointer none] w fun e w' => RB (len1 ≤ 65536 ∧ len2 ≤ 262144) e ∧ w' = w := by
  by_cases hl : (65536 : Int) < (len1 : Int)
  · go_enter Try.func23, Try.ntmps23
    go_wp2
    go_ret
    exact ⟨RB.no rfl, rfl⟩
  by_cases hl2 : (262144 : Int) < (len2 : Int)
  · go_enter Try.func23, Try.ntmps23
    go_wp2
    go_ret
    exact ⟨RB.no rfl, rfl⟩
  have hbd : Hid (len1 ≤ 65536 ∧ len2 ≤ 262144) := ⟨by omega, by omega⟩
  go_enter Try.func23, Try.ntmps23
  go_wp2
  go_loop [7, 8] (fun z i => ∃ (k : Nat) (n : Int), k ≤ len1 ∧ i = .int .i64 k ∧ z = .int .i64 n ∧ 0 ≤ n ∧ n ≤ 4194304) (fun _ i => len1 - (intOf i).toNat)
  case atStart => exact ⟨0, _, Nat.zero_le _, rfl, rfl, by omega, by omega⟩
  case round =>
    obtain ⟨k, n, hk, rfl, rfl, n0, n1⟩ := hrel
    by_cases hlt : k < len1
    · obtain rfl := h1.at_ (by omega)
      have c1 := h1.c1 k hlt
      clear h1
      generalize B k = s at c1
      by_cases t1 : (1048576 : Int) < (s.size : Int)
      · go_wp2
        go_ret
        exact ⟨RB.no rfl, rfl⟩
      · by_cases t2 : (1048576 : Int) < n + (s.size : Int)
        · go_wp2
          go_ret
          exact ⟨RB.no rfl, rfl⟩
        · go_wp2
          go_round
          case rel => exact ⟨k + 1, _, by omega, by go_num, rfl, by omega, by omega⟩
          case measure => simp [intOf]; omega
    · by_cases t1 : n ≤ 1048576
      · go_wp2
        go_ret
        exact ⟨RB.yes (ret_bool (by simp)) hbd.out, rfl⟩
      · go_wp2
        go_ret
        exact ⟨RB.no (ret_bool (by simp)), rfl⟩

set_option maxRecDepth 100000 in
set_option maxHeartbeats 4000000 in
theorem within_some (a1 : Option Addr) (len1 cap1 : Nat) (A : Nat → Int) (B : Nat → ByteArray) (C : Nat → Int) (b1 o1 : Nat) (a2 : Option Addr) (len2 cap2 : Nat) (pb po : Nat) (d : PD) (a3 : Option Addr) (c3 b3 o3 : Nat) (w : World) (h3 : PendAt w pb po d a3 c3 b3 o3) (h1 : Trip w a1 len1 cap1 A B C b1 o1) :
    Calls Try.prog 23 #[.slice a1 len1 cap1, .slice a2 len2 cap2, .pointer (some ⟨pb, po, none⟩)] w fun e w' => RB (len1 ≤ 65536 ∧ len2 ≤ 262144 ∧ d.len ≤ 65536) e ∧ ∃ n, w' = w.drewN n := by
  by_cases hl : (65536 : Int) < (len1 : Int)
  · go_enter Try.func23, Try.ntmps23
    go_wp2
    go_ret
    exact ⟨RB.no rfl, 0, rfl⟩
  by_cases hl2 : (262144 : Int) < (len2 : Int)
  · go_enter Try.func23, Try.ntmps23
    go_wp2
    go_ret
    exact ⟨RB.no rfl, 0, rfl⟩
  go_enter Try.func23, Try.ntmps23
  go_wp2
  go_loop [7, 8] (fun z i => ∃ (k : Nat) (n : Int), k ≤ len1 ∧ i = .int .i64 k ∧ z = .int .i64 n ∧ 0 ≤ n ∧ n ≤ 4194304) (fun _ i => len1 - (intOf i).toNat)
  case atStart => exact ⟨0, _, Nat.zero_le _, rfl, rfl, by omega, by omega⟩
  case round =>
    obtain ⟨k, n, hk, rfl, rfl, n0, n1⟩ := hrel
    by_cases hlt : k < len1
    · obtain rfl := h1.at_ (by omega)
      have c1 := h1.c1 k hlt
      clear h1
      generalize B k = s at c1
      by_cases t1 : (1048576 : Int) < (s.size : Int)
      · go_wp2
        go_ret
        exact ⟨RB.no rfl, 0, rfl⟩
      · by_cases t2 : (1048576 : Int) < n + (s.size : Int)
        · go_wp2
          go_ret
          exact ⟨RB.no rfl, 0, rfl⟩
        · go_wp2
          go_round
          case rel => exact ⟨k + 1, _, by omega, by go_num, rfl, by omega, by omega⟩
          case measure => simp [intOf]; omega
    · obtain ⟨e0, e1, e2, e3, e4, e5, e6, e7, e8, e9, e10⟩ := h3.all
      have hT := h3.trip
      clear e0 e1 e2 e3 e5 e7 e9 e10 h1 h3
      generalize d.pa = pa at e4
      generalize d.rf = rf at e6
      obtain ⟨len3, hL⟩ : ∃ l, Hid (l = d.len) := ⟨_, rfl⟩
      rw [← hL.out] at e8 hT
      by_cases t1 : (65536 : Int) < (len3 : Int)
      · go_wp2
        go_ret
        exact ⟨RB.no rfl, 0, rfl⟩
      by_cases t2 : (1048576 : Int) < (pa.size : Int)
      · go_wp2
        go_ret
        exact ⟨RB.no rfl, 0, rfl⟩
      by_cases t3 : (1048576 : Int) < (rf.size : Int)
      · go_wp2
        go_ret
        exact ⟨RB.no rfl, 0, rfl⟩
      have hbd : Hid (len1 ≤ 65536 ∧ len2 ≤ 262144 ∧ d.len ≤ 65536) := ⟨by omega, by omega, by rw [← hL.out]; omega⟩
      have v1 : IntKind.i64.wrap (32 * (len3 : Int)) = 32 * (len3 : Int) := by rw [IntKind.wrap_i64]; omega
      have v2 : IntKind.i64.wrap (32 * (len3 : Int) + (pa.size : Int)) = 32 * (len3 : Int) + (pa.size : Int) := by rw [IntKind.wrap_i64]; omega
      have v3 : IntKind.i64.wrap (32 * (len3 : Int) + (pa.size : Int) + (rf.size : Int)) = 32 * (len3 : Int) + (pa.size : Int) + (rf.size : Int) := by rw [IntKind.wrap_i64]; omega
      have v4 : IntKind.i64.wrap (n + (32 * (len3 : Int) + (pa.size : Int) + (rf.size : Int))) = n + (32 * (len3 : Int) + (pa.size : Int) + (rf.size : Int)) := by rw [IntKind.wrap_i64]; omega
      by_cases t4 : (1048576 : Int) < n + (32 * (len3 : Int) + (pa.size : Int) + (rf.size : Int))
      · go_wp2_with fail
        go_quiet (fail)
        go_wp2
        go_ret
        exact ⟨RB.no rfl, _, rfl⟩
      go_wp2_with fail
      go_quiet (fail)
      go_wp2
      go_loop [7, 9] (fun z i => ∃ (j : Nat) (m : Int), j ≤ len3 ∧ i = .int .i64 j ∧ z = .int .i64 m ∧ 0 ≤ m ∧ m ≤ 1048576) (fun _ i => len3 - (intOf i).toNat)
      case atStart => exact ⟨0, _, Nat.zero_le _, rfl, rfl, by omega, by omega⟩
      case round =>
        clear v1 v2 v3 v4
        obtain ⟨j, m, hj, rfl, rfl, m0, m1⟩ := hrel
        by_cases hlt3 : j < len3
        · obtain rfl := hT.at_ (by omega)
          have c1 := hT.c1 j hlt3
          clear hT
          generalize d.B j = s at c1
          by_cases q1 : (1048576 : Int) < (s.size : Int)
          · go_wp2
            go_ret
            exact ⟨RB.no rfl, _, rfl⟩
          · by_cases q2 : (1048576 : Int) < m + (s.size : Int)
            · go_wp2
              go_ret
              exact ⟨RB.no rfl, _, rfl⟩
            · go_wp2
              go_round
              case rel => exact ⟨j + 1, _, by omega, by go_num, rfl, by omega, by omega⟩
              case measure => simp [intOf]; omega
        · go_wp2
          go_ret
          exact ⟨RB.yes (ret_bool (by simp)) hbd.out, _, rfl⟩

end Go.Proofs.Qxb6000359a
