/- The law's walk: the roads on which a guard says that there is nothing to show -/
import Derived.Test.Qxb6627702aLists
namespace Go.Proofs.Qxb6627702a
open Go.ChangeShapes Go.WideShapes Go.ChangeAt Go.RowKit

set_option maxRecDepth 100000 in
set_option maxHeartbeats 8000000 in
theorem out1 (wd sn mv dp : Int) (hd : Bool) (a1 a2 : Option Addr) (n1 c1 n2 c2 : Nat) (S2 : Nat → ByteArray) (w : World) (H2 : Lies w a2 n2 (strV S2)) (m1 : n1 ≤ maxLen) (m2 : n2 ≤ maxLen)
     (b1 : (1048576 : Int) < n1) :
    Calls Try.prog 3 #[.int .i64 wd, .int .i64 sn, .slice a1 n1 c1, .slice a2 n2 c2, .int .u64 mv, .bool hd, .int .i64 dp] w fun e w' => Done w e w' := by
  go_enter Try.func3, Try.ntmps3
  go_wp2_with fail
  refine (bytes_any wd sn mv dp hd a1 a2 n1 c1 n2 c2 S2 w H2 m1 m2).mono ?_
  rintro e w' ⟨r, rfl, rfl⟩
  cases r
  · go_wp2
    go_ret
    exact done (Below.refl _ _)
  go_wp2
  go_ret
  exact done (Below.refl _ _)

set_option maxRecDepth 100000 in
set_option maxHeartbeats 8000000 in
theorem out2 (wd sn mv dp : Int) (hd : Bool) (a1 a2 : Option Addr) (n1 c1 n2 c2 : Nat) (S2 : Nat → ByteArray) (w : World) (H2 : Lies w a2 n2 (strV S2)) (m1 : n1 ≤ maxLen) (m2 : n2 ≤ maxLen)
    (g1 : (n1 : Int) ≤ 1048576) (b2 : (131072 : Int) < n2) :
    Calls Try.prog 3 #[.int .i64 wd, .int .i64 sn, .slice a1 n1 c1, .slice a2 n2 c2, .int .u64 mv, .bool hd, .int .i64 dp] w fun e w' => Done w e w' := by
  go_enter Try.func3, Try.ntmps3
  go_wp2_with fail
  refine (bytes_any wd sn mv dp hd a1 a2 n1 c1 n2 c2 S2 w H2 m1 m2).mono ?_
  rintro e w' ⟨r, rfl, rfl⟩
  cases r
  · go_wp2
    go_ret
    exact done (Below.refl _ _)
  go_wp2
  go_ret
  exact done (Below.refl _ _)

set_option maxRecDepth 100000 in
set_option maxHeartbeats 8000000 in
theorem out3 (wd sn mv dp : Int) (hd : Bool) (a1 a2 : Option Addr) (n1 c1 n2 c2 : Nat) (S2 : Nat → ByteArray) (w : World) (H2 : Lies w a2 n2 (strV S2)) (m1 : n1 ≤ maxLen) (m2 : n2 ≤ maxLen)
    (g1 : (n1 : Int) ≤ 1048576) (g2 : (n2 : Int) ≤ 131072) (b3 : (1048576 : Int) < n1 + 8 * n2) :
    Calls Try.prog 3 #[.int .i64 wd, .int .i64 sn, .slice a1 n1 c1, .slice a2 n2 c2, .int .u64 mv, .bool hd, .int .i64 dp] w fun e w' => Done w e w' := by
  go_enter Try.func3, Try.ntmps3
  go_wp2_with fail
  refine (bytes_any wd sn mv dp hd a1 a2 n1 c1 n2 c2 S2 w H2 m1 m2).mono ?_
  rintro e w' ⟨r, rfl, rfl⟩
  cases r
  · go_wp2
    go_ret
    exact done (Below.refl _ _)
  go_wp2
  go_ret
  exact done (Below.refl _ _)

set_option maxRecDepth 100000 in
set_option maxHeartbeats 8000000 in
theorem out4 (wd sn mv dp : Int) (hd : Bool) (a1 a2 : Option Addr) (n1 c1 n2 c2 : Nat) (S2 : Nat → ByteArray) (w : World) (H2 : Lies w a2 n2 (strV S2)) (m1 : n1 ≤ maxLen) (m2 : n2 ≤ maxLen)
    (g1 : (n1 : Int) ≤ 1048576) (g2 : (n2 : Int) ≤ 131072) (g3 : (n1 : Int) + 8 * n2 ≤ 1048576)  (d : wd < 1) :
    Calls Try.prog 3 #[.int .i64 wd, .int .i64 sn, .slice a1 n1 c1, .slice a2 n2 c2, .int .u64 mv, .bool hd, .int .i64 dp] w fun e w' => Done w e w' := by
  rcases H2 with H2 | ⟨b2, o2, rfl, H2⟩
  · go_enter Try.func3, Try.ntmps3
    go_wp2_with fail
    refine (bytes_any wd sn mv dp hd a1 a2 n1 c1 n2 c2 S2 w (.inl H2) m1 m2).mono ?_
    rintro e w' ⟨r, rfl, rfl⟩
    cases r
    · go_wp2
      go_ret
      exact done (Below.refl _ _)
    go_wp2
    refine wp_loop_rounds 1 ?_
    rw [rounds_succ]
    go_wp2
    go_ret
    exact done (Below.refl _ _)
  · go_enter Try.func3, Try.ntmps3
    go_wp2_with fail
    refine (bytes_any wd sn mv dp hd a1 (some ⟨b2, o2, none⟩) n1 c1 n2 c2 S2 w (.inr ⟨b2, o2, rfl, H2⟩) m1 m2).mono ?_
    rintro e w' ⟨r, rfl, rfl⟩
    cases r
    · go_wp2
      go_ret
      exact done (Below.refl _ _)
    go_wp2
    go_loop [15, 16] (fun n i => ∃ (k : Nat) (m : Int), k ≤ n2 ∧ i = .int .i64 k ∧ n = .int .i64 m) (fun _ i => n2 - (intOf i).toNat)
    case atStart => exact ⟨0, _, Nat.zero_le _, rfl, rfl⟩
    case round =>
      obtain ⟨k0, m0, hk0, rfl, rfl⟩ := hrel
      by_cases hlt0 : k0 < n2
      · have hc : w.cell? ⟨b2, o2 + k0, none⟩ = some (.string (S2 k0)) := H2 k0 hlt0
        clear H2
        go_wp2
        · go_ret
          exact done (Below.refl _ _)
        · go_round
          case rel => exact ⟨k0 + 1, _, by omega, by go_num, rfl⟩
          case measure => simp [intOf]; omega
      · go_wp2
        go_ret
        exact done (Below.refl _ _)

set_option maxRecDepth 100000 in
set_option maxHeartbeats 8000000 in
theorem out5 (wd sn mv dp : Int) (hd : Bool) (a1 a2 : Option Addr) (n1 c1 n2 c2 : Nat) (S2 : Nat → ByteArray) (w : World) (H2 : Lies w a2 n2 (strV S2)) (m1 : n1 ≤ maxLen) (m2 : n2 ≤ maxLen)
    (g1 : (n1 : Int) ≤ 1048576) (g2 : (n2 : Int) ≤ 131072) (g3 : (n1 : Int) + 8 * n2 ≤ 1048576) (gw1 : 1 ≤ wd) (d : 65536 < wd) :
    Calls Try.prog 3 #[.int .i64 wd, .int .i64 sn, .slice a1 n1 c1, .slice a2 n2 c2, .int .u64 mv, .bool hd, .int .i64 dp] w fun e w' => Done w e w' := by
  rcases H2 with H2 | ⟨b2, o2, rfl, H2⟩
  · go_enter Try.func3, Try.ntmps3
    go_wp2_with fail
    refine (bytes_any wd sn mv dp hd a1 a2 n1 c1 n2 c2 S2 w (.inl H2) m1 m2).mono ?_
    rintro e w' ⟨r, rfl, rfl⟩
    cases r
    · go_wp2
      go_ret
      exact done (Below.refl _ _)
    go_wp2
    refine wp_loop_rounds 1 ?_
    rw [rounds_succ]
    go_wp2
    go_ret
    exact done (Below.refl _ _)
  · go_enter Try.func3, Try.ntmps3
    go_wp2_with fail
    refine (bytes_any wd sn mv dp hd a1 (some ⟨b2, o2, none⟩) n1 c1 n2 c2 S2 w (.inr ⟨b2, o2, rfl, H2⟩) m1 m2).mono ?_
    rintro e w' ⟨r, rfl, rfl⟩
    cases r
    · go_wp2
      go_ret
      exact done (Below.refl _ _)
    go_wp2
    go_loop [15, 16] (fun n i => ∃ (k : Nat) (m : Int), k ≤ n2 ∧ i = .int .i64 k ∧ n = .int .i64 m) (fun _ i => n2 - (intOf i).toNat)
    case atStart => exact ⟨0, _, Nat.zero_le _, rfl, rfl⟩
    case round =>
      obtain ⟨k0, m0, hk0, rfl, rfl⟩ := hrel
      by_cases hlt0 : k0 < n2
      · have hc : w.cell? ⟨b2, o2 + k0, none⟩ = some (.string (S2 k0)) := H2 k0 hlt0
        clear H2
        go_wp2
        · go_ret
          exact done (Below.refl _ _)
        · go_round
          case rel => exact ⟨k0 + 1, _, by omega, by go_num, rfl⟩
          case measure => simp [intOf]; omega
      · go_wp2
        go_ret
        exact done (Below.refl _ _)

set_option maxRecDepth 100000 in
set_option maxHeartbeats 8000000 in
theorem out6 (wd sn mv dp : Int) (hd : Bool) (a1 a2 : Option Addr) (n1 c1 n2 c2 : Nat) (S2 : Nat → ByteArray) (w : World) (H2 : Lies w a2 n2 (strV S2)) (m1 : n1 ≤ maxLen) (m2 : n2 ≤ maxLen)
    (g1 : (n1 : Int) ≤ 1048576) (g2 : (n2 : Int) ≤ 131072) (g3 : (n1 : Int) + 8 * n2 ≤ 1048576) (gw1 : 1 ≤ wd) (gw2 : wd ≤ 65536) (d : sn < 0) :
    Calls Try.prog 3 #[.int .i64 wd, .int .i64 sn, .slice a1 n1 c1, .slice a2 n2 c2, .int .u64 mv, .bool hd, .int .i64 dp] w fun e w' => Done w e w' := by
  rcases H2 with H2 | ⟨b2, o2, rfl, H2⟩
  · go_enter Try.func3, Try.ntmps3
    go_wp2_with fail
    refine (bytes_any wd sn mv dp hd a1 a2 n1 c1 n2 c2 S2 w (.inl H2) m1 m2).mono ?_
    rintro e w' ⟨r, rfl, rfl⟩
    cases r
    · go_wp2
      go_ret
      exact done (Below.refl _ _)
    go_wp2
    refine wp_loop_rounds 1 ?_
    rw [rounds_succ]
    go_wp2
    go_ret
    exact done (Below.refl _ _)
  · go_enter Try.func3, Try.ntmps3
    go_wp2_with fail
    refine (bytes_any wd sn mv dp hd a1 (some ⟨b2, o2, none⟩) n1 c1 n2 c2 S2 w (.inr ⟨b2, o2, rfl, H2⟩) m1 m2).mono ?_
    rintro e w' ⟨r, rfl, rfl⟩
    cases r
    · go_wp2
      go_ret
      exact done (Below.refl _ _)
    go_wp2
    go_loop [15, 16] (fun n i => ∃ (k : Nat) (m : Int), k ≤ n2 ∧ i = .int .i64 k ∧ n = .int .i64 m) (fun _ i => n2 - (intOf i).toNat)
    case atStart => exact ⟨0, _, Nat.zero_le _, rfl, rfl⟩
    case round =>
      obtain ⟨k0, m0, hk0, rfl, rfl⟩ := hrel
      by_cases hlt0 : k0 < n2
      · have hc : w.cell? ⟨b2, o2 + k0, none⟩ = some (.string (S2 k0)) := H2 k0 hlt0
        clear H2
        go_wp2
        · go_ret
          exact done (Below.refl _ _)
        · go_round
          case rel => exact ⟨k0 + 1, _, by omega, by go_num, rfl⟩
          case measure => simp [intOf]; omega
      · go_wp2
        go_ret
        exact done (Below.refl _ _)

set_option maxRecDepth 100000 in
set_option maxHeartbeats 8000000 in
theorem out7 (wd sn mv dp : Int) (hd : Bool) (a1 a2 : Option Addr) (n1 c1 n2 c2 : Nat) (S2 : Nat → ByteArray) (w : World) (H2 : Lies w a2 n2 (strV S2)) (m1 : n1 ≤ maxLen) (m2 : n2 ≤ maxLen)
    (g1 : (n1 : Int) ≤ 1048576) (g2 : (n2 : Int) ≤ 131072) (g3 : (n1 : Int) + 8 * n2 ≤ 1048576) (gw1 : 1 ≤ wd) (gw2 : wd ≤ 65536) (gs1 : 0 ≤ sn) (d : 65536 < sn) :
    Calls Try.prog 3 #[.int .i64 wd, .int .i64 sn, .slice a1 n1 c1, .slice a2 n2 c2, .int .u64 mv, .bool hd, .int .i64 dp] w fun e w' => Done w e w' := by
  rcases H2 with H2 | ⟨b2, o2, rfl, H2⟩
  · go_enter Try.func3, Try.ntmps3
    go_wp2_with fail
    refine (bytes_any wd sn mv dp hd a1 a2 n1 c1 n2 c2 S2 w (.inl H2) m1 m2).mono ?_
    rintro e w' ⟨r, rfl, rfl⟩
    cases r
    · go_wp2
      go_ret
      exact done (Below.refl _ _)
    go_wp2
    refine wp_loop_rounds 1 ?_
    rw [rounds_succ]
    go_wp2
    go_ret
    exact done (Below.refl _ _)
  · go_enter Try.func3, Try.ntmps3
    go_wp2_with fail
    refine (bytes_any wd sn mv dp hd a1 (some ⟨b2, o2, none⟩) n1 c1 n2 c2 S2 w (.inr ⟨b2, o2, rfl, H2⟩) m1 m2).mono ?_
    rintro e w' ⟨r, rfl, rfl⟩
    cases r
    · go_wp2
      go_ret
      exact done (Below.refl _ _)
    go_wp2
    go_loop [15, 16] (fun n i => ∃ (k : Nat) (m : Int), k ≤ n2 ∧ i = .int .i64 k ∧ n = .int .i64 m) (fun _ i => n2 - (intOf i).toNat)
    case atStart => exact ⟨0, _, Nat.zero_le _, rfl, rfl⟩
    case round =>
      obtain ⟨k0, m0, hk0, rfl, rfl⟩ := hrel
      by_cases hlt0 : k0 < n2
      · have hc : w.cell? ⟨b2, o2 + k0, none⟩ = some (.string (S2 k0)) := H2 k0 hlt0
        clear H2
        go_wp2
        · go_ret
          exact done (Below.refl _ _)
        · go_round
          case rel => exact ⟨k0 + 1, _, by omega, by go_num, rfl⟩
          case measure => simp [intOf]; omega
      · go_wp2
        go_ret
        exact done (Below.refl _ _)

set_option maxRecDepth 100000 in
set_option maxHeartbeats 8000000 in
theorem out8 (wd sn mv dp : Int) (hd : Bool) (a1 a2 : Option Addr) (n1 c1 n2 c2 : Nat) (S2 : Nat → ByteArray) (w : World) (H2 : Lies w a2 n2 (strV S2)) (m1 : n1 ≤ maxLen) (m2 : n2 ≤ maxLen)
    (g1 : (n1 : Int) ≤ 1048576) (g2 : (n2 : Int) ≤ 131072) (g3 : (n1 : Int) + 8 * n2 ≤ 1048576) (gw1 : 1 ≤ wd) (gw2 : wd ≤ 65536) (gs1 : 0 ≤ sn) (gs2 : sn ≤ 65536) (d : dp < 1) :
    Calls Try.prog 3 #[.int .i64 wd, .int .i64 sn, .slice a1 n1 c1, .slice a2 n2 c2, .int .u64 mv, .bool hd, .int .i64 dp] w fun e w' => Done w e w' := by
  rcases H2 with H2 | ⟨b2, o2, rfl, H2⟩
  · go_enter Try.func3, Try.ntmps3
    go_wp2_with fail
    refine (bytes_any wd sn mv dp hd a1 a2 n1 c1 n2 c2 S2 w (.inl H2) m1 m2).mono ?_
    rintro e w' ⟨r, rfl, rfl⟩
    cases r
    · go_wp2
      go_ret
      exact done (Below.refl _ _)
    go_wp2
    refine wp_loop_rounds 1 ?_
    rw [rounds_succ]
    go_wp2
    go_ret
    exact done (Below.refl _ _)
  · go_enter Try.func3, Try.ntmps3
    go_wp2_with fail
    refine (bytes_any wd sn mv dp hd a1 (some ⟨b2, o2, none⟩) n1 c1 n2 c2 S2 w (.inr ⟨b2, o2, rfl, H2⟩) m1 m2).mono ?_
    rintro e w' ⟨r, rfl, rfl⟩
    cases r
    · go_wp2
      go_ret
      exact done (Below.refl _ _)
    go_wp2
    go_loop [15, 16] (fun n i => ∃ (k : Nat) (m : Int), k ≤ n2 ∧ i = .int .i64 k ∧ n = .int .i64 m) (fun _ i => n2 - (intOf i).toNat)
    case atStart => exact ⟨0, _, Nat.zero_le _, rfl, rfl⟩
    case round =>
      obtain ⟨k0, m0, hk0, rfl, rfl⟩ := hrel
      by_cases hlt0 : k0 < n2
      · have hc : w.cell? ⟨b2, o2 + k0, none⟩ = some (.string (S2 k0)) := H2 k0 hlt0
        clear H2
        go_wp2
        · go_ret
          exact done (Below.refl _ _)
        · go_round
          case rel => exact ⟨k0 + 1, _, by omega, by go_num, rfl⟩
          case measure => simp [intOf]; omega
      · go_wp2
        go_ret
        exact done (Below.refl _ _)

set_option maxRecDepth 100000 in
set_option maxHeartbeats 8000000 in
theorem out9 (wd sn mv dp : Int) (hd : Bool) (a1 a2 : Option Addr) (n1 c1 n2 c2 : Nat) (S2 : Nat → ByteArray) (w : World) (H2 : Lies w a2 n2 (strV S2)) (m1 : n1 ≤ maxLen) (m2 : n2 ≤ maxLen)
    (g1 : (n1 : Int) ≤ 1048576) (g2 : (n2 : Int) ≤ 131072) (g3 : (n1 : Int) + 8 * n2 ≤ 1048576) (gw1 : 1 ≤ wd) (gw2 : wd ≤ 65536) (gs1 : 0 ≤ sn) (gs2 : sn ≤ 65536) (gd1 : 1 ≤ dp) (d : 64 < dp) :
    Calls Try.prog 3 #[.int .i64 wd, .int .i64 sn, .slice a1 n1 c1, .slice a2 n2 c2, .int .u64 mv, .bool hd, .int .i64 dp] w fun e w' => Done w e w' := by
  rcases H2 with H2 | ⟨b2, o2, rfl, H2⟩
  · go_enter Try.func3, Try.ntmps3
    go_wp2_with fail
    refine (bytes_any wd sn mv dp hd a1 a2 n1 c1 n2 c2 S2 w (.inl H2) m1 m2).mono ?_
    rintro e w' ⟨r, rfl, rfl⟩
    cases r
    · go_wp2
      go_ret
      exact done (Below.refl _ _)
    go_wp2
    refine wp_loop_rounds 1 ?_
    rw [rounds_succ]
    go_wp2
    go_ret
    exact done (Below.refl _ _)
  · go_enter Try.func3, Try.ntmps3
    go_wp2_with fail
    refine (bytes_any wd sn mv dp hd a1 (some ⟨b2, o2, none⟩) n1 c1 n2 c2 S2 w (.inr ⟨b2, o2, rfl, H2⟩) m1 m2).mono ?_
    rintro e w' ⟨r, rfl, rfl⟩
    cases r
    · go_wp2
      go_ret
      exact done (Below.refl _ _)
    go_wp2
    go_loop [15, 16] (fun n i => ∃ (k : Nat) (m : Int), k ≤ n2 ∧ i = .int .i64 k ∧ n = .int .i64 m) (fun _ i => n2 - (intOf i).toNat)
    case atStart => exact ⟨0, _, Nat.zero_le _, rfl, rfl⟩
    case round =>
      obtain ⟨k0, m0, hk0, rfl, rfl⟩ := hrel
      by_cases hlt0 : k0 < n2
      · have hc : w.cell? ⟨b2, o2 + k0, none⟩ = some (.string (S2 k0)) := H2 k0 hlt0
        clear H2
        go_wp2
        · go_ret
          exact done (Below.refl _ _)
        · go_round
          case rel => exact ⟨k0 + 1, _, by omega, by go_num, rfl⟩
          case measure => simp [intOf]; omega
      · go_wp2
        go_ret
        exact done (Below.refl _ _)

set_option maxRecDepth 100000 in
set_option maxHeartbeats 8000000 in
theorem out10 (wd sn mv dp : Int) (hd : Bool) (a1 a2 : Option Addr) (n1 c1 n2 c2 : Nat) (S2 : Nat → ByteArray) (w : World) (H2 : Lies w a2 n2 (strV S2)) (m1 : n1 ≤ maxLen) (m2 : n2 ≤ maxLen)
    (g1 : (n1 : Int) ≤ 1048576) (g2 : (n2 : Int) ≤ 131072) (g3 : (n1 : Int) + 8 * n2 ≤ 1048576) (gw1 : 1 ≤ wd) (gw2 : wd ≤ 65536) (gs1 : 0 ≤ sn) (gs2 : sn ≤ 65536) (gd1 : 1 ≤ dp) (gd2 : dp ≤ 64) (d : ((n1 : Int) % wd != 0) = true) :
    Calls Try.prog 3 #[.int .i64 wd, .int .i64 sn, .slice a1 n1 c1, .slice a2 n2 c2, .int .u64 mv, .bool hd, .int .i64 dp] w fun e w' => Done w e w' := by
  rcases H2 with H2 | ⟨b2, o2, rfl, H2⟩
  · go_enter Try.func3, Try.ntmps3
    go_wp2_with fail
    refine (bytes_any wd sn mv dp hd a1 a2 n1 c1 n2 c2 S2 w (.inl H2) m1 m2).mono ?_
    rintro e w' ⟨r, rfl, rfl⟩
    cases r
    · go_wp2
      go_ret
      exact done (Below.refl _ _)
    go_wp2
    refine wp_loop_rounds 1 ?_
    rw [rounds_succ]
    go_wp2
    go_ret
    exact done (Below.refl _ _)
  · go_enter Try.func3, Try.ntmps3
    go_wp2_with fail
    refine (bytes_any wd sn mv dp hd a1 (some ⟨b2, o2, none⟩) n1 c1 n2 c2 S2 w (.inr ⟨b2, o2, rfl, H2⟩) m1 m2).mono ?_
    rintro e w' ⟨r, rfl, rfl⟩
    cases r
    · go_wp2
      go_ret
      exact done (Below.refl _ _)
    go_wp2
    go_loop [15, 16] (fun n i => ∃ (k : Nat) (m : Int), k ≤ n2 ∧ i = .int .i64 k ∧ n = .int .i64 m) (fun _ i => n2 - (intOf i).toNat)
    case atStart => exact ⟨0, _, Nat.zero_le _, rfl, rfl⟩
    case round =>
      obtain ⟨k0, m0, hk0, rfl, rfl⟩ := hrel
      by_cases hlt0 : k0 < n2
      · have hc : w.cell? ⟨b2, o2 + k0, none⟩ = some (.string (S2 k0)) := H2 k0 hlt0
        clear H2
        go_wp2
        · go_ret
          exact done (Below.refl _ _)
        · go_round
          case rel => exact ⟨k0 + 1, _, by omega, by go_num, rfl⟩
          case measure => simp [intOf]; omega
      · go_wp2
        go_ret
        exact done (Below.refl _ _)

set_option maxRecDepth 100000 in
set_option maxHeartbeats 8000000 in
theorem out11 (wd sn mv dp : Int) (hd : Bool) (a1 a2 : Option Addr) (n1 c1 n2 c2 : Nat) (S2 : Nat → ByteArray) (w : World) (H2 : Lies w a2 n2 (strV S2)) (m1 : n1 ≤ maxLen) (m2 : n2 ≤ maxLen)
    (g1 : (n1 : Int) ≤ 1048576) (g2 : (n2 : Int) ≤ 131072) (g3 : (n1 : Int) + 8 * n2 ≤ 1048576) (gw1 : 1 ≤ wd) (gw2 : wd ≤ 65536) (gs1 : 0 ≤ sn) (gs2 : sn ≤ 65536) (gd1 : 1 ≤ dp) (gd2 : dp ≤ 64) (d7 : ((n1 : Int) % wd != 0) = false) (e : 1 ≤ n2) (d : sn = 0) :
    Calls Try.prog 3 #[.int .i64 wd, .int .i64 sn, .slice a1 n1 c1, .slice a2 n2 c2, .int .u64 mv, .bool hd, .int .i64 dp] w fun e w' => Done w e w' := by
  subst d
  have e' : ((n2 : Int) != 0) = true := by simp; omega
  rcases H2 with H2 | ⟨b2, o2, rfl, H2⟩
  · omega
  · go_enter Try.func3, Try.ntmps3
    go_wp2_with fail
    refine (bytes_any wd 0 mv dp hd a1 (some ⟨b2, o2, none⟩) n1 c1 n2 c2 S2 w (.inr ⟨b2, o2, rfl, H2⟩) m1 m2).mono ?_
    rintro e w' ⟨r, rfl, rfl⟩
    cases r
    · go_wp2
      go_ret
      exact done (Below.refl _ _)
    go_wp2
    go_loop [15, 16] (fun n i => ∃ (k : Nat) (m : Int), k ≤ n2 ∧ i = .int .i64 k ∧ n = .int .i64 m) (fun _ i => n2 - (intOf i).toNat)
    case atStart => exact ⟨0, _, Nat.zero_le _, rfl, rfl⟩
    case round =>
      obtain ⟨k0, m0, hk0, rfl, rfl⟩ := hrel
      by_cases hlt0 : k0 < n2
      · have hc : w.cell? ⟨b2, o2 + k0, none⟩ = some (.string (S2 k0)) := H2 k0 hlt0
        clear H2
        go_wp2
        · go_ret
          exact done (Below.refl _ _)
        · go_round
          case rel => exact ⟨k0 + 1, _, by omega, by go_num, rfl⟩
          case measure => simp [intOf]; omega
      · go_wp2
        go_ret
        exact done (Below.refl _ _)

set_option maxRecDepth 100000 in
set_option maxHeartbeats 8000000 in
theorem out12 (wd sn mv dp : Int) (hd : Bool) (a1 a2 : Option Addr) (n1 c1 n2 c2 : Nat) (S2 : Nat → ByteArray) (w : World) (H2 : Lies w a2 n2 (strV S2)) (m1 : n1 ≤ maxLen) (m2 : n2 ≤ maxLen)
    (g1 : (n1 : Int) ≤ 1048576) (g2 : (n2 : Int) ≤ 131072) (g3 : (n1 : Int) + 8 * n2 ≤ 1048576) (gw1 : 1 ≤ wd) (gw2 : wd ≤ 65536) (gs0 : 1 ≤ sn) (gs2 : sn ≤ 65536) (gd1 : 1 ≤ dp) (gd2 : dp ≤ 64) (d7 : ((n1 : Int) % wd != 0) = false) (d : ((n2 : Int) % sn != 0) = true) :
    Calls Try.prog 3 #[.int .i64 wd, .int .i64 sn, .slice a1 n1 c1, .slice a2 n2 c2, .int .u64 mv, .bool hd, .int .i64 dp] w fun e w' => Done w e w' := by
  have gs1 : 0 ≤ sn := by omega
  have d8 : (sn == 0) = false := by simp; omega
  rcases H2 with H2 | ⟨b2, o2, rfl, H2⟩
  · go_enter Try.func3, Try.ntmps3
    go_wp2_with fail
    refine (bytes_any wd sn mv dp hd a1 a2 n1 c1 n2 c2 S2 w (.inl H2) m1 m2).mono ?_
    rintro e w' ⟨r, rfl, rfl⟩
    cases r
    · go_wp2
      go_ret
      exact done (Below.refl _ _)
    go_wp2
    refine wp_loop_rounds 1 ?_
    rw [rounds_succ]
    go_wp2
    go_ret
    exact done (Below.refl _ _)
  · go_enter Try.func3, Try.ntmps3
    go_wp2_with fail
    refine (bytes_any wd sn mv dp hd a1 (some ⟨b2, o2, none⟩) n1 c1 n2 c2 S2 w (.inr ⟨b2, o2, rfl, H2⟩) m1 m2).mono ?_
    rintro e w' ⟨r, rfl, rfl⟩
    cases r
    · go_wp2
      go_ret
      exact done (Below.refl _ _)
    go_wp2
    go_loop [15, 16] (fun n i => ∃ (k : Nat) (m : Int), k ≤ n2 ∧ i = .int .i64 k ∧ n = .int .i64 m) (fun _ i => n2 - (intOf i).toNat)
    case atStart => exact ⟨0, _, Nat.zero_le _, rfl, rfl⟩
    case round =>
      obtain ⟨k0, m0, hk0, rfl, rfl⟩ := hrel
      by_cases hlt0 : k0 < n2
      · have hc : w.cell? ⟨b2, o2 + k0, none⟩ = some (.string (S2 k0)) := H2 k0 hlt0
        clear H2
        go_wp2
        · go_ret
          exact done (Below.refl _ _)
        · go_round
          case rel => exact ⟨k0 + 1, _, by omega, by go_num, rfl⟩
          case measure => simp [intOf]; omega
      · go_wp2
        go_ret
        exact done (Below.refl _ _)

set_option maxRecDepth 100000 in
set_option maxHeartbeats 8000000 in
theorem out13 (wd sn mv dp : Int) (hd : Bool) (a1 a2 : Option Addr) (n1 c1 n2 c2 : Nat) (S2 : Nat → ByteArray) (w : World) (H2 : Lies w a2 n2 (strV S2)) (m1 : n1 ≤ maxLen) (m2 : n2 ≤ maxLen)
    (g1 : (n1 : Int) ≤ 1048576) (g2 : (n2 : Int) ≤ 131072) (g3 : (n1 : Int) + 8 * n2 ≤ 1048576) (q1 q2 : Int) (hq : (n1 : Int) / wd = q1) (hv : (n2 : Int) / sn = q2) (hq0 : 0 ≤ q1) (hq1 : q1 ≤ 1048576) (hv0 : 0 ≤ q2) (hv1 : q2 ≤ 131072) (gw1 : 1 ≤ wd) (gw2 : wd ≤ 65536) (gs0 : 1 ≤ sn) (gs2 : sn ≤ 65536) (gd1 : 1 ≤ dp) (gd2 : dp ≤ 64) (d7 : ((n1 : Int) % wd != 0) = false) (d10 : ((n2 : Int) % sn != 0) = false) (d : (q2 != q1) = true) :
    Calls Try.prog 3 #[.int .i64 wd, .int .i64 sn, .slice a1 n1 c1, .slice a2 n2 c2, .int .u64 mv, .bool hd, .int .i64 dp] w fun e w' => Done w e w' := by
  have gs1 : 0 ≤ sn := by omega
  have d8 : (sn == 0) = false := by simp; omega
  rcases H2 with H2 | ⟨b2, o2, rfl, H2⟩
  · go_enter Try.func3, Try.ntmps3
    go_wp2_with fail
    refine (bytes_any wd sn mv dp hd a1 a2 n1 c1 n2 c2 S2 w (.inl H2) m1 m2).mono ?_
    rintro e w' ⟨r, rfl, rfl⟩
    cases r
    · go_wp2
      go_ret
      exact done (Below.refl _ _)
    go_wp2
    refine wp_loop_rounds 1 ?_
    rw [rounds_succ]
    go_wp2
    go_ret
    exact done (Below.refl _ _)
  · go_enter Try.func3, Try.ntmps3
    go_wp2_with fail
    refine (bytes_any wd sn mv dp hd a1 (some ⟨b2, o2, none⟩) n1 c1 n2 c2 S2 w (.inr ⟨b2, o2, rfl, H2⟩) m1 m2).mono ?_
    rintro e w' ⟨r, rfl, rfl⟩
    cases r
    · go_wp2
      go_ret
      exact done (Below.refl _ _)
    go_wp2
    go_loop [15, 16] (fun n i => ∃ (k : Nat) (m : Int), k ≤ n2 ∧ i = .int .i64 k ∧ n = .int .i64 m) (fun _ i => n2 - (intOf i).toNat)
    case atStart => exact ⟨0, _, Nat.zero_le _, rfl, rfl⟩
    case round =>
      obtain ⟨k0, m0, hk0, rfl, rfl⟩ := hrel
      by_cases hlt0 : k0 < n2
      · have hc : w.cell? ⟨b2, o2 + k0, none⟩ = some (.string (S2 k0)) := H2 k0 hlt0
        clear H2
        go_wp2
        · go_ret
          exact done (Below.refl _ _)
        · go_round
          case rel => exact ⟨k0 + 1, _, by omega, by go_num, rfl⟩
          case measure => simp [intOf]; omega
      · go_wp2
        go_ret
        exact done (Below.refl _ _)

end Go.Proofs.Qxb6627702a
