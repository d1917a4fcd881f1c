/- The law's walk: the roads that come to the end, nstr zero -/
import Derived.Test.Qxb6627702aLists
namespace Go.Proofs.Qxb6627702a
open Go.ChangeShapes Go.WideShapes Go.ChangeAt Go.RowKit

set_option maxRecDepth 100000 in
set_option maxHeartbeats 8000000 in
theorem leaf_zh (wd sn mv dp : Int) (hd : Bool) (a1 a2 : Option Addr) (n1 c1 n2 c2 : Nat) (S1 : Nat → Int) (S2 : Nat → ByteArray) (w : World) (H1 : Lies w a1 n1 (byteV S1)) (H2 : Lies w a2 n2 (strV S2)) (Z1 : Nily a1 n1 c1) (Z2 : Nily a2 n2 c2)
    (g1 : n1 ≤ 1048576) (g2 : n2 ≤ 131072) (g3 : n1 + 8 * n2 ≤ 1048576) (gw1 : 1 ≤ wd) (gw2 : wd ≤ 65536) (gs1 : 0 ≤ sn) (gs2 : sn ≤ 65536) (gd1 : 1 ≤ dp) (gd2 : dp ≤ 64)
    (hh : hd = true) (q : Int) (hq : (n1 : Int) / wd = q) (hq0 : 0 < q) (hq1 : q ≤ 1048576) (hr : (n1 : Int) % wd = 0) (hs : sn = 0) (hn : n2 = 0) :
    Calls Try.prog 3 #[.int .i64 wd, .int .i64 sn, .slice a1 n1 c1, .slice a2 n2 c2, .int .u64 mv, .bool hd, .int .i64 dp] w fun e w' => Done w e w' := by
  subst hs hn hh
  have hr' : ((n1 : Int) % wd != 0) = false := by simp [hr]
  go_enter Try.func3, Try.ntmps3
  go_wp2_with fail
  refine (bytes_any wd 0 mv dp true a1 a2 n1 c1 0 c2 S2 w H2 (by unfold maxLen; omega) (by unfold maxLen; omega)).mono ?_
  rintro e w' ⟨r, rfl, rfl⟩
  cases r
  · go_wp2
    go_ret
    exact done (Below.refl _ _)
  go_wp2
  refine wp_loop_rounds 1 ?_
  rw [rounds_succ]
  go_wp2_with fail
  refine (cloneB_any a1 n1 c1 S1 w H1 g1 Z1).mono ?_
  rintro e w1 ⟨ad1, k1, l1, rfl, hb1⟩
  go_wp2_with fail
  refine (cloneS_any a2 0 c2 S2 w1 (H2.below hb1 (Nat.le_refl _)) (by omega) Z2).mono ?_
  rintro e w2 ⟨ad2, k2, l2, rfl, hb2⟩
  have hbw2 := hb1.trans (hb2.mono hb1.size)
  clear hb1 hb2 H1 H2 Z1 Z2
  go_wp2_with (first | (go_at_call 7; refine (noNode_same _).mono ?_; rintro e w' ⟨rfl, rfl⟩) | (go_at_call 8; refine (leaf_any ad1 ad2 k1 l1 k2 l2 _).mono ?_; rintro e w3 ⟨br, rfl, hb3⟩; have hbw3 := hbw2.trans (hb3.mono hbw2.size); clear hb3))
  refine (list_any _ _ _ _ _ _ _ w3).mono ?_
  rintro e w4 ⟨bl, rfl, hL4, hb4⟩
  have hbw4 := hbw3.trans (hb4.mono hbw3.size)
  clear hb4
  go_wp2_with fail
  refine (reader_at_own hL4).mono ?_
  rintro e w5 ⟨rfl, hb5⟩
  have hL5 := hL4.below hb5 hL4.lt
  have hbw5 := hbw4.trans (hb5.mono hbw4.size)
  clear hb5 hL4
  go_wp2
  go_loopw [21, 23] (fun ok i wr => ok = .bool true ∧ ∃ k : Nat, (k : Int) ≤ dp ∧ i = .int .i64 k ∧ ListAt wr bl wd 0 (some ⟨br, 0, none⟩) q (some ⟨br, 0, none⟩) 0 mv none 0 ∧ ListAt wr w5.heap.size wd 0 (some ⟨br, 0, none⟩) q none 0 0 (some ⟨bl, 0, none⟩) mv ∧ Below w.heap.size w wr) (fun _ i _ => dp.toNat - (intOf i).toNat)
  case atStart => exact ⟨rfl, 0, by omega, rfl, hL5.old _, ListAt.new _ _ _ _ _ _ _ _ _ _, hbw5.alloc hbw5.size _⟩
  case round =>
    obtain ⟨rfl, k, hk, rfl, hL, hC, hbr⟩ := hrel
    have q28 := neq28 ⟨br, 0, none⟩
    have q31 := neq31 ⟨bl, 0, none⟩
    by_cases hlt : (k : Int) < dp
    · go_wp2_with fail
      refine (fields_at hC).mono ?_
      rintro e w6 ⟨rfl, m6, rfl⟩
      go_wp2_with fail
      refine (reader_at_reader (hC.drewN m6) (hL.drewN m6)).mono ?_
      rintro e w7 ⟨rfl, hb7⟩
      have hC7 := (hC.drewN m6).below hb7 hC.lt
      have hL7 := (hL.drewN m6).below hb7 hL.lt
      have hbw7 := (below_drewN hbr m6).trans (hb7.mono (below_drewN hbr m6).size)
      obtain ⟨e0, e1, e2, e3, e4, e5, e6, e7, e8⟩ := hC7.cells
      have f0 := hC7.free 0
      have f1 := hC7.free 1
      have f2 := hC7.free 2
      have f3 := hC7.free 3
      have f4 := hC7.free 4
      have f5 := hC7.free 5
      have f6 := hC7.free 6
      have f7 := hC7.free 7
      have f8 := hC7.free 8
      have lt7 := hC7.lt
      have hsz5 := hbw5.size
      have hne : bl ≠ w5.heap.size := Nat.ne_of_lt hL5.lt
      go_wp2
      go_roundw
      case rel => exact ⟨rfl, k + 1, by omega, by go_num, hL7.beside9 hne _ _ _ _ _ _ _ _ _ _, hC7.set9 _, below9 hbw7 hsz5 (Nat.le_refl _) _ _ _ _ _ _ _ _ _ _⟩
      case measure => simp [intOf]; omega
    · go_wp2_with fail
      refine (fields_at hL).mono ?_
      rintro e w8 ⟨rfl, m8, rfl⟩
      go_wp2
      go_ret
      exact done (below_drewN hbr _)

set_option maxRecDepth 100000 in
set_option maxHeartbeats 8000000 in
theorem leaf_zn (wd sn mv dp : Int) (hd : Bool) (a1 a2 : Option Addr) (n1 c1 n2 c2 : Nat) (S1 : Nat → Int) (S2 : Nat → ByteArray) (w : World) (H1 : Lies w a1 n1 (byteV S1)) (H2 : Lies w a2 n2 (strV S2)) (Z1 : Nily a1 n1 c1) (Z2 : Nily a2 n2 c2)
    (g1 : n1 ≤ 1048576) (g2 : n2 ≤ 131072) (g3 : n1 + 8 * n2 ≤ 1048576) (gw1 : 1 ≤ wd) (gw2 : wd ≤ 65536) (gs1 : 0 ≤ sn) (gs2 : sn ≤ 65536) (gd1 : 1 ≤ dp) (gd2 : dp ≤ 64)
    (hh : hd = false) (q : Int) (hq : (n1 : Int) / wd = q) (hq0 : 0 < q) (hq1 : q ≤ 1048576) (hr : (n1 : Int) % wd = 0) (hs : sn = 0) (hn : n2 = 0) :
    Calls Try.prog 3 #[.int .i64 wd, .int .i64 sn, .slice a1 n1 c1, .slice a2 n2 c2, .int .u64 mv, .bool hd, .int .i64 dp] w fun e w' => Done w e w' := by
  subst hs hn hh
  have hr' : ((n1 : Int) % wd != 0) = false := by simp [hr]
  go_enter Try.func3, Try.ntmps3
  go_wp2_with fail
  refine (bytes_any wd 0 mv dp false a1 a2 n1 c1 0 c2 S2 w H2 (by unfold maxLen; omega) (by unfold maxLen; omega)).mono ?_
  rintro e w' ⟨r, rfl, rfl⟩
  cases r
  · go_wp2
    go_ret
    exact done (Below.refl _ _)
  go_wp2
  refine wp_loop_rounds 1 ?_
  rw [rounds_succ]
  go_wp2_with fail
  refine (cloneB_any a1 n1 c1 S1 w H1 g1 Z1).mono ?_
  rintro e w1 ⟨ad1, k1, l1, rfl, hb1⟩
  go_wp2_with fail
  refine (cloneS_any a2 0 c2 S2 w1 (H2.below hb1 (Nat.le_refl _)) (by omega) Z2).mono ?_
  rintro e w2 ⟨ad2, k2, l2, rfl, hb2⟩
  have hbw2 := hb1.trans (hb2.mono hb1.size)
  clear hb1 hb2 H1 H2 Z1 Z2
  go_wp2_with (first | (go_at_call 7; refine (noNode_same _).mono ?_; rintro e w' ⟨rfl, rfl⟩) | (go_at_call 8; refine (leaf_any ad1 ad2 k1 l1 k2 l2 _).mono ?_; rintro e w3 ⟨br, rfl, hb3⟩; have hbw3 := hbw2.trans (hb3.mono hbw2.size); clear hb3))
  refine (list_any _ _ _ _ _ _ _ w3).mono ?_
  rintro e w4 ⟨bl, rfl, hL4, hb4⟩
  have hbw4 := hbw3.trans (hb4.mono hbw3.size)
  clear hb4
  go_wp2_with fail
  refine (reader_at_own hL4).mono ?_
  rintro e w5 ⟨rfl, hb5⟩
  have hL5 := hL4.below hb5 hL4.lt
  have hbw5 := hbw4.trans (hb5.mono hbw4.size)
  clear hb5 hL4
  go_wp2
  go_loopw [21, 23] (fun ok i wr => ok = .bool true ∧ ∃ k : Nat, (k : Int) ≤ dp ∧ i = .int .i64 k ∧ ListAt wr bl wd 0 (some ⟨br, 0, none⟩) q none 0 mv none 0 ∧ ListAt wr w5.heap.size wd 0 (some ⟨br, 0, none⟩) q none 0 0 (some ⟨bl, 0, none⟩) mv ∧ Below w.heap.size w wr) (fun _ i _ => dp.toNat - (intOf i).toNat)
  case atStart => exact ⟨rfl, 0, by omega, rfl, hL5.old _, ListAt.new _ _ _ _ _ _ _ _ _ _, hbw5.alloc hbw5.size _⟩
  case round =>
    obtain ⟨rfl, k, hk, rfl, hL, hC, hbr⟩ := hrel
    have q28 := neq28 ⟨br, 0, none⟩
    have q31 := neq31 ⟨bl, 0, none⟩
    by_cases hlt : (k : Int) < dp
    · go_wp2_with fail
      refine (fields_at hC).mono ?_
      rintro e w6 ⟨rfl, m6, rfl⟩
      go_wp2_with fail
      refine (reader_at_reader (hC.drewN m6) (hL.drewN m6)).mono ?_
      rintro e w7 ⟨rfl, hb7⟩
      have hC7 := (hC.drewN m6).below hb7 hC.lt
      have hL7 := (hL.drewN m6).below hb7 hL.lt
      have hbw7 := (below_drewN hbr m6).trans (hb7.mono (below_drewN hbr m6).size)
      obtain ⟨e0, e1, e2, e3, e4, e5, e6, e7, e8⟩ := hC7.cells
      have f0 := hC7.free 0
      have f1 := hC7.free 1
      have f2 := hC7.free 2
      have f3 := hC7.free 3
      have f4 := hC7.free 4
      have f5 := hC7.free 5
      have f6 := hC7.free 6
      have f7 := hC7.free 7
      have f8 := hC7.free 8
      have lt7 := hC7.lt
      have hsz5 := hbw5.size
      have hne : bl ≠ w5.heap.size := Nat.ne_of_lt hL5.lt
      go_wp2
      go_roundw
      case rel => exact ⟨rfl, k + 1, by omega, by go_num, hL7.beside9 hne _ _ _ _ _ _ _ _ _ _, hC7.set9 _, below9 hbw7 hsz5 (Nat.le_refl _) _ _ _ _ _ _ _ _ _ _⟩
      case measure => simp [intOf]; omega
    · go_wp2_with fail
      refine (fields_at hL).mono ?_
      rintro e w8 ⟨rfl, m8, rfl⟩
      go_wp2
      go_ret
      exact done (below_drewN hbr _)

set_option maxRecDepth 100000 in
set_option maxHeartbeats 8000000 in
theorem leaf_zt (wd sn mv dp : Int) (hd : Bool) (a1 a2 : Option Addr) (n1 c1 n2 c2 : Nat) (S1 : Nat → Int) (S2 : Nat → ByteArray) (w : World) (H1 : Lies w a1 n1 (byteV S1)) (H2 : Lies w a2 n2 (strV S2)) (Z1 : Nily a1 n1 c1) (Z2 : Nily a2 n2 c2)
    (g1 : n1 ≤ 1048576) (g2 : n2 ≤ 131072) (g3 : n1 + 8 * n2 ≤ 1048576) (gw1 : 1 ≤ wd) (gw2 : wd ≤ 65536) (gs1 : 0 ≤ sn) (gs2 : sn ≤ 65536) (gd1 : 1 ≤ dp) (gd2 : dp ≤ 64)
    (hh : hd = true) (hq : (n1 : Int) / wd = 0) (hr : (n1 : Int) % wd = 0) (hs : sn = 0) (hn : n2 = 0) :
    Calls Try.prog 3 #[.int .i64 wd, .int .i64 sn, .slice a1 n1 c1, .slice a2 n2 c2, .int .u64 mv, .bool hd, .int .i64 dp] w fun e w' => Done w e w' := by
  subst hs hn hh
  have hr' : ((n1 : Int) % wd != 0) = false := by simp [hr]
  go_enter Try.func3, Try.ntmps3
  go_wp2_with fail
  refine (bytes_any wd 0 mv dp true a1 a2 n1 c1 0 c2 S2 w H2 (by unfold maxLen; omega) (by unfold maxLen; omega)).mono ?_
  rintro e w' ⟨r, rfl, rfl⟩
  cases r
  · go_wp2
    go_ret
    exact done (Below.refl _ _)
  go_wp2
  refine wp_loop_rounds 1 ?_
  rw [rounds_succ]
  go_wp2_with fail
  refine (cloneB_any a1 n1 c1 S1 w H1 g1 Z1).mono ?_
  rintro e w1 ⟨ad1, k1, l1, rfl, hb1⟩
  go_wp2_with fail
  refine (cloneS_any a2 0 c2 S2 w1 (H2.below hb1 (Nat.le_refl _)) (by omega) Z2).mono ?_
  rintro e w2 ⟨ad2, k2, l2, rfl, hb2⟩
  have hbw2 := hb1.trans (hb2.mono hb1.size)
  clear hb1 hb2 H1 H2 Z1 Z2
  go_wp2_with (go_at_call 7; refine (noNode_same _).mono ?_; rintro e w' ⟨rfl, rfl⟩)
  refine (list_any _ _ _ _ _ _ _ w2).mono ?_
  rintro e w4 ⟨bl, rfl, hL4, hb4⟩
  have hbw4 := hbw2.trans (hb4.mono hbw2.size)
  clear hb4
  go_wp2_with fail
  refine (reader_at_own hL4).mono ?_
  rintro e w5 ⟨rfl, hb5⟩
  have hL5 := hL4.below hb5 hL4.lt
  have hbw5 := hbw4.trans (hb5.mono hbw4.size)
  clear hb5 hL4
  go_wp2
  go_loopw [21, 23] (fun ok i wr => ok = .bool true ∧ ∃ k : Nat, (k : Int) ≤ dp ∧ i = .int .i64 k ∧ ListAt wr bl wd 0 none 0 none 0 mv none 0 ∧ ListAt wr w5.heap.size wd 0 none 0 none 0 0 (some ⟨bl, 0, none⟩) mv ∧ Below w.heap.size w wr) (fun _ i _ => dp.toNat - (intOf i).toNat)
  case atStart => exact ⟨rfl, 0, by omega, rfl, hL5.old _, ListAt.new _ _ _ _ _ _ _ _ _ _, hbw5.alloc hbw5.size _⟩
  case round =>
    obtain ⟨rfl, k, hk, rfl, hL, hC, hbr⟩ := hrel
    have q31 := neq31 ⟨bl, 0, none⟩
    by_cases hlt : (k : Int) < dp
    · go_wp2_with fail
      refine (fields_at hC).mono ?_
      rintro e w6 ⟨rfl, m6, rfl⟩
      go_wp2_with fail
      refine (reader_at_reader (hC.drewN m6) (hL.drewN m6)).mono ?_
      rintro e w7 ⟨rfl, hb7⟩
      have hC7 := (hC.drewN m6).below hb7 hC.lt
      have hL7 := (hL.drewN m6).below hb7 hL.lt
      have hbw7 := (below_drewN hbr m6).trans (hb7.mono (below_drewN hbr m6).size)
      obtain ⟨e0, e1, e2, e3, e4, e5, e6, e7, e8⟩ := hC7.cells
      have f0 := hC7.free 0
      have f1 := hC7.free 1
      have f2 := hC7.free 2
      have f3 := hC7.free 3
      have f4 := hC7.free 4
      have f5 := hC7.free 5
      have f6 := hC7.free 6
      have f7 := hC7.free 7
      have f8 := hC7.free 8
      have lt7 := hC7.lt
      have hsz5 := hbw5.size
      have hne : bl ≠ w5.heap.size := Nat.ne_of_lt hL5.lt
      go_wp2
      go_roundw
      case rel => exact ⟨rfl, k + 1, by omega, by go_num, hL7.beside9 hne _ _ _ _ _ _ _ _ _ _, hC7.set9 _, below9 hbw7 hsz5 (Nat.le_refl _) _ _ _ _ _ _ _ _ _ _⟩
      case measure => simp [intOf]; omega
    · go_wp2_with fail
      refine (fields_at hL).mono ?_
      rintro e w8 ⟨rfl, m8, rfl⟩
      go_wp2
      go_ret
      exact done (below_drewN hbr _)

set_option maxRecDepth 100000 in
set_option maxHeartbeats 8000000 in
theorem leaf_zf (wd sn mv dp : Int) (hd : Bool) (a1 a2 : Option Addr) (n1 c1 n2 c2 : Nat) (S1 : Nat → Int) (S2 : Nat → ByteArray) (w : World) (H1 : Lies w a1 n1 (byteV S1)) (H2 : Lies w a2 n2 (strV S2)) (Z1 : Nily a1 n1 c1) (Z2 : Nily a2 n2 c2)
    (g1 : n1 ≤ 1048576) (g2 : n2 ≤ 131072) (g3 : n1 + 8 * n2 ≤ 1048576) (gw1 : 1 ≤ wd) (gw2 : wd ≤ 65536) (gs1 : 0 ≤ sn) (gs2 : sn ≤ 65536) (gd1 : 1 ≤ dp) (gd2 : dp ≤ 64)
    (hh : hd = false) (hq : (n1 : Int) / wd = 0) (hr : (n1 : Int) % wd = 0) (hs : sn = 0) (hn : n2 = 0) :
    Calls Try.prog 3 #[.int .i64 wd, .int .i64 sn, .slice a1 n1 c1, .slice a2 n2 c2, .int .u64 mv, .bool hd, .int .i64 dp] w fun e w' => Done w e w' := by
  subst hs hn hh
  have hr' : ((n1 : Int) % wd != 0) = false := by simp [hr]
  go_enter Try.func3, Try.ntmps3
  go_wp2_with fail
  refine (bytes_any wd 0 mv dp false a1 a2 n1 c1 0 c2 S2 w H2 (by unfold maxLen; omega) (by unfold maxLen; omega)).mono ?_
  rintro e w' ⟨r, rfl, rfl⟩
  cases r
  · go_wp2
    go_ret
    exact done (Below.refl _ _)
  go_wp2
  refine wp_loop_rounds 1 ?_
  rw [rounds_succ]
  go_wp2_with fail
  refine (cloneB_any a1 n1 c1 S1 w H1 g1 Z1).mono ?_
  rintro e w1 ⟨ad1, k1, l1, rfl, hb1⟩
  go_wp2_with fail
  refine (cloneS_any a2 0 c2 S2 w1 (H2.below hb1 (Nat.le_refl _)) (by omega) Z2).mono ?_
  rintro e w2 ⟨ad2, k2, l2, rfl, hb2⟩
  have hbw2 := hb1.trans (hb2.mono hb1.size)
  clear hb1 hb2 H1 H2 Z1 Z2
  go_wp2_with (go_at_call 7; refine (noNode_same _).mono ?_; rintro e w' ⟨rfl, rfl⟩)
  refine (list_any _ _ _ _ _ _ _ w2).mono ?_
  rintro e w4 ⟨bl, rfl, hL4, hb4⟩
  have hbw4 := hbw2.trans (hb4.mono hbw2.size)
  clear hb4
  go_wp2_with fail
  refine (reader_at_own hL4).mono ?_
  rintro e w5 ⟨rfl, hb5⟩
  have hL5 := hL4.below hb5 hL4.lt
  have hbw5 := hbw4.trans (hb5.mono hbw4.size)
  clear hb5 hL4
  go_wp2
  go_loopw [21, 23] (fun ok i wr => ok = .bool true ∧ ∃ k : Nat, (k : Int) ≤ dp ∧ i = .int .i64 k ∧ ListAt wr bl wd 0 none 0 none 0 mv none 0 ∧ ListAt wr w5.heap.size wd 0 none 0 none 0 0 (some ⟨bl, 0, none⟩) mv ∧ Below w.heap.size w wr) (fun _ i _ => dp.toNat - (intOf i).toNat)
  case atStart => exact ⟨rfl, 0, by omega, rfl, hL5.old _, ListAt.new _ _ _ _ _ _ _ _ _ _, hbw5.alloc hbw5.size _⟩
  case round =>
    obtain ⟨rfl, k, hk, rfl, hL, hC, hbr⟩ := hrel
    have q31 := neq31 ⟨bl, 0, none⟩
    by_cases hlt : (k : Int) < dp
    · go_wp2_with fail
      refine (fields_at hC).mono ?_
      rintro e w6 ⟨rfl, m6, rfl⟩
      go_wp2_with fail
      refine (reader_at_reader (hC.drewN m6) (hL.drewN m6)).mono ?_
      rintro e w7 ⟨rfl, hb7⟩
      have hC7 := (hC.drewN m6).below hb7 hC.lt
      have hL7 := (hL.drewN m6).below hb7 hL.lt
      have hbw7 := (below_drewN hbr m6).trans (hb7.mono (below_drewN hbr m6).size)
      obtain ⟨e0, e1, e2, e3, e4, e5, e6, e7, e8⟩ := hC7.cells
      have f0 := hC7.free 0
      have f1 := hC7.free 1
      have f2 := hC7.free 2
      have f3 := hC7.free 3
      have f4 := hC7.free 4
      have f5 := hC7.free 5
      have f6 := hC7.free 6
      have f7 := hC7.free 7
      have f8 := hC7.free 8
      have lt7 := hC7.lt
      have hsz5 := hbw5.size
      have hne : bl ≠ w5.heap.size := Nat.ne_of_lt hL5.lt
      go_wp2
      go_roundw
      case rel => exact ⟨rfl, k + 1, by omega, by go_num, hL7.beside9 hne _ _ _ _ _ _ _ _ _ _, hC7.set9 _, below9 hbw7 hsz5 (Nat.le_refl _) _ _ _ _ _ _ _ _ _ _⟩
      case measure => simp [intOf]; omega
    · go_wp2_with fail
      refine (fields_at hL).mono ?_
      rintro e w8 ⟨rfl, m8, rfl⟩
      go_wp2
      go_ret
      exact done (below_drewN hbr _)

end Go.Proofs.Qxb6627702a
