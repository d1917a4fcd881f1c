/- The law's walk, all roads together. -/
import Derived.Test.Qxb6627702aOut
import Derived.Test.Qxb6627702aLeafZ
import Derived.Test.Qxb6627702aLeafP
namespace Go.Proofs.Qxb6627702a
open Go.ChangeShapes Go.WideShapes Go.ChangeAt Go.RowKit

theorem no_rest {n : Nat} {s : Int} (h : (n : Int) % s = 0) (h' : (n : Int) / s = 0) : n = 0 := by
  have := Int.mul_ediv_add_emod (n : Int) s
  rw [h, h'] at this
  simp at this
  omega

theorem all (wd sn mv dp : Int) (hd : Bool) (a1 a2 : Option Addr) (n1 c1 n2 c2 : Nat) (S1 : Nat → Int) (S2 : Nat → ByteArray) (w : World) (H1 : Lies w a1 n1 (byteV S1)) (H2 : Lies w a2 n2 (strV S2)) (Z1 : Nily a1 n1 c1) (Z2 : Nily a2 n2 c2)
    (m1 : n1 ≤ maxLen) (m2 : n2 ≤ maxLen) :
    Calls Try.prog 3 #[.int .i64 wd, .int .i64 sn, .slice a1 n1 c1, .slice a2 n2 c2, .int .u64 mv, .bool hd, .int .i64 dp] w fun e w' => Done w e w' := by
  by_cases b1 : (1048576 : Int) < n1
  · exact out1 wd sn mv dp hd a1 a2 n1 c1 n2 c2 S2 w H2 m1 m2 b1
  have g1 : (n1 : Int) ≤ 1048576 := by omega
  by_cases b2 : (131072 : Int) < n2
  · exact out2 wd sn mv dp hd a1 a2 n1 c1 n2 c2 S2 w H2 m1 m2 g1 b2
  have g2 : (n2 : Int) ≤ 131072 := by omega
  by_cases b3 : (1048576 : Int) < n1 + 8 * n2
  · exact out3 wd sn mv dp hd a1 a2 n1 c1 n2 c2 S2 w H2 m1 m2 g1 g2 b3
  have g3 : (n1 : Int) + 8 * n2 ≤ 1048576 := by omega
  by_cases d1 : wd < 1
  · exact out4 wd sn mv dp hd a1 a2 n1 c1 n2 c2 S2 w H2 m1 m2 g1 g2 g3 d1
  have gw1 : 1 ≤ wd := by omega
  by_cases d2 : 65536 < wd
  · exact out5 wd sn mv dp hd a1 a2 n1 c1 n2 c2 S2 w H2 m1 m2 g1 g2 g3 gw1 d2
  have gw2 : wd ≤ 65536 := by omega
  by_cases d3 : sn < 0
  · exact out6 wd sn mv dp hd a1 a2 n1 c1 n2 c2 S2 w H2 m1 m2 g1 g2 g3 gw1 gw2 d3
  have gs1 : 0 ≤ sn := by omega
  by_cases d4 : 65536 < sn
  · exact out7 wd sn mv dp hd a1 a2 n1 c1 n2 c2 S2 w H2 m1 m2 g1 g2 g3 gw1 gw2 gs1 d4
  have gs2 : sn ≤ 65536 := by omega
  by_cases d5 : dp < 1
  · exact out8 wd sn mv dp hd a1 a2 n1 c1 n2 c2 S2 w H2 m1 m2 g1 g2 g3 gw1 gw2 gs1 gs2 d5
  have gd1 : 1 ≤ dp := by omega
  by_cases d6 : 64 < dp
  · exact out9 wd sn mv dp hd a1 a2 n1 c1 n2 c2 S2 w H2 m1 m2 g1 g2 g3 gw1 gw2 gs1 gs2 gd1 d6
  have gd2 : dp ≤ 64 := by omega
  by_cases d7 : (n1 : Int) % wd = 0
  case neg => exact out10 wd sn mv dp hd a1 a2 n1 c1 n2 c2 S2 w H2 m1 m2 g1 g2 g3 gw1 gw2 gs1 gs2 gd1 gd2 (by simp [d7])
  case pos =>
    have d7' : ((n1 : Int) % wd != 0) = false := by simp [d7]
    have q0 : 0 ≤ (n1 : Int) / wd := Int.ediv_nonneg (by omega) (by omega)
    have q1 : (n1 : Int) / wd ≤ 1048576 := Int.le_trans (Int.ediv_le_self _ (by omega)) g1
    have G1 : n1 ≤ 1048576 := by omega
    have G2 : n2 ≤ 131072 := by omega
    have G3 : n1 + 8 * n2 ≤ 1048576 := by omega
    by_cases d8 : sn = 0
    · by_cases d9 : n2 = 0
      · by_cases hq : 0 < (n1 : Int) / wd
        · cases hh : hd
          · rw [← hh]; exact leaf_zn wd sn mv dp hd a1 a2 n1 c1 n2 c2 S1 S2 w H1 H2 Z1 Z2 G1 G2 G3 gw1 gw2 gs1 gs2 gd1 gd2 hh _ rfl hq q1 d7 d8 d9
          · rw [← hh]; exact leaf_zh wd sn mv dp hd a1 a2 n1 c1 n2 c2 S1 S2 w H1 H2 Z1 Z2 G1 G2 G3 gw1 gw2 gs1 gs2 gd1 gd2 hh _ rfl hq q1 d7 d8 d9
        · have hq0 : (n1 : Int) / wd = 0 := by omega
          cases hh : hd
          · rw [← hh]; exact leaf_zf wd sn mv dp hd a1 a2 n1 c1 n2 c2 S1 S2 w H1 H2 Z1 Z2 G1 G2 G3 gw1 gw2 gs1 gs2 gd1 gd2 hh hq0 d7 d8 d9
          · rw [← hh]; exact leaf_zt wd sn mv dp hd a1 a2 n1 c1 n2 c2 S1 S2 w H1 H2 Z1 Z2 G1 G2 G3 gw1 gw2 gs1 gs2 gd1 gd2 hh hq0 d7 d8 d9
      · exact out11 wd sn mv dp hd a1 a2 n1 c1 n2 c2 S2 w H2 m1 m2 g1 g2 g3 gw1 gw2 gs1 gs2 gd1 gd2 d7' (by omega) d8
    · have gs0 : 1 ≤ sn := by omega
      by_cases d10 : (n2 : Int) % sn = 0
      · by_cases d11 : (n2 : Int) / sn = (n1 : Int) / wd
        · by_cases hq : 0 < (n1 : Int) / wd
          · cases hh : hd
            · rw [← hh]; exact leaf_pn wd sn mv dp hd a1 a2 n1 c1 n2 c2 S1 S2 w H1 H2 Z1 Z2 G1 G2 G3 gw1 gw2 gs1 gs2 gd1 gd2 hh _ rfl hq q1 d7 gs0 d10 d11
            · rw [← hh]; exact leaf_ph wd sn mv dp hd a1 a2 n1 c1 n2 c2 S1 S2 w H1 H2 Z1 Z2 G1 G2 G3 gw1 gw2 gs1 gs2 gd1 gd2 hh _ rfl hq q1 d7 gs0 d10 d11
          · have hq0 : (n1 : Int) / wd = 0 := by omega
            cases hh : hd
            · rw [← hh]; exact leaf_pf wd sn mv dp hd a1 a2 n1 c1 n2 c2 S1 S2 w H1 H2 Z1 Z2 G1 G2 G3 gw1 gw2 gs1 gs2 gd1 gd2 hh hq0 d7 gs0 (no_rest d10 (d11.trans hq0))
            · rw [← hh]; exact leaf_pt wd sn mv dp hd a1 a2 n1 c1 n2 c2 S1 S2 w H1 H2 Z1 Z2 G1 G2 G3 gw1 gw2 gs1 gs2 gd1 gd2 hh hq0 d7 gs0 (no_rest d10 (d11.trans hq0))
        · exact out13 wd sn mv dp hd a1 a2 n1 c1 n2 c2 S2 w H2 m1 m2 g1 g2 g3 _ _ rfl rfl q0 q1 (Int.ediv_nonneg (by omega) (by omega)) (Int.le_trans (Int.ediv_le_self _ (by omega)) g2) gw1 gw2 gs0 gs2 gd1 gd2 d7' (by simp [d10]) (by simp [d11])
      · exact out12 wd sn mv dp hd a1 a2 n1 c1 n2 c2 S2 w H2 m1 m2 g1 g2 g3 gw1 gw2 gs0 gs2 gd1 gd2 d7' (by simp [d10])
end Go.Proofs.Qxb6627702a
