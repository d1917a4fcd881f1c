/- The walk of the law, function 3: by cases whether each list is nil. -/
import Derived.Test.Qxb6627673aCopies
namespace Go.Proofs.Qxb6627673a.sorted
open Go.ChangeShapes Go.WideShapes Go.ChangeAt Go.RowKit

def Done (w : World) (e : Ending) (w' : World) : Prop := e = .returned (.bool true) ∧ Below w.heap.size w w'
theorem done {w w' : World} (h : Below w.heap.size w w') : Done w (.returned (.bool true)) w' := ⟨rfl, h⟩

theorem lies_cell {w : World} {g n k : Nat} {S : Nat → ByteArray} (h : Lies w (some ⟨g, 0, none⟩) n S) (hk : k < n) : w.cell? ⟨g, k, none⟩ = some (.string (S k)) := by
  rcases h with h | ⟨b, off, e, h⟩
  · omega
  · cases e
    simpa using h k hk
theorem el_one {A : List ByteArray} {k n : Nat} (hA : A.length = n) (hk : k < n) : el A k ∈ A := el_mem (by omega)
set_option maxHeartbeats 8000000 in
theorem walk_nn (w : World) :
    Calls Try.prog 3 #[.slice none 0 0, .slice none 0 0] w fun e w' => Done w e w' := by
  obtain ⟨i0, hi, hz0, hz1, hz2⟩ := info_parts info9
  have q1 := fun (W : World) => run_neq_slice_nil_any (P := Try.prog) W 22 9 none 0 0 0 0 Try.underlying22
  have q0 := fun (W : World) => Lib.run_eql_slice_nil (P := Try.prog) W 22 9 none 0 0 0 0 Try.underlying22
  have H0 : Hid (Lies w none 0 (el [])) := hidden (.inl (by omega))
  have ma : 0 ≤ maxLen := Nat.zero_le _
  have H1 : Hid (Lies w none 0 (el [])) := hidden (.inl (by omega))
  have mb : 0 ≤ maxLen := Nat.zero_le _
  go_enter Try.func3, Try.ntmps3
  go_wp2_with fail
  refine (bytes5_any none none 0 0 0 0 (el []) (el []) w H0.out H1.out ma mb).mono ?_
  rintro e w' ⟨r, rfl, -, m, rfl⟩
  cases r
  · go_wp2
    go_ret
    exact done (below_drewN (Below.refl _ _) _)
  go_wp2_with fail
  refine (within_any none none 0 0 0 0 (el []) (el []) _ (H0.out.drewN m) (H1.out.drewN m) ma mb).mono ?_
  rintro e w' ⟨r, rfl, hr, m', rfl⟩
  cases r
  · go_wp2
    go_ret
    exact done (below_drewN (Below.refl _ _) _)
  obtain ⟨sa, sb⟩ := hr rfl
  clear hr
  go_wp2_with fail
  refine (inc_any none 0 0 [] _ (H0.out.drewN (m + m')) rfl ma).mono ?_
  rintro e w' ⟨r, rfl, hr, m1, rfl⟩
  cases r
  · go_wp2
    go_ret
    exact done (below_drewN (Below.refl _ _) _)
  have incA : inc [] := hr.1 rfl
  have IA := hidden incA
  clear hr incA
  go_wp2_with fail
  refine (inc_any none 0 0 [] _ (H1.out.drewN (m + m' + m1)) rfl mb).mono ?_
  rintro e w' ⟨r, rfl, hr, m2, rfl⟩
  cases r
  · go_wp2
    go_ret
    exact done (below_drewN (Below.refl _ _) _)
  have incB : inc [] := hr.1 rfl
  have IB := hidden incB
  clear hr incB
  go_wp2_with (fail)
  refine (union_nil_l none 0 0 _).mono ?_
  rintro e w5 ⟨rfl, rfl⟩
  go_wp2_with fail
  refine (inc_any none 0 0 [] _ (.inl (by omega)) rfl ma).mono ?_
  rintro e w6 ⟨r, rfl, hr, m6, rfl⟩
  obtain rfl : r = true := hr.2 IA.out
  clear hr
  go_wp2
  go_loopw [8] (fun i wr => ∃ k m : Nat, k ≤ 0 ∧ i = .int .i64 k ∧ wr = w.drewN m) (fun i _ => 0 - (intOf i).toNat)
  case atStart => exact ⟨0, _, Nat.zero_le _, rfl, rfl⟩
  case round =>
    obtain ⟨k, n1, hk', rfl, rfl⟩ := hrel
    by_cases hk : k < 0
    · omega
    · go_wp2
      go_loopw [9] (fun i wr => ∃ k m : Nat, k ≤ 0 ∧ i = .int .i64 k ∧ wr = w.drewN m) (fun i _ => 0 - (intOf i).toNat)
      case atStart => exact ⟨0, _, Nat.zero_le _, rfl, rfl⟩
      case round =>
        obtain ⟨k2, n2, hk', rfl, rfl⟩ := hrel
        by_cases hk : k2 < 0
        · omega
        · go_wp2
          go_loopw [10] (fun i wr => ∃ k m : Nat, k ≤ 0 ∧ i = .int .i64 k ∧ wr = w.drewN m) (fun i _ => 0 - (intOf i).toNat)
          case atStart => exact ⟨0, _, Nat.zero_le _, rfl, rfl⟩
          case round =>
            obtain ⟨k3, n3, hk', rfl, rfl⟩ := hrel
            by_cases hk : k3 < 0
            · omega
            · go_wp2
              go_ret
              exact done (below_drewN (Below.refl _ _) _)

set_option maxHeartbeats 8000000 in
theorem walk_ns (y : Addr) (lb cb : Nat) (w : World) (B : List ByteArray) (hB : B.length = lb) (mb : lb ≤ maxLen) (h1 : Lies w (some y) lb (el B)) :
    Calls Try.prog 3 #[.slice none 0 0, .slice (some y) lb cb] w fun e w' => Done w e w' := by
  obtain ⟨i0, hi, hz0, hz1, hz2⟩ := info_parts info9
  have q1 := fun (W : World) => run_neq_slice_nil_any (P := Try.prog) W 22 9 none 0 0 0 0 Try.underlying22
  have q2 := fun (W : World) => run_neq_slice_nil_any (P := Try.prog) W 22 9 (some y) lb cb 0 0 Try.underlying22
  have q0 := fun (W : World) => Lib.run_eql_slice_nil (P := Try.prog) W 22 9 none 0 0 0 0 Try.underlying22
  have H0 : Hid (Lies w none 0 (el [])) := hidden (.inl (by omega))
  have ma : 0 ≤ maxLen := Nat.zero_le _
  have HB : Hid (B.length = lb) := hB
  have H1 : Hid (Lies w (some y) lb (el B)) := h1
  clear hB h1
  go_enter Try.func3, Try.ntmps3
  go_wp2_with fail
  refine (bytes5_any none (some y) 0 0 lb cb (el []) (el B) w H0.out H1.out ma mb).mono ?_
  rintro e w' ⟨r, rfl, -, m, rfl⟩
  cases r
  · go_wp2
    go_ret
    exact done (below_drewN (Below.refl _ _) _)
  go_wp2_with fail
  refine (within_any none (some y) 0 0 lb cb (el []) (el B) _ (H0.out.drewN m) (H1.out.drewN m) ma mb).mono ?_
  rintro e w' ⟨r, rfl, hr, m', rfl⟩
  cases r
  · go_wp2
    go_ret
    exact done (below_drewN (Below.refl _ _) _)
  obtain ⟨sa, sb⟩ := hr rfl
  clear hr
  go_wp2_with fail
  refine (inc_any none 0 0 [] _ (H0.out.drewN (m + m')) rfl ma).mono ?_
  rintro e w' ⟨r, rfl, hr, m1, rfl⟩
  cases r
  · go_wp2
    go_ret
    exact done (below_drewN (Below.refl _ _) _)
  have incA : inc [] := hr.1 rfl
  have IA := hidden incA
  clear hr incA
  go_wp2_with fail
  refine (inc_any (some y) lb cb B _ (H1.out.drewN (m + m' + m1)) HB.out mb).mono ?_
  rintro e w' ⟨r, rfl, hr, m2, rfl⟩
  cases r
  · go_wp2
    go_ret
    exact done (below_drewN (Below.refl _ _) _)
  have incB : inc B := hr.1 rfl
  have IB := hidden incB
  clear hr incB
  go_wp2_with (first | (at_make; refine wpList_make_full _ rfl (.tmp 39) (.tmp 39) 22 rfl w.heap.size 9 i0 (.string ByteArray.empty) 1 Try.underlying22 hi hz0 hz1 _ _ _ _ lb rfl rfl rfl rfl (by rw [hz2]; omega) mb (Nat.le_refl _) ?_; intro w3 hown hgrow; obtain ⟨Z3, M3⟩ : ∃ Z, Made w3 w.heap.size lb Z := ⟨_, made hown⟩; have hb3 := made_below_drew hgrow; have C3 := canCopy M3 HB.out H1.out hb3 (Nat.le_refl _); clear hown hgrow) | (have _t := M3; refine wpList_copy_splice rfl (.tmp 41) (.tmp 42) 22 22 rfl 9 Try.underlying22 size9 _ _ _ _ _ _ rfl rfl w.heap.size 0 Z3 9 M3.1 (B.map Value.string) C3.1 C3.2.2 C3.2.1 (strs_oneCell _) w.heap.size w hb3 (Nat.le_refl _) ?_; intro w4 HG hbw; have RB4 := spliced M3.2 HB.out HG; have lt4 := RB4.lt; clear HG M3 C3 hb3))
  refine (union_nil_l (some ⟨w.heap.size, 0, none⟩) lb lb _).mono ?_
  rintro e w5 ⟨rfl, rfl⟩
  have q3 := fun (W : World) => Lib.run_eql_slice_nil (P := Try.prog) W 22 9 (some ⟨w.heap.size, 0, none⟩) lb lb 0 0 Try.underlying22
  go_wp2_with fail
  refine (inc_any (some ⟨w.heap.size, 0, none⟩) lb lb B _ ((RB4.drewN 0).lies HB.out) HB.out mb).mono ?_
  rintro e w6 ⟨r, rfl, hr, m6, rfl⟩
  obtain rfl : r = true := hr.2 IB.out
  clear hr
  go_wp2
  go_loopw [8] (fun i wr => ∃ k m : Nat, k ≤ lb ∧ i = .int .i64 k ∧ wr = w5.drewN m) (fun i _ => lb - (intOf i).toNat)
  case atStart => exact ⟨0, _, Nat.zero_le _, rfl, rfl⟩
  case round =>
    obtain ⟨k, n1, hk', rfl, rfl⟩ := hrel
    by_cases hk : k < lb
    · have HM := hidden (show el B k ∈ [] ∨ el B k ∈ B from (.inr (el_one HB.out hk)))
      have hc : w5.cell? ⟨w.heap.size, k, none⟩ = some (.string (el B k)) := (by simpa using RB4.cell k (by rw [HB.out]; omega))
      have ik : (k : Int) < (lb : Nat) := by omega
      go_wp2_with fail
      refine (has_any none 0 0 [] (el B k) _ (.inl (by omega)) rfl ma IA.out).mono ?_
      rintro e w7 ⟨r, rfl, hr, m7, rfl⟩
      cases r
      · go_wp2_with fail
        refine (has_any (some ⟨w.heap.size, 0, none⟩) lb lb B (el B k) _ ((RB4.drewN (n1 + m7)).lies HB.out) HB.out mb IB.out).mono ?_
        rintro e w8 ⟨r, rfl, hr2, m8, rfl⟩
        obtain rfl : r = true := hr2 (HM.out.resolve_left (fun h => by cases hr h))
        go_wp2
        go_roundw
        case rel => exact ⟨k + 1, _, by omega, by go_num, rfl⟩
        case measure => simp [intOf]; omega
      · go_wp2
        go_roundw
        case rel => exact ⟨k + 1, _, by omega, by go_num, rfl⟩
        case measure => simp [intOf]; omega
    · go_wp2
      go_loopw [9] (fun i wr => ∃ k m : Nat, k ≤ 0 ∧ i = .int .i64 k ∧ wr = w5.drewN m) (fun i _ => 0 - (intOf i).toNat)
      case atStart => exact ⟨0, _, Nat.zero_le _, rfl, rfl⟩
      case round =>
        obtain ⟨k2, n2, hk', rfl, rfl⟩ := hrel
        by_cases hk : k2 < 0
        · omega
        · go_wp2
          go_loopw [10] (fun i wr => ∃ k m : Nat, k ≤ lb ∧ i = .int .i64 k ∧ wr = w5.drewN m) (fun i _ => lb - (intOf i).toNat)
          case atStart => exact ⟨0, _, Nat.zero_le _, rfl, rfl⟩
          case round =>
            obtain ⟨k3, n3, hk', rfl, rfl⟩ := hrel
            by_cases hk : k3 < lb
            · have hmem := hidden (show el B k3 ∈ B from (el_one HB.out hk))
              have hc : w5.cell? ⟨w.heap.size, k3, none⟩ = some (.string (el B k3)) := (by simpa using RB4.cell k3 (by rw [HB.out]; omega))
              have ik : (k3 : Int) < (lb : Nat) := by omega
              go_wp2_with fail
              refine (has_any (some ⟨w.heap.size, 0, none⟩) lb lb B (el B k3) _ ((RB4.drewN n3).lies HB.out) HB.out mb IB.out).mono ?_
              rintro e w7 ⟨r, rfl, hr, m7, rfl⟩
              obtain rfl : r = true := hr hmem.out
              go_wp2
              go_roundw
              case rel => exact ⟨k3 + 1, _, by omega, by go_num, rfl⟩
              case measure => simp [intOf]; omega
            · go_wp2
              go_ret
              exact done (below_drewN hbw _)

set_option maxHeartbeats 8000000 in
theorem walk_sn (x : Addr) (la ca : Nat) (w : World) (A : List ByteArray) (hA : A.length = la) (ma : la ≤ maxLen) (h0 : Lies w (some x) la (el A)) :
    Calls Try.prog 3 #[.slice (some x) la ca, .slice none 0 0] w fun e w' => Done w e w' := by
  obtain ⟨i0, hi, hz0, hz1, hz2⟩ := info_parts info9
  have q1 := fun (W : World) => run_neq_slice_nil_any (P := Try.prog) W 22 9 (some x) la ca 0 0 Try.underlying22
  have q2 := fun (W : World) => run_neq_slice_nil_any (P := Try.prog) W 22 9 none 0 0 0 0 Try.underlying22
  have q0 := fun (W : World) => Lib.run_eql_slice_nil (P := Try.prog) W 22 9 none 0 0 0 0 Try.underlying22
  have HA : Hid (A.length = la) := hA
  have H0 : Hid (Lies w (some x) la (el A)) := h0
  clear hA h0
  have H1 : Hid (Lies w none 0 (el [])) := hidden (.inl (by omega))
  have mb : 0 ≤ maxLen := Nat.zero_le _
  go_enter Try.func3, Try.ntmps3
  go_wp2_with fail
  refine (bytes5_any (some x) none la ca 0 0 (el A) (el []) w H0.out H1.out ma mb).mono ?_
  rintro e w' ⟨r, rfl, -, m, rfl⟩
  cases r
  · go_wp2
    go_ret
    exact done (below_drewN (Below.refl _ _) _)
  go_wp2_with fail
  refine (within_any (some x) none la ca 0 0 (el A) (el []) _ (H0.out.drewN m) (H1.out.drewN m) ma mb).mono ?_
  rintro e w' ⟨r, rfl, hr, m', rfl⟩
  cases r
  · go_wp2
    go_ret
    exact done (below_drewN (Below.refl _ _) _)
  obtain ⟨sa, sb⟩ := hr rfl
  clear hr
  go_wp2_with fail
  refine (inc_any (some x) la ca A _ (H0.out.drewN (m + m')) HA.out ma).mono ?_
  rintro e w' ⟨r, rfl, hr, m1, rfl⟩
  cases r
  · go_wp2
    go_ret
    exact done (below_drewN (Below.refl _ _) _)
  have incA : inc A := hr.1 rfl
  have IA := hidden incA
  clear hr incA
  go_wp2_with fail
  refine (inc_any none 0 0 [] _ (H1.out.drewN (m + m' + m1)) rfl mb).mono ?_
  rintro e w' ⟨r, rfl, hr, m2, rfl⟩
  cases r
  · go_wp2
    go_ret
    exact done (below_drewN (Below.refl _ _) _)
  have incB : inc [] := hr.1 rfl
  have IB := hidden incB
  clear hr incB
  go_wp2_with (first | (at_make; refine wpList_make_full _ rfl (.tmp 30) (.tmp 30) 22 rfl w.heap.size 9 i0 (.string ByteArray.empty) 1 Try.underlying22 hi hz0 hz1 _ _ _ _ la rfl rfl rfl rfl (by rw [hz2]; omega) ma (Nat.le_refl _) ?_; intro w1 hown hgrow; obtain ⟨Z1, M1⟩ : ∃ Z, Made w1 w.heap.size la Z := ⟨_, made hown⟩; have hb1 := made_below_drew hgrow; have C1 := canCopy M1 HA.out H0.out hb1 (Nat.le_refl _); clear hown hgrow) | (have _t := M1; refine wpList_copy_splice rfl (.tmp 32) (.tmp 33) 22 22 rfl 9 Try.underlying22 size9 _ _ _ _ _ _ rfl rfl w.heap.size 0 Z1 9 M1.1 (A.map Value.string) C1.1 C1.2.2 C1.2.1 (strs_oneCell _) w.heap.size w hb1 (Nat.le_refl _) ?_; intro w2 HG hb2; have RA2 := spliced M1.2 HA.out HG; have z2 := hb2.size; have lt2 := RA2.lt; clear HG M1 C1 hb1))
  refine (union_nil_r ⟨w.heap.size, 0, none⟩ la la _).mono ?_
  rintro e w5 ⟨rfl, rfl⟩
  have q3 := fun (W : World) => Lib.run_eql_slice_nil (P := Try.prog) W 22 9 (some ⟨w.heap.size, 0, none⟩) la la 0 0 Try.underlying22
  go_wp2_with fail
  refine (inc_any (some ⟨w.heap.size, 0, none⟩) la la A _ ((RA2.drewN 0).lies HA.out) HA.out ma).mono ?_
  rintro e w6 ⟨r, rfl, hr, m6, rfl⟩
  obtain rfl : r = true := hr.2 IA.out
  clear hr
  go_wp2
  go_loopw [8] (fun i wr => ∃ k m : Nat, k ≤ la ∧ i = .int .i64 k ∧ wr = w5.drewN m) (fun i _ => la - (intOf i).toNat)
  case atStart => exact ⟨0, _, Nat.zero_le _, rfl, rfl⟩
  case round =>
    obtain ⟨k, n1, hk', rfl, rfl⟩ := hrel
    by_cases hk : k < la
    · have HM := hidden (show el A k ∈ A ∨ el A k ∈ [] from (.inl (el_one HA.out hk)))
      have hc : w5.cell? ⟨w.heap.size, k, none⟩ = some (.string (el A k)) := (by simpa using RA2.cell k (by rw [HA.out]; omega))
      have ik : (k : Int) < (la : Nat) := by omega
      go_wp2_with fail
      refine (has_any (some ⟨w.heap.size, 0, none⟩) la la A (el A k) _ ((RA2.drewN n1).lies HA.out) HA.out ma IA.out).mono ?_
      rintro e w7 ⟨r, rfl, hr, m7, rfl⟩
      cases r
      · go_wp2_with fail
        refine (has_any none 0 0 [] (el A k) _ (.inl (by omega)) rfl mb IB.out).mono ?_
        rintro e w8 ⟨r, rfl, hr2, m8, rfl⟩
        obtain rfl : r = true := hr2 (HM.out.resolve_left (fun h => by cases hr h))
        go_wp2
        go_roundw
        case rel => exact ⟨k + 1, _, by omega, by go_num, rfl⟩
        case measure => simp [intOf]; omega
      · go_wp2
        go_roundw
        case rel => exact ⟨k + 1, _, by omega, by go_num, rfl⟩
        case measure => simp [intOf]; omega
    · go_wp2
      go_loopw [9] (fun i wr => ∃ k m : Nat, k ≤ la ∧ i = .int .i64 k ∧ wr = w5.drewN m) (fun i _ => la - (intOf i).toNat)
      case atStart => exact ⟨0, _, Nat.zero_le _, rfl, rfl⟩
      case round =>
        obtain ⟨k2, n2, hk', rfl, rfl⟩ := hrel
        by_cases hk : k2 < la
        · have hmem := hidden (show el A k2 ∈ A from (el_one HA.out hk))
          have hc : w5.cell? ⟨w.heap.size, k2, none⟩ = some (.string (el A k2)) := (by simpa using RA2.cell k2 (by rw [HA.out]; omega))
          have ik : (k2 : Int) < (la : Nat) := by omega
          go_wp2_with fail
          refine (has_any (some ⟨w.heap.size, 0, none⟩) la la A (el A k2) _ ((RA2.drewN n2).lies HA.out) HA.out ma IA.out).mono ?_
          rintro e w7 ⟨r, rfl, hr, m7, rfl⟩
          obtain rfl : r = true := hr hmem.out
          go_wp2
          go_roundw
          case rel => exact ⟨k2 + 1, _, by omega, by go_num, rfl⟩
          case measure => simp [intOf]; omega
        · go_wp2
          go_loopw [10] (fun i wr => ∃ k m : Nat, k ≤ 0 ∧ i = .int .i64 k ∧ wr = w5.drewN m) (fun i _ => 0 - (intOf i).toNat)
          case atStart => exact ⟨0, _, Nat.zero_le _, rfl, rfl⟩
          case round =>
            obtain ⟨k3, n3, hk', rfl, rfl⟩ := hrel
            by_cases hk : k3 < 0
            · omega
            · go_wp2
              go_ret
              exact done (below_drewN hb2 _)

set_option maxHeartbeats 8000000 in
theorem walk_ss (x : Addr) (la ca : Nat) (y : Addr) (lb cb : Nat) (w : World) (A : List ByteArray) (hA : A.length = la) (ma : la ≤ maxLen) (h0 : Lies w (some x) la (el A)) (B : List ByteArray) (hB : B.length = lb) (mb : lb ≤ maxLen) (h1 : Lies w (some y) lb (el B)) :
    Calls Try.prog 3 #[.slice (some x) la ca, .slice (some y) lb cb] w fun e w' => Done w e w' := by
  obtain ⟨i0, hi, hz0, hz1, hz2⟩ := info_parts info9
  have q1 := fun (W : World) => run_neq_slice_nil_any (P := Try.prog) W 22 9 (some x) la ca 0 0 Try.underlying22
  have q2 := fun (W : World) => run_neq_slice_nil_any (P := Try.prog) W 22 9 (some y) lb cb 0 0 Try.underlying22
  have HA : Hid (A.length = la) := hA
  have H0 : Hid (Lies w (some x) la (el A)) := h0
  clear hA h0
  have HB : Hid (B.length = lb) := hB
  have H1 : Hid (Lies w (some y) lb (el B)) := h1
  clear hB h1
  go_enter Try.func3, Try.ntmps3
  go_wp2_with fail
  refine (bytes5_any (some x) (some y) la ca lb cb (el A) (el B) w H0.out H1.out ma mb).mono ?_
  rintro e w' ⟨r, rfl, -, m, rfl⟩
  cases r
  · go_wp2
    go_ret
    exact done (below_drewN (Below.refl _ _) _)
  go_wp2_with fail
  refine (within_any (some x) (some y) la ca lb cb (el A) (el B) _ (H0.out.drewN m) (H1.out.drewN m) ma mb).mono ?_
  rintro e w' ⟨r, rfl, hr, m', rfl⟩
  cases r
  · go_wp2
    go_ret
    exact done (below_drewN (Below.refl _ _) _)
  obtain ⟨sa, sb⟩ := hr rfl
  clear hr
  go_wp2_with fail
  refine (inc_any (some x) la ca A _ (H0.out.drewN (m + m')) HA.out ma).mono ?_
  rintro e w' ⟨r, rfl, hr, m1, rfl⟩
  cases r
  · go_wp2
    go_ret
    exact done (below_drewN (Below.refl _ _) _)
  have incA : inc A := hr.1 rfl
  have IA := hidden incA
  clear hr incA
  go_wp2_with fail
  refine (inc_any (some y) lb cb B _ (H1.out.drewN (m + m' + m1)) HB.out mb).mono ?_
  rintro e w' ⟨r, rfl, hr, m2, rfl⟩
  cases r
  · go_wp2
    go_ret
    exact done (below_drewN (Below.refl _ _) _)
  have incB : inc B := hr.1 rfl
  have IB := hidden incB
  clear hr incB
  go_wp2_with (first | (at_make; refine wpList_make_full _ rfl (.tmp 30) (.tmp 30) 22 rfl w.heap.size 9 i0 (.string ByteArray.empty) 1 Try.underlying22 hi hz0 hz1 _ _ _ _ la rfl rfl rfl rfl (by rw [hz2]; omega) ma (Nat.le_refl _) ?_; intro w1 hown hgrow; obtain ⟨Z1, M1⟩ : ∃ Z, Made w1 w.heap.size la Z := ⟨_, made hown⟩; have hb1 := made_below_drew hgrow; have C1 := canCopy M1 HA.out H0.out hb1 (Nat.le_refl _); clear hown hgrow) | (have _t := M1; refine wpList_copy_splice rfl (.tmp 32) (.tmp 33) 22 22 rfl 9 Try.underlying22 size9 _ _ _ _ _ _ rfl rfl w.heap.size 0 Z1 9 M1.1 (A.map Value.string) C1.1 C1.2.2 C1.2.1 (strs_oneCell _) w.heap.size w hb1 (Nat.le_refl _) ?_; intro w2 HG hb2; have RA2 := spliced M1.2 HA.out HG; have z2 := hb2.size; have lt2 := RA2.lt; clear HG M1 C1 hb1) | (at_make; refine wpList_make_full _ rfl (.tmp 39) (.tmp 39) 22 rfl w2.heap.size 9 i0 (.string ByteArray.empty) 1 Try.underlying22 hi hz0 hz1 _ _ _ _ lb rfl rfl rfl rfl (by rw [hz2]; omega) mb (Nat.le_refl _) ?_; intro w3 hown hgrow; obtain ⟨Z3, M3⟩ : ∃ Z, Made w3 w2.heap.size lb Z := ⟨_, made hown⟩; have hb3 := made_below hgrow; have C3 := canCopy M3 HB.out H1.out (hb2.trans (hb3.mono z2)) (Nat.le_refl _); clear hown hgrow) | (have _t := M3; refine wpList_copy_splice rfl (.tmp 41) (.tmp 42) 22 22 rfl 9 Try.underlying22 size9 _ _ _ _ _ _ rfl rfl w2.heap.size 0 Z3 9 M3.1 (B.map Value.string) C3.1 C3.2.2 C3.2.1 (strs_oneCell _) w2.heap.size w2 hb3 (Nat.le_refl _) ?_; intro w4 HG hb4; have RB4 := spliced M3.2 HB.out HG; have RA4 := RA2.below hb4 lt2; have hbw := hb2.trans (hb4.mono z2); have lt4 := RB4.lt; clear HG M3 C3 hb3))
  refine (union_any w.heap.size w2.heap.size la lb A B w4 sa sb HA.out HB.out RA4.lt RB4.lt (fun t ht => RA4.cell t (by rw [HA.out]; exact ht)) (fun t ht => RB4.cell t (by rw [HB.out]; exact ht))).mono ?_
  rintro e w5 ⟨rfl, hownR, hb5⟩
  have LR := hidden (owned_lies hownR)
  have RA5 := RA4.below hb5 RA4.lt
  have RB5 := RB4.below hb5 RB4.lt
  have hbw5 := hbw.trans (hb5.mono hbw.size)
  have hml : (mg A B).length ≤ la + lb := by have := mg_len A B; rw [HA.out, HB.out] at this; exact this
  have mR : (mg A B).length ≤ maxLen := by unfold maxLen; omega
  have q3 := fun (W : World) => Lib.run_eql_slice_nil (P := Try.prog) W 22 9 (some ⟨w4.heap.size, 0, none⟩) (mg A B).length (la + lb) 0 0 Try.underlying22
  have q4 := fun (W : World) => Lib.run_eql_slice_nil (P := Try.prog) W 22 9 (some ⟨w.heap.size, 0, none⟩) la la 0 0 Try.underlying22
  clear hownR RA4 RB4 RA2 q1 q2 hb5 hb2 hb4 hbw
  go_wp2_with fail
  refine (inc_any (some ⟨w4.heap.size, 0, none⟩) (mg A B).length (la + lb) (mg A B) _ (LR.out.drewN 0) rfl mR).mono ?_
  rintro e w6 ⟨r, rfl, hr, m6, rfl⟩
  obtain rfl : r = true := hr.2 (inc_mg A B IA.out IB.out)
  clear hr
  go_wp2
  go_loopw [8] (fun i wr => ∃ k m : Nat, k ≤ (mg A B).length ∧ i = .int .i64 k ∧ wr = w5.drewN m) (fun i _ => (mg A B).length - (intOf i).toNat)
  case atStart => exact ⟨0, _, Nat.zero_le _, rfl, rfl⟩
  case round =>
    obtain ⟨k, n1, hk', rfl, rfl⟩ := hrel
    by_cases hk : k < (mg A B).length
    · have HM := hidden (show el (mg A B) k ∈ A ∨ el (mg A B) k ∈ B from (mg_mem A B _ (el_mem hk)))
      have hc : w5.cell? ⟨w4.heap.size, k, none⟩ = some (.string (el (mg A B) k)) := (lies_cell LR.out hk)
      have ik : (k : Int) < ((mg A B).length : Nat) := by omega
      go_wp2_with fail
      refine (has_any (some ⟨w.heap.size, 0, none⟩) la la A (el (mg A B) k) _ ((RA5.drewN n1).lies HA.out) HA.out ma IA.out).mono ?_
      rintro e w7 ⟨r, rfl, hr, m7, rfl⟩
      cases r
      · go_wp2_with fail
        refine (has_any (some ⟨w2.heap.size, 0, none⟩) lb lb B (el (mg A B) k) _ ((RB5.drewN (n1 + m7)).lies HB.out) HB.out mb IB.out).mono ?_
        rintro e w8 ⟨r, rfl, hr2, m8, rfl⟩
        obtain rfl : r = true := hr2 (HM.out.resolve_left (fun h => by cases hr h))
        go_wp2
        go_roundw
        case rel => exact ⟨k + 1, _, by omega, by go_num, rfl⟩
        case measure => simp [intOf]; omega
      · go_wp2
        go_roundw
        case rel => exact ⟨k + 1, _, by omega, by go_num, rfl⟩
        case measure => simp [intOf]; omega
    · go_wp2
      go_loopw [9] (fun i wr => ∃ k m : Nat, k ≤ la ∧ i = .int .i64 k ∧ wr = w5.drewN m) (fun i _ => la - (intOf i).toNat)
      case atStart => exact ⟨0, _, Nat.zero_le _, rfl, rfl⟩
      case round =>
        obtain ⟨k2, n2, hk', rfl, rfl⟩ := hrel
        by_cases hk : k2 < la
        · have hmem := hidden (show el A k2 ∈ (mg A B) from ((mg_sub_l A B).subset (el_one HA.out hk)))
          have hc : w5.cell? ⟨w.heap.size, k2, none⟩ = some (.string (el A k2)) := (by simpa using RA5.cell k2 (by rw [HA.out]; omega))
          have ik : (k2 : Int) < (la : Nat) := by omega
          go_wp2_with fail
          refine (has_any (some ⟨w4.heap.size, 0, none⟩) (mg A B).length (la + lb) (mg A B) (el A k2) _ (LR.out.drewN n2) rfl mR (inc_mg A B IA.out IB.out)).mono ?_
          rintro e w7 ⟨r, rfl, hr, m7, rfl⟩
          obtain rfl : r = true := hr hmem.out
          go_wp2
          go_roundw
          case rel => exact ⟨k2 + 1, _, by omega, by go_num, rfl⟩
          case measure => simp [intOf]; omega
        · go_wp2
          go_loopw [10] (fun i wr => ∃ k m : Nat, k ≤ lb ∧ i = .int .i64 k ∧ wr = w5.drewN m) (fun i _ => lb - (intOf i).toNat)
          case atStart => exact ⟨0, _, Nat.zero_le _, rfl, rfl⟩
          case round =>
            obtain ⟨k3, n3, hk', rfl, rfl⟩ := hrel
            by_cases hk : k3 < lb
            · have hmem := hidden (show el B k3 ∈ (mg A B) from ((mg_sub_r A B).subset (el_one HB.out hk)))
              have hc : w5.cell? ⟨w2.heap.size, k3, none⟩ = some (.string (el B k3)) := (by simpa using RB5.cell k3 (by rw [HB.out]; omega))
              have ik : (k3 : Int) < (lb : Nat) := by omega
              go_wp2_with fail
              refine (has_any (some ⟨w4.heap.size, 0, none⟩) (mg A B).length (la + lb) (mg A B) (el B k3) _ (LR.out.drewN n3) rfl mR (inc_mg A B IA.out IB.out)).mono ?_
              rintro e w7 ⟨r, rfl, hr, m7, rfl⟩
              obtain rfl : r = true := hr hmem.out
              go_wp2
              go_roundw
              case rel => exact ⟨k3 + 1, _, by omega, by go_num, rfl⟩
              case measure => simp [intOf]; omega
            · go_wp2
              go_ret
              exact done (below_drewN hbw5 _)

end Go.Proofs.Qxb6627673a.sorted
