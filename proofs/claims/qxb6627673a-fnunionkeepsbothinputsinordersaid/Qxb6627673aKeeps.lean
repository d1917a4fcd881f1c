/- The walk of the law, function 4: by cases whether each list is nil. -/
import Derived.Test.Qxb6627673aCopies
namespace Go.Proofs.Qxb6627673a.keeps
open Go.ChangeShapes Go.WideShapes Go.ChangeAt Go.RowKit

def Done (w : World) (e : Ending) (w' : World) : Prop := e = .returned (.bool true) ∧ Below w.heap.size w w'
theorem done {w w' : World} (h : Below w.heap.size w w') : Done w (.returned (.bool true)) w' := ⟨rfl, h⟩

set_option maxHeartbeats 8000000 in
theorem walk_nn (w : World) :
    Calls Try.prog 4 #[.slice none 0 0, .slice none 0 0] w fun e w' => Done w e w' := by
  obtain ⟨i0, hi, hz0, hz1, hz2⟩ := info_parts info9
  have q1 := fun (W : World) => run_neq_slice_nil_any (P := Try.prog) W 22 9 none 0 0 0 0 Try.underlying22
  have q0 := fun (W : World) => Lib.run_eql_slice_nil (P := Try.prog) W 22 9 none 0 0 0 0 Try.underlying22
  have H0 : Hid (Lies w none 0 (el [])) := hidden (.inl (by omega))
  have ma : 0 ≤ maxLen := Nat.zero_le _
  have H1 : Hid (Lies w none 0 (el [])) := hidden (.inl (by omega))
  have mb : 0 ≤ maxLen := Nat.zero_le _
  go_enter Try.func4, Try.ntmps4
  go_wp2_with fail
  refine (bytes10_any none none 0 0 0 0 (el []) (el []) w H0.out H1.out ma mb).mono ?_
  rintro e w' ⟨r, rfl, -, m, rfl⟩
  cases r
  · go_wp2
    go_ret
    exact done (below_drewN (Below.refl _ _) _)
  go_wp2_with fail
  refine (within_any none none 0 0 0 0 (el []) (el []) _ (H0.out.drewN m) (H1.out.drewN m) ma mb).mono ?_
  rintro e w' ⟨r, rfl, hr, m', rfl⟩
  cases r
  · go_wp2
    go_ret
    exact done (below_drewN (Below.refl _ _) _)
  obtain ⟨sa, sb⟩ := hr rfl
  clear hr
  go_wp2_with (fail)
  refine (union_nil_l none 0 0 _).mono ?_
  rintro e w5 ⟨rfl, rfl⟩
  go_wp2_with fail
  refine (sub_any none none 0 0 0 0 [] [] _ (.inl (by omega)) (.inl (by omega)) rfl rfl ma ma (List.Sublist.refl _)).mono ?_
  rintro e w6 ⟨r, rfl, hr, m7, rfl⟩
  obtain rfl : r = true := hr
  go_wp2_with fail
  refine (sub_any none none 0 0 0 0 [] [] _ (.inl (by omega)) (.inl (by omega)) rfl rfl ma ma (List.Sublist.refl _)).mono ?_
  rintro e w6 ⟨r, rfl, hr, m8, rfl⟩
  obtain rfl : r = true := hr
  go_wp2
  go_ret
  exact done (below_drewN (Below.refl _ _) _)

set_option maxHeartbeats 8000000 in
theorem walk_ns (y : Addr) (lb cb : Nat) (w : World) (B : List ByteArray) (hB : B.length = lb) (mb : lb ≤ maxLen) (h1 : Lies w (some y) lb (el B)) :
    Calls Try.prog 4 #[.slice none 0 0, .slice (some y) lb cb] w fun e w' => Done w e w' := by
  obtain ⟨i0, hi, hz0, hz1, hz2⟩ := info_parts info9
  have q1 := fun (W : World) => run_neq_slice_nil_any (P := Try.prog) W 22 9 none 0 0 0 0 Try.underlying22
  have q2 := fun (W : World) => run_neq_slice_nil_any (P := Try.prog) W 22 9 (some y) lb cb 0 0 Try.underlying22
  have q0 := fun (W : World) => Lib.run_eql_slice_nil (P := Try.prog) W 22 9 none 0 0 0 0 Try.underlying22
  have H0 : Hid (Lies w none 0 (el [])) := hidden (.inl (by omega))
  have ma : 0 ≤ maxLen := Nat.zero_le _
  have HB : Hid (B.length = lb) := hB
  have H1 : Hid (Lies w (some y) lb (el B)) := h1
  clear hB h1
  go_enter Try.func4, Try.ntmps4
  go_wp2_with fail
  refine (bytes10_any none (some y) 0 0 lb cb (el []) (el B) w H0.out H1.out ma mb).mono ?_
  rintro e w' ⟨r, rfl, -, m, rfl⟩
  cases r
  · go_wp2
    go_ret
    exact done (below_drewN (Below.refl _ _) _)
  go_wp2_with fail
  refine (within_any none (some y) 0 0 lb cb (el []) (el B) _ (H0.out.drewN m) (H1.out.drewN m) ma mb).mono ?_
  rintro e w' ⟨r, rfl, hr, m', rfl⟩
  cases r
  · go_wp2
    go_ret
    exact done (below_drewN (Below.refl _ _) _)
  obtain ⟨sa, sb⟩ := hr rfl
  clear hr
  go_wp2_with (first | (at_make; refine wpList_make_full _ rfl (.tmp 28) (.tmp 28) 22 rfl w.heap.size 9 i0 (.string ByteArray.empty) 1 Try.underlying22 hi hz0 hz1 _ _ _ _ lb rfl rfl rfl rfl (by rw [hz2]; omega) mb (Nat.le_refl _) ?_; intro w3 hown hgrow; obtain ⟨Z3, M3⟩ : ∃ Z, Made w3 w.heap.size lb Z := ⟨_, made hown⟩; have hb3 := made_below_drew hgrow; have C3 := canCopy M3 HB.out H1.out hb3 (Nat.le_refl _); clear hown hgrow) | (have _t := M3; refine wpList_copy_splice rfl (.tmp 30) (.tmp 31) 22 22 rfl 9 Try.underlying22 size9 _ _ _ _ _ _ rfl rfl w.heap.size 0 Z3 9 M3.1 (B.map Value.string) C3.1 C3.2.2 C3.2.1 (strs_oneCell _) w.heap.size w hb3 (Nat.le_refl _) ?_; intro w4 HG hbw; have RB4 := spliced M3.2 HB.out HG; have lt4 := RB4.lt; clear HG M3 C3 hb3))
  refine (union_nil_l (some ⟨w.heap.size, 0, none⟩) lb lb _).mono ?_
  rintro e w5 ⟨rfl, rfl⟩
  have q3 := fun (W : World) => Lib.run_eql_slice_nil (P := Try.prog) W 22 9 (some ⟨w.heap.size, 0, none⟩) lb lb 0 0 Try.underlying22
  go_wp2_with fail
  refine (sub_any none (some ⟨w.heap.size, 0, none⟩) 0 0 lb lb [] B _ (.inl (by omega)) (RB4.lies HB.out) rfl HB.out ma mb (List.nil_sublist _)).mono ?_
  rintro e w6 ⟨r, rfl, hr, m7, rfl⟩
  obtain rfl : r = true := hr
  go_wp2_with fail
  refine (sub_any (some ⟨w.heap.size, 0, none⟩) (some ⟨w.heap.size, 0, none⟩) lb lb lb lb B B _ ((RB4.drewN m7).lies HB.out) ((RB4.drewN m7).lies HB.out) HB.out HB.out mb mb (List.Sublist.refl _)).mono ?_
  rintro e w6 ⟨r, rfl, hr, m8, rfl⟩
  obtain rfl : r = true := hr
  go_wp2
  go_ret
  exact done (below_drewN hbw _)

set_option maxHeartbeats 8000000 in
theorem walk_sn (x : Addr) (la ca : Nat) (w : World) (A : List ByteArray) (hA : A.length = la) (ma : la ≤ maxLen) (h0 : Lies w (some x) la (el A)) :
    Calls Try.prog 4 #[.slice (some x) la ca, .slice none 0 0] w fun e w' => Done w e w' := by
  obtain ⟨i0, hi, hz0, hz1, hz2⟩ := info_parts info9
  have q1 := fun (W : World) => run_neq_slice_nil_any (P := Try.prog) W 22 9 (some x) la ca 0 0 Try.underlying22
  have q2 := fun (W : World) => run_neq_slice_nil_any (P := Try.prog) W 22 9 none 0 0 0 0 Try.underlying22
  have q0 := fun (W : World) => Lib.run_eql_slice_nil (P := Try.prog) W 22 9 none 0 0 0 0 Try.underlying22
  have HA : Hid (A.length = la) := hA
  have H0 : Hid (Lies w (some x) la (el A)) := h0
  clear hA h0
  have H1 : Hid (Lies w none 0 (el [])) := hidden (.inl (by omega))
  have mb : 0 ≤ maxLen := Nat.zero_le _
  go_enter Try.func4, Try.ntmps4
  go_wp2_with fail
  refine (bytes10_any (some x) none la ca 0 0 (el A) (el []) w H0.out H1.out ma mb).mono ?_
  rintro e w' ⟨r, rfl, -, m, rfl⟩
  cases r
  · go_wp2
    go_ret
    exact done (below_drewN (Below.refl _ _) _)
  go_wp2_with fail
  refine (within_any (some x) none la ca 0 0 (el A) (el []) _ (H0.out.drewN m) (H1.out.drewN m) ma mb).mono ?_
  rintro e w' ⟨r, rfl, hr, m', rfl⟩
  cases r
  · go_wp2
    go_ret
    exact done (below_drewN (Below.refl _ _) _)
  obtain ⟨sa, sb⟩ := hr rfl
  clear hr
  go_wp2_with (first | (at_make; refine wpList_make_full _ rfl (.tmp 19) (.tmp 19) 22 rfl w.heap.size 9 i0 (.string ByteArray.empty) 1 Try.underlying22 hi hz0 hz1 _ _ _ _ la rfl rfl rfl rfl (by rw [hz2]; omega) ma (Nat.le_refl _) ?_; intro w1 hown hgrow; obtain ⟨Z1, M1⟩ : ∃ Z, Made w1 w.heap.size la Z := ⟨_, made hown⟩; have hb1 := made_below_drew hgrow; have C1 := canCopy M1 HA.out H0.out hb1 (Nat.le_refl _); clear hown hgrow) | (have _t := M1; refine wpList_copy_splice rfl (.tmp 21) (.tmp 22) 22 22 rfl 9 Try.underlying22 size9 _ _ _ _ _ _ rfl rfl w.heap.size 0 Z1 9 M1.1 (A.map Value.string) C1.1 C1.2.2 C1.2.1 (strs_oneCell _) w.heap.size w hb1 (Nat.le_refl _) ?_; intro w2 HG hb2; have RA2 := spliced M1.2 HA.out HG; have z2 := hb2.size; have lt2 := RA2.lt; clear HG M1 C1 hb1))
  refine (union_nil_r ⟨w.heap.size, 0, none⟩ la la _).mono ?_
  rintro e w5 ⟨rfl, rfl⟩
  have q3 := fun (W : World) => Lib.run_eql_slice_nil (P := Try.prog) W 22 9 (some ⟨w.heap.size, 0, none⟩) la la 0 0 Try.underlying22
  go_wp2_with fail
  refine (sub_any (some ⟨w.heap.size, 0, none⟩) (some ⟨w.heap.size, 0, none⟩) la la la la A A _ (RA2.lies HA.out) (RA2.lies HA.out) HA.out HA.out ma ma (List.Sublist.refl _)).mono ?_
  rintro e w6 ⟨r, rfl, hr, m7, rfl⟩
  obtain rfl : r = true := hr
  go_wp2_with fail
  refine (sub_any none (some ⟨w.heap.size, 0, none⟩) 0 0 la la [] A _ (.inl (by omega)) ((RA2.drewN m7).lies HA.out) rfl HA.out mb ma (List.nil_sublist _)).mono ?_
  rintro e w6 ⟨r, rfl, hr, m8, rfl⟩
  obtain rfl : r = true := hr
  go_wp2
  go_ret
  exact done (below_drewN hb2 _)

set_option maxHeartbeats 8000000 in
theorem walk_ss (x : Addr) (la ca : Nat) (y : Addr) (lb cb : Nat) (w : World) (A : List ByteArray) (hA : A.length = la) (ma : la ≤ maxLen) (h0 : Lies w (some x) la (el A)) (B : List ByteArray) (hB : B.length = lb) (mb : lb ≤ maxLen) (h1 : Lies w (some y) lb (el B)) :
    Calls Try.prog 4 #[.slice (some x) la ca, .slice (some y) lb cb] w fun e w' => Done w e w' := by
  obtain ⟨i0, hi, hz0, hz1, hz2⟩ := info_parts info9
  have q1 := fun (W : World) => run_neq_slice_nil_any (P := Try.prog) W 22 9 (some x) la ca 0 0 Try.underlying22
  have q2 := fun (W : World) => run_neq_slice_nil_any (P := Try.prog) W 22 9 (some y) lb cb 0 0 Try.underlying22
  have HA : Hid (A.length = la) := hA
  have H0 : Hid (Lies w (some x) la (el A)) := h0
  clear hA h0
  have HB : Hid (B.length = lb) := hB
  have H1 : Hid (Lies w (some y) lb (el B)) := h1
  clear hB h1
  go_enter Try.func4, Try.ntmps4
  go_wp2_with fail
  refine (bytes10_any (some x) (some y) la ca lb cb (el A) (el B) w H0.out H1.out ma mb).mono ?_
  rintro e w' ⟨r, rfl, -, m, rfl⟩
  cases r
  · go_wp2
    go_ret
    exact done (below_drewN (Below.refl _ _) _)
  go_wp2_with fail
  refine (within_any (some x) (some y) la ca lb cb (el A) (el B) _ (H0.out.drewN m) (H1.out.drewN m) ma mb).mono ?_
  rintro e w' ⟨r, rfl, hr, m', rfl⟩
  cases r
  · go_wp2
    go_ret
    exact done (below_drewN (Below.refl _ _) _)
  obtain ⟨sa, sb⟩ := hr rfl
  clear hr
  go_wp2_with (first | (at_make; refine wpList_make_full _ rfl (.tmp 19) (.tmp 19) 22 rfl w.heap.size 9 i0 (.string ByteArray.empty) 1 Try.underlying22 hi hz0 hz1 _ _ _ _ la rfl rfl rfl rfl (by rw [hz2]; omega) ma (Nat.le_refl _) ?_; intro w1 hown hgrow; obtain ⟨Z1, M1⟩ : ∃ Z, Made w1 w.heap.size la Z := ⟨_, made hown⟩; have hb1 := made_below_drew hgrow; have C1 := canCopy M1 HA.out H0.out hb1 (Nat.le_refl _); clear hown hgrow) | (have _t := M1; refine wpList_copy_splice rfl (.tmp 21) (.tmp 22) 22 22 rfl 9 Try.underlying22 size9 _ _ _ _ _ _ rfl rfl w.heap.size 0 Z1 9 M1.1 (A.map Value.string) C1.1 C1.2.2 C1.2.1 (strs_oneCell _) w.heap.size w hb1 (Nat.le_refl _) ?_; intro w2 HG hb2; have RA2 := spliced M1.2 HA.out HG; have z2 := hb2.size; have lt2 := RA2.lt; clear HG M1 C1 hb1) | (at_make; refine wpList_make_full _ rfl (.tmp 28) (.tmp 28) 22 rfl w2.heap.size 9 i0 (.string ByteArray.empty) 1 Try.underlying22 hi hz0 hz1 _ _ _ _ lb rfl rfl rfl rfl (by rw [hz2]; omega) mb (Nat.le_refl _) ?_; intro w3 hown hgrow; obtain ⟨Z3, M3⟩ : ∃ Z, Made w3 w2.heap.size lb Z := ⟨_, made hown⟩; have hb3 := made_below hgrow; have C3 := canCopy M3 HB.out H1.out (hb2.trans (hb3.mono z2)) (Nat.le_refl _); clear hown hgrow) | (have _t := M3; refine wpList_copy_splice rfl (.tmp 30) (.tmp 31) 22 22 rfl 9 Try.underlying22 size9 _ _ _ _ _ _ rfl rfl w2.heap.size 0 Z3 9 M3.1 (B.map Value.string) C3.1 C3.2.2 C3.2.1 (strs_oneCell _) w2.heap.size w2 hb3 (Nat.le_refl _) ?_; intro w4 HG hb4; have RB4 := spliced M3.2 HB.out HG; have RA4 := RA2.below hb4 lt2; have hbw := hb2.trans (hb4.mono z2); have lt4 := RB4.lt; clear HG M3 C3 hb3))
  refine (union_any w.heap.size w2.heap.size la lb A B w4 sa sb HA.out HB.out RA4.lt RB4.lt (fun t ht => RA4.cell t (by rw [HA.out]; exact ht)) (fun t ht => RB4.cell t (by rw [HB.out]; exact ht))).mono ?_
  rintro e w5 ⟨rfl, hownR, hb5⟩
  have LR := hidden (owned_lies hownR)
  have RA5 := RA4.below hb5 RA4.lt
  have RB5 := RB4.below hb5 RB4.lt
  have hbw5 := hbw.trans (hb5.mono hbw.size)
  have hml : (mg A B).length ≤ la + lb := by have := mg_len A B; rw [HA.out, HB.out] at this; exact this
  have mR : (mg A B).length ≤ maxLen := by unfold maxLen; omega
  have q3 := fun (W : World) => Lib.run_eql_slice_nil (P := Try.prog) W 22 9 (some ⟨w4.heap.size, 0, none⟩) (mg A B).length (la + lb) 0 0 Try.underlying22
  have q4 := fun (W : World) => Lib.run_eql_slice_nil (P := Try.prog) W 22 9 (some ⟨w.heap.size, 0, none⟩) la la 0 0 Try.underlying22
  clear hownR RA4 RB4 RA2 q1 q2 hb5 hb2 hb4 hbw
  go_wp2_with fail
  refine (sub_any (some ⟨w.heap.size, 0, none⟩) (some ⟨w4.heap.size, 0, none⟩) la la (mg A B).length (la + lb) A (mg A B) _ (RA5.lies HA.out) LR.out HA.out rfl ma mR (mg_sub_l A B)).mono ?_
  rintro e w6 ⟨r, rfl, hr, m7, rfl⟩
  obtain rfl : r = true := hr
  go_wp2_with fail
  refine (sub_any (some ⟨w2.heap.size, 0, none⟩) (some ⟨w4.heap.size, 0, none⟩) lb lb (mg A B).length (la + lb) B (mg A B) _ ((RB5.drewN m7).lies HB.out) (LR.out.drewN m7) HB.out rfl mb mR (mg_sub_r A B)).mono ?_
  rintro e w6 ⟨r, rfl, hr, m8, rfl⟩
  obtain rfl : r = true := hr
  go_wp2
  go_ret
  exact done (below_drewN hbw5 _)

end Go.Proofs.Qxb6627673a.keeps
