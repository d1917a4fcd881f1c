/- The functions that only read: zzStrictlyIncreasing, zzHas, zzIsSubsequence. -/
import Derived.Test.Qxb6627673aGuards
namespace Go.Proofs.Qxb6627673a
open Go.ChangeShapes Go.WideShapes Go.ChangeAt Go.RowKit

theorem answersN {Pr : Bool → Prop} {w : World} (m : Nat) (r : Bool) (h : Pr r) : Answers Pr w (.returned (.bool r)) (w.drewN m) := ⟨r, rfl, h, m, rfl⟩

theorem answersNN {Pr : Bool → Prop} {w : World} (m nq : Nat) (r : Bool) (h : Pr r) : Answers Pr w (.returned (.bool r)) ((w.drewN m).drewN nq) := ⟨r, rfl, h, m + nq, World.drewN_drewN _ _ _⟩

/-! ### zzStrictlyIncreasing -/
def IncIs (ss : List ByteArray) (r : Bool) : Prop := r = true ↔ inc ss
theorem inc_no {ss : List ByteArray} {j : Nat} (hj : j + 1 < ss.length) (h : (!Op.bytesLess (el ss j).toList (el ss (j + 1)).toList) = true) : IncIs ss false := by
  refine ⟨(fun h => by cases h), fun hi => ?_⟩
  have := inc_el hi (Nat.lt_succ_self j) hj
  unfold lt at this
  rw [this] at h
  cases h
theorem inc_yes {ss : List ByteArray} {j : Nat} (hj : ss.length ≤ j + 1) (h : ∀ t, t < j → lt (el ss t) (el ss (t + 1)) = true) : IncIs ss true :=
  ⟨fun _ => inc_of_next ss (fun i hi => h i (by omega)), fun _ => rfl⟩

set_option maxHeartbeats 1000000 in
theorem inc_any (ad : Option Addr) (n c : Nat) (ss : List ByteArray) (w : World) (h : Lies w ad n (el ss)) (hn : ss.length = n) (hm : n ≤ maxLen) :
    Calls Try.prog 7 #[.slice ad n c] w fun e w' => Answers (IncIs ss) w e w' := by
  unfold maxLen at hm
  rcases h with h | ⟨b, off, rfl, h⟩
  · go_enter Try.func7, Try.ntmps7
    go_wp2
    refine wp_loop_rounds 1 ?_
    rw [rounds_succ]
    go_wp2
    go_ret
    exact answers true (inc_yes (j := 0) (by omega) (fun t ht => by omega))
  · go_enter Try.func7, Try.ntmps7
    go_wp2
    go_loopw [3] (fun i wr => ∃ j m : Nat, (j + 1 ≤ n ∨ j = 0) ∧ i = .int .i64 ((j : Int) + 1) ∧ wr = w.drewN m ∧ ∀ t, t < j → lt (el ss t) (el ss (t + 1)) = true) (fun i _ => n - (intOf i).toNat)
    case atStart => exact ⟨0, 0, .inr rfl, rfl, rfl, fun t ht => by omega⟩
    case round =>
      obtain ⟨j, m, hj, rfl, rfl, hs⟩ := hrel
      by_cases hlt : j + 1 < n
      · have c1 := h j (by omega)
        have c2 := h (j + 1) hlt
        have i1 : (j : Int) < n := by omega
        have i2 : (j : Int) + 1 < n := by omega
        go_wp2
        go_quiet (fail)
        go_wp2
        · go_ret
          exact answersNN _ _ false (inc_no (ss := ss) (j := j) (by omega) (by assumption))
        · have ht : (!Op.bytesLess (el ss j).toList (el ss (j + 1)).toList) = false := by assumption
          go_roundw
          case rel =>
            refine ⟨j + 1, m + nq, .inl (by omega), by go_num, rfl, fun t ht' => ?_⟩
            by_cases e : t = j
            · subst e; unfold lt; simpa using ht
            · exact hs t (by omega)
          case measure => simp [intOf]; omega
      · go_wp2
        go_ret
        exact answersN _ true (inc_yes (j := j) (by omega) hs)

/-! ### zzIsSubsequence, at a list that is a part of the other in its order -/
def Yes (r : Bool) : Prop := r = true
theorem sub_step {S R : List ByteArray} {j k : Nat} (h : (S.drop j).Sublist (R.drop k)) (hk : k < R.length) (hj : j < S.length) (e : el R k = el S j) : (S.drop (j + 1)).Sublist (R.drop (k + 1)) := by
  rw [drop_el S j hj, drop_el R k hk, e] at h
  exact List.cons_sublist_cons.1 h
theorem sub_skip {S R : List ByteArray} {j k : Nat} (h : (S.drop j).Sublist (R.drop k)) (hk : k < R.length) (hj : j < S.length → el R k ≠ el S j) : (S.drop j).Sublist (R.drop (k + 1)) := by
  by_cases c : j < S.length
  · rw [drop_el S j c, drop_el R k hk] at h
    rw [drop_el S j c]
    rcases List.sublist_cons_iff.1 h with h | ⟨r, e, _⟩
    · exact h
    · exact absurd (List.cons.inj e).1.symm (hj c)
  · rw [List.drop_eq_nil_of_le (by omega)]
    exact List.nil_sublist _
theorem sub_end {S R : List ByteArray} {j k : Nat} (h : (S.drop j).Sublist (R.drop k)) (hk : R.length ≤ k) : S.length ≤ j := by
  rw [List.drop_eq_nil_of_le hk] at h
  have := List.sublist_nil.1 h
  simpa using this

set_option maxHeartbeats 4000000 in
theorem sub_any (a1 a2 : Option Addr) (n1 c1 n2 c2 : Nat) (S R : List ByteArray) (w : World) (h1 : Lies w a1 n1 (el S)) (h2 : Lies w a2 n2 (el R)) (hn1 : S.length = n1) (hn2 : R.length = n2) (m1 : n1 ≤ maxLen) (m2 : n2 ≤ maxLen) (hsub : S.Sublist R) :
    Calls Try.prog 11 #[.slice a1 n1 c1, .slice a2 n2 c2] w fun e w' => Answers Yes w e w' := by
  unfold maxLen at m1 m2
  rcases h1 with h1 | ⟨b1, o1, rfl, h1⟩ <;> rcases h2 with h2 | ⟨b2, o2, rfl, h2⟩
  all_goals
    go_enter Try.func11, Try.ntmps11
    go_wp2
    go_loopw [5, 6] (fun sj si wr => ∃ j k m : Nat, j ≤ n1 ∧ k ≤ n2 ∧ sj = .int .i64 j ∧ si = .int .i64 k ∧ wr = w.drewN m ∧ (S.drop j).Sublist (R.drop k)) (fun _ i _ => n2 - (intOf i).toNat)
    case atStart => exact ⟨0, 0, 0, Nat.zero_le _, Nat.zero_le _, rfl, rfl, rfl, hsub⟩
    case round =>
      obtain ⟨j, k, m, hj, hk, rfl, rfl, rfl, hs⟩ := hrel
      by_cases hlt : k < n2
      · by_cases hjl : j < n1
        · first
            | (exfalso; omega)
            | (have c1 := h1 j hjl
               have c2 := h2 k hlt
               have i1 : (j : Int) < n1 := by omega
               have i2 : (k : Int) < n2 := by omega
               have HS : Hid ((S.drop j).Sublist (R.drop k)) := hs
               clear hs
               go_wp2
               go_quiet (fail)
               go_wp2
               · have e : el R k = el S j := str_ext (by simpa using (by assumption : ((el R k).toList == (el S j).toList) = true))
                 go_roundw
                 case rel => exact ⟨j + 1, k + 1, m + nq, by omega, by omega, by go_num, by go_num, rfl, sub_step HS.out (by omega) (by omega) e⟩
                 case measure => simp [intOf]; omega
               · have e : el R k ≠ el S j := fun e => by have h : ((el R k).toList == (el S j).toList) = false := by assumption
                                                         rw [e] at h; simp at h
                 go_roundw
                 case rel => exact ⟨j, k + 1, m + nq, by omega, by omega, rfl, by go_num, rfl, sub_skip HS.out (by omega) (fun _ => e)⟩
                 case measure => simp [intOf]; omega)
        · have hd : decide ((j : Int) < (n1 : Int)) = false := decide_eq_false (by omega)
          have i2 : (k : Int) < n2 := by omega
          have HS : Hid ((S.drop j).Sublist (R.drop k)) := hs
          clear hs
          go_wp2
          go_quiet (fail)
          go_wp2
          go_roundw
          case rel => exact ⟨j, k + 1, m + nq, by omega, by omega, rfl, by go_num, rfl, sub_skip HS.out (by omega) (fun h => by omega)⟩
          case measure => simp [intOf]; omega
      · have e := sub_end hs (by omega)
        have ej : ((j : Int) == (n1 : Int)) = true := by simp; omega
        clear hs
        go_wp2
        go_ret
        exact answersN _ true rfl

/-! ### zzHas, at a strictly increasing list -/
def HasIs (ss : List ByteArray) (x : ByteArray) (r : Bool) : Prop := x ∈ ss → r = true
/-- Where x can stand: between lo and hi. -/
def Between (ss : List ByteArray) (x : ByteArray) (lo hi : Nat) : Prop := ∀ p, p < ss.length → el ss p = x → lo ≤ p ∧ p ≤ hi
theorem between_up {ss : List ByteArray} {x : ByteArray} {lo hi mid : Nat} (hi' : inc ss) (h : Between ss x lo hi) (hm : mid < ss.length) (hl : Op.bytesLess (el ss mid).toList x.toList = true) : Between ss x (mid + 1) hi := by
  intro p hp e
  obtain ⟨_, h2⟩ := h p hp e
  refine ⟨?_, h2⟩
  by_cases c : mid + 1 ≤ p
  · exact c
  exfalso
  have hl' : lt (el ss mid) x = true := hl
  by_cases c2 : p = mid
  · subst c2; rw [e, lt_irrefl] at hl'; cases hl'
  · have := lt_trans (inc_el hi' (show p < mid by omega) hm) hl'
    rw [e, lt_irrefl] at this; cases this
theorem between_down {ss : List ByteArray} {x : ByteArray} {lo hi mid : Nat} (hi' : inc ss) (h : Between ss x lo hi) (hl : Op.bytesLess (el ss mid).toList x.toList = false) : Between ss x lo mid := by
  intro p hp e
  obtain ⟨h1, _⟩ := h p hp e
  refine ⟨h1, ?_⟩
  by_cases c : p ≤ mid
  · exact c
  exfalso
  have := inc_el hi' (show mid < p by omega) hp
  rw [e] at this
  have hl' : lt (el ss mid) x = false := hl
  rw [hl'] at this; cases this
theorem has_end {ss : List ByteArray} {x : ByteArray} {lo hi : Nat} (h : Between ss x lo hi) (hle : hi ≤ lo) (hlt : lo < ss.length) : HasIs ss x ((el ss lo).toList == x.toList) := by
  intro hx
  obtain ⟨p, hp, e⟩ := mem_el hx
  obtain ⟨h1, h2⟩ := h p hp e
  obtain rfl : p = lo := by omega
  rw [e]; simp
theorem has_none {ss : List ByteArray} {x : ByteArray} {lo hi : Nat} (h : Between ss x lo hi) (hlt : ss.length ≤ lo) : HasIs ss x false := by
  intro hx
  obtain ⟨p, hp, e⟩ := mem_el hx
  have := h p hp e
  omega

set_option maxHeartbeats 4000000 in
theorem has_any (ad : Option Addr) (n c : Nat) (ss : List ByteArray) (x : ByteArray) (w : World) (h : Lies w ad n (el ss)) (hn : ss.length = n) (hm : n ≤ maxLen) (hinc : inc ss) :
    Calls Try.prog 9 #[.slice ad n c, .string x] w fun e w' => Answers (HasIs ss x) w e w' := by
  unfold maxLen at hm
  have HI : Hid (inc ss) := hinc
  clear hinc
  rcases h with h | ⟨b, off, rfl, h⟩
  · have hd : decide ((0 : Int) < (n : Int)) = false := decide_eq_false (by omega)
    go_enter Try.func9, Try.ntmps9
    go_wp2
    refine wp_loop_rounds 1 ?_
    rw [rounds_succ]
    go_wp2
    go_ret
    exact answers false (has_none (lo := 0) (hi := 0) (fun p hp _ => by omega) (by omega))
  · go_enter Try.func9, Try.ntmps9
    go_wp2
    go_loop [5, 6] (fun sl sh => ∃ lo hi : Nat, lo ≤ hi ∧ hi ≤ n ∧ sl = .int .i64 lo ∧ sh = .int .i64 hi ∧ Between ss x lo hi) (fun sl sh => (intOf sh).toNat - (intOf sl).toNat)
    case atStart => exact ⟨0, n, Nat.zero_le _, Nat.le_refl _, rfl, rfl, fun p hp _ => by omega⟩
    case round =>
      obtain ⟨lo, hi, hlh, hhn, rfl, rfl, hb⟩ := hrel
      by_cases hlt : lo < hi
      · obtain ⟨mid, hmid⟩ : ∃ mid : Nat, mid = lo + (hi - lo) / 2 := ⟨_, rfl⟩
        have emid : (lo : Int) + ((hi : Int) - (lo : Int)) / 2 = (mid : Int) := by omega
        have m1 : lo ≤ mid := by omega
        have m2 : mid < hi := by omega
        clear hmid
        have hc := h mid (by omega)
        go_wp2
        · have hb' := between_up HI.out hb (by omega) (by assumption : Op.bytesLess (el ss mid).toList x.toList = true)
          go_round
          case rel => exact ⟨mid + 1, hi, by omega, by omega, by go_num, rfl, hb'⟩
          case measure => simp [intOf]; omega
        · have hb' := between_down HI.out hb (by assumption : Op.bytesLess (el ss mid).toList x.toList = false)
          go_round
          case rel => exact ⟨lo, mid, by omega, by omega, rfl, rfl, hb'⟩
          case measure => simp [intOf]; omega
      · by_cases hl : lo < n
        · have hc := h lo hl
          have hl' : decide ((lo : Int) < (n : Int)) = true := decide_eq_true (by omega)
          go_wp2
          go_ret
          exact answers _ (has_end hb (by omega) (by omega))
        · have hl' : decide ((lo : Int) < (n : Int)) = false := decide_eq_false (by omega)
          go_wp2
          go_ret
          exact answers false (has_none hb (by omega))
end Go.Proofs.Qxb6627673a
