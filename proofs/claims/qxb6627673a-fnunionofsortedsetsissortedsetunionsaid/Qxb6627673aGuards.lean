/- The size guards: each answers some bool and turns nothing. -/
import Derived.Test.Qxb6627673aRows
import Derived.Test.Qxb6627673aPlain
import Derived.WalkKit
import Derived.ProofKit
import Derived.OpenShut
import Derived.Deep.QuietTactic
import Derived.BigQuiet
namespace Go.Proofs.Qxb6627673a
open Go.ChangeShapes Go.WideShapes Go.ChangeAt Go.RowKit

/-- The n strings S of a slice lie at the address ad (an empty slice may lie anywhere). -/
def Lies (w : World) (ad : Option Addr) (n : Nat) (S : Nat → ByteArray) : Prop :=
  n < 1 ∨ ∃ b off, ad = some ⟨b, off, none⟩ ∧ ∀ t, t < n → w.cell? ⟨b, off + t, none⟩ = some (.string (S t))

/-- The call answers a bool of which Pr holds; nothing has turned (it may have drawn an order). -/
def Answers (Pr : Bool → Prop) (w : World) (e : Ending) (w' : World) : Prop := ∃ r : Bool, e = .returned (.bool r) ∧ Pr r ∧ ∃ m, w' = w.drewN m
theorem answers {Pr : Bool → Prop} {w : World} (r : Bool) (h : Pr r) : Answers Pr w (.returned (.bool r)) w := ⟨r, rfl, h, 0, rfl⟩

/-- Both slices are small. -/
def Small (n1 n2 : Nat) (r : Bool) : Prop := r = true → n1 ≤ 65536 ∧ n2 ≤ 65536
theorem small_no {n1 n2 : Nat} : Small n1 n2 false := fun h => by cases h
def Any (_ : Bool) : Prop := True

set_option maxHeartbeats 4000000 in
theorem within_any (a1 a2 : Option Addr) (n1 c1 n2 c2 : Nat) (S1 S2 : Nat → ByteArray) (w : World) (h1 : Lies w a1 n1 S1) (h2 : Lies w a2 n2 S2) (m1 : n1 ≤ maxLen) (m2 : n2 ≤ maxLen) :
    Calls Try.prog 6 #[.slice a1 n1 c1, .slice a2 n2 c2] w fun e w' => Answers (Small n1 n2) w e w' := by
  unfold maxLen at m1 m2
  by_cases g1 : (65536 : Int) < n1
  · go_enter Try.func6, Try.ntmps6
    go_wp2
    go_ret
    exact answers false small_no
  by_cases g2 : (65536 : Int) < n2
  · go_enter Try.func6, Try.ntmps6
    go_wp2
    go_ret
    exact answers false small_no
  have hb : Small n1 n2 true := fun _ => by omega
  by_cases g3 : (1048576 : Int) < 16 * n1 + 16 * n2
  · go_enter Try.func6, Try.ntmps6
    go_wp2
    go_ret
    exact answers false small_no
  rcases h1 with h1 | ⟨b1, o1, rfl, h1⟩ <;> rcases h2 with h2 | ⟨b2, o2, rfl, h2⟩
  all_goals
    go_enter Try.func6, Try.ntmps6
    go_wp2
    go_loop [5, 6] (fun n i => ∃ (k : Nat) (m : Int), k ≤ n1 ∧ i = .int .i64 k ∧ n = .int .i64 m) (fun _ i => n1 - (intOf i).toNat)
    case atStart => exact ⟨0, _, Nat.zero_le _, rfl, rfl⟩
    case round =>
      obtain ⟨k, m, hk, rfl, rfl⟩ := hrel
      by_cases hlt : k < n1
      · first
          | (exfalso; omega)
          | (have hc := h1 k hlt
             go_wp2
             · go_ret
               exact answers false small_no
             · go_round
               case rel => exact ⟨k + 1, _, by omega, by go_num, rfl⟩
               case measure => simp [intOf]; omega)
      · go_wp2
        go_loop [5, 7] (fun n i => ∃ (k : Nat) (m : Int), k ≤ n2 ∧ i = .int .i64 k ∧ n = .int .i64 m) (fun _ i => n2 - (intOf i).toNat)
        case atStart => exact ⟨0, _, Nat.zero_le _, rfl, rfl⟩
        case round =>
          obtain ⟨k', m', hk', rfl, rfl⟩ := hrel
          by_cases hlt' : k' < n2
          · first
              | (exfalso; omega)
              | (have hc := h2 k' hlt'
                 go_wp2
                 · go_ret
                   exact answers false small_no
                 · go_round
                   case rel => exact ⟨k' + 1, _, by omega, by go_num, rfl⟩
                   case measure => simp [intOf]; omega)
          · go_wp2
            go_ret
            exact answers true hb

set_option maxHeartbeats 4000000 in
theorem bytes5_any (a1 a2 : Option Addr) (n1 c1 n2 c2 : Nat) (S1 S2 : Nat → ByteArray) (w : World) (h1 : Lies w a1 n1 S1) (h2 : Lies w a2 n2 S2) (m1 : n1 ≤ maxLen) (m2 : n2 ≤ maxLen) :
    Calls Try.prog 5 #[.slice a1 n1 c1, .slice a2 n2 c2] w fun e w' => Answers Any w e w' := by
  unfold maxLen at m1 m2
  by_cases g1 : (1048576 : Int) < n1
  · go_enter Try.func5, Try.ntmps5
    go_wp2
    go_ret
    exact answers false trivial
  rcases h1 with h1 | ⟨b1, o1, rfl, h1⟩ <;> rcases h2 with h2 | ⟨b2, o2, rfl, h2⟩
  all_goals
    go_enter Try.func5, Try.ntmps5
    go_wp2
    go_loop [5, 6] (fun n i => ∃ (k : Nat) (m : Int), k ≤ n1 ∧ i = .int .i64 k ∧ n = .int .i64 m) (fun _ i => n1 - (intOf i).toNat)
    case atStart => exact ⟨0, _, Nat.zero_le _, rfl, rfl⟩
    case round =>
      obtain ⟨k, m, hk, rfl, rfl⟩ := hrel
      by_cases hlt : k < n1
      · first
          | (exfalso; omega)
          | (have hc := h1 k hlt
             go_wp2
             · go_ret
               exact answers false trivial
             · go_ret
               exact answers false trivial
             · go_round
               case rel => exact ⟨k + 1, _, by omega, by go_num, rfl⟩
               case measure => simp [intOf]; omega)
      · by_cases g2 : (1048576 : Int) < n2
        · first
            | (exfalso; omega)
            | (go_wp2
               go_ret
               exact answers false trivial)
        go_wp2
        · go_ret
          exact answers false trivial
        · go_loop [5, 7] (fun n i => ∃ (k : Nat) (m : Int), k ≤ n2 ∧ i = .int .i64 k ∧ n = .int .i64 m) (fun _ i => n2 - (intOf i).toNat)
          case atStart => exact ⟨0, _, Nat.zero_le _, rfl, rfl⟩
          case round =>
            obtain ⟨k', m', hk', rfl, rfl⟩ := hrel
            by_cases hlt' : k' < n2
            · first
                | (exfalso; omega)
                | (have hc := h2 k' hlt'
                   go_wp2
                   · go_ret
                     exact answers false trivial
                   · go_ret
                     exact answers false trivial
                   · go_round
                     case rel => exact ⟨k' + 1, _, by omega, by go_num, rfl⟩
                     case measure => simp [intOf]; omega)
            · go_wp2
              go_ret
              exact answers true trivial

set_option maxHeartbeats 4000000 in
theorem bytes10_any (a1 a2 : Option Addr) (n1 c1 n2 c2 : Nat) (S1 S2 : Nat → ByteArray) (w : World) (h1 : Lies w a1 n1 S1) (h2 : Lies w a2 n2 S2) (m1 : n1 ≤ maxLen) (m2 : n2 ≤ maxLen) :
    Calls Try.prog 10 #[.slice a1 n1 c1, .slice a2 n2 c2] w fun e w' => Answers Any w e w' := by
  unfold maxLen at m1 m2
  by_cases g1 : (1048576 : Int) < n1
  · go_enter Try.func10, Try.ntmps10
    go_wp2
    go_ret
    exact answers false trivial
  rcases h1 with h1 | ⟨b1, o1, rfl, h1⟩ <;> rcases h2 with h2 | ⟨b2, o2, rfl, h2⟩
  all_goals
    go_enter Try.func10, Try.ntmps10
    go_wp2
    go_loop [5, 6] (fun n i => ∃ (k : Nat) (m : Int), k ≤ n1 ∧ i = .int .i64 k ∧ n = .int .i64 m) (fun _ i => n1 - (intOf i).toNat)
    case atStart => exact ⟨0, _, Nat.zero_le _, rfl, rfl⟩
    case round =>
      obtain ⟨k, m, hk, rfl, rfl⟩ := hrel
      by_cases hlt : k < n1
      · first
          | (exfalso; omega)
          | (have hc := h1 k hlt
             go_wp2
             · go_ret
               exact answers false trivial
             · go_ret
               exact answers false trivial
             · go_round
               case rel => exact ⟨k + 1, _, by omega, by go_num, rfl⟩
               case measure => simp [intOf]; omega)
      · by_cases g2 : (1048576 : Int) < n2
        · first
            | (exfalso; omega)
            | (go_wp2
               go_ret
               exact answers false trivial)
        go_wp2
        · go_ret
          exact answers false trivial
        · go_loop [5, 7] (fun n i => ∃ (k : Nat) (m : Int), k ≤ n2 ∧ i = .int .i64 k ∧ n = .int .i64 m) (fun _ i => n2 - (intOf i).toNat)
          case atStart => exact ⟨0, _, Nat.zero_le _, rfl, rfl⟩
          case round =>
            obtain ⟨k', m', hk', rfl, rfl⟩ := hrel
            by_cases hlt' : k' < n2
            · first
                | (exfalso; omega)
                | (have hc := h2 k' hlt'
                   go_wp2
                   · go_ret
                     exact answers false trivial
                   · go_ret
                     exact answers false trivial
                   · go_round
                     case rel => exact ⟨k' + 1, _, by omega, by go_num, rfl⟩
                     case measure => simp [intOf]; omega)
            · go_wp2
              go_ret
              exact answers true trivial

end Go.Proofs.Qxb6627673a
