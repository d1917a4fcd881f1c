import Derived.Test.Qxb6627589aRows
import Derived.WalkKit
import Derived.ProofKit
import Derived.OpenShut
import Derived.Deep.QuietTactic
import Derived.BigQuiet
namespace Go.Proofs.Qxb6627589a
open Go.ChangeShapes Go.WideShapes Go.ChangeAt Go.RowKit

/-- The bytes that a header with these three flags takes. -/
def lenOf (c k s : Bool) : Int := 4 + (if c then 4 else 0) + (if k then 4 else 0) + (if s then 4 else 0)

/-- What the loop has gathered when 'i' of the three flags are behind it. -/
def sofar (c k s : Bool) : Nat → Int
  | 0 => 4
  | 1 => 4 + (if c then 4 else 0)
  | 2 => 4 + (if c then 4 else 0) + (if k then 4 else 0)
  | _ => lenOf c k s

set_option maxHeartbeats 400000 in
theorem len_any (v p cs kv sq : Int) (c k s : Bool) (w : World) :
    Calls Try.prog 6 #[.agg #[.int .u8 v, .int .u16 p, .bool c, .int .u16 cs, .bool k, .int .u32 kv, .bool s, .int .u32 sq]] w
      fun e w' => e = .returned (.int .i64 (lenOf c k s)) ∧ w' = w.alloc (.cells #[.int .u8 v, .int .u16 p, .bool c, .int .u16 cs, .bool k, .int .u32 kv, .bool s, .int .u32 sq] 27) := by
  have i0 : ∀ w : World, (Instr.index 31 (.agg #[.bool c, .bool k, .bool s]) (.int .i64 0)).run Try.prog w = .ok (.bool c) w := fun _ => by kernel_rfl
  have i1 : ∀ w : World, (Instr.index 31 (.agg #[.bool c, .bool k, .bool s]) (.int .i64 1)).run Try.prog w = .ok (.bool k) w := fun _ => by kernel_rfl
  have i2 : ∀ w : World, (Instr.index 31 (.agg #[.bool c, .bool k, .bool s]) (.int .i64 2)).run Try.prog w = .ok (.bool s) w := fun _ => by kernel_rfl
  go_enter Try.func6, Try.ntmps6
  go_wp2
  go_loop [3, 14] (fun n i => ∃ j : Nat, j ≤ 3 ∧ i = .int .i64 j ∧ n = .int .i64 (sofar c k s j)) (fun _ i => 3 - (intOf i).toNat)
  case atStart => exact ⟨0, by omega, rfl, rfl⟩
  case round =>
    obtain ⟨j, hj, rfl, rfl⟩ := hrel
    have hj4 : j = 0 ∨ j = 1 ∨ j = 2 ∨ j = 3 := by omega
    rcases hj4 with rfl | rfl | rfl | rfl
    · cases c <;> simp only [sofar] <;> go_wp2
      all_goals
        go_round
        case rel => exact ⟨1, by omega, rfl, rfl⟩
        case measure => simp [intOf]
    · cases k <;> cases c <;> simp only [sofar] <;> go_wp2
      all_goals
        go_round
        case rel => exact ⟨2, by omega, rfl, rfl⟩
        case measure => simp [intOf]
    · cases s <;> cases k <;> cases c <;> simp only [sofar] <;> go_wp2
      all_goals
        go_round
        case rel => exact ⟨3, by omega, rfl, rfl⟩
        case measure => simp [intOf]
    · go_wp2
      go_ret
      exact ⟨rfl, rfl⟩

theorem header_any (v p cs kv sq : Int) (c k s : Bool) (w : World) :
    Calls Try.prog 5 #[.int .u8 v, .int .u16 p, .bool c, .int .u16 cs, .bool k, .int .u32 kv, .bool s, .int .u32 sq] w
      fun e w' => e = .returned (.agg #[.int .u8 v, .int .u16 p, .bool c, .int .u16 cs, .bool k, .int .u32 kv, .bool s, .int .u32 sq]) ∧ w' = w.alloc (.cells #[.int .u8 v, .int .u16 p, .bool c, .int .u16 cs, .bool k, .int .u32 kv, .bool s, .int .u32 sq] 27) := by
  go_enter Try.func5, Try.ntmps5
  go_wp2
  simp [bodyPost, results, Try.results5, go_sem]

theorem len_lo (c k s : Bool) : 4 ≤ lenOf c k s := by cases c <;> cases k <;> cases s <;> decide
theorem len_hi (c k s : Bool) : lenOf c k s ≤ 16 := by cases c <;> cases k <;> cases s <;> decide
theorem len_compl (c k s : Bool) : lenOf c k s + lenOf (!c) (!k) (!s) = 20 := by cases c <;> cases k <;> cases s <;> decide
theorem len_rot (c k s : Bool) : lenOf k s c = lenOf c k s := by cases c <;> cases k <;> cases s <;> decide
end Go.Proofs.Qxb6627589a
