/- The contracts of what the law calls. -/
import Derived.Test.Qxb6627702aRows
import Derived.WalkKit
import Derived.ProofKit
import Derived.OpenShut
import Derived.WalkSpells
import Derived.Deep.QuietTactic
import Derived.BigQuiet
import Derived.Deep.RegionHeld3
import Derived.Laws.Pointers
namespace Go.Proofs.Qxb6627702a
open Go.ChangeShapes Go.WideShapes Go.ChangeAt Go.RowKit

/-! ### A List in memory -/
set_option maxHeartbeats 2000000 in
theorem fields_any (b : Nat) (wd sn ln fr mv se : Int) (rt hn so : Option Addr) (w : World)
    (c0 : w.cell? ⟨b, 0, none⟩ = some (.int .i64 wd)) (c1 : w.cell? ⟨b, 1, none⟩ = some (.int .i64 sn)) (c2 : w.cell? ⟨b, 2, none⟩ = some (.pointer rt)) (c3 : w.cell? ⟨b, 3, none⟩ = some (.int .i64 ln))
    (c4 : w.cell? ⟨b, 4, none⟩ = some (.pointer hn)) (c5 : w.cell? ⟨b, 5, none⟩ = some (.int .i64 fr)) (c6 : w.cell? ⟨b, 6, none⟩ = some (.int .u64 mv)) (c7 : w.cell? ⟨b, 7, none⟩ = some (.pointer so)) (c8 : w.cell? ⟨b, 8, none⟩ = some (.int .u64 se)) :
    Calls Try.prog 11 #[.pointer (some ⟨b, 0, none⟩)] w fun e w' =>
      e = .returned (.tuple #[.int .i64 wd, .int .i64 sn, .pointer rt, .int .i64 ln, .pointer hn, .int .i64 fr, .int .u64 mv, .pointer so, .int .u64 se]) ∧ ∃ m, w' = w.drewN m := by
  go_enter Try.func11, Try.ntmps11
  go_wp2
  go_quiet (fail)
  go_wp2
  exact bodyPost_ret (v := .tuple #[.int .i64 wd, .int .i64 sn, .pointer rt, .int .i64 ln, .pointer hn, .int .i64 fr, .int .u64 mv, .pointer so, .int .u64 se]) (by simp [results, Try.results11, go_sem]) rfl ⟨rfl, _, rfl⟩

/-! ### readable: a List of its own; a reader that still serves -/
set_option maxHeartbeats 2000000 in
theorem readable_own (b : Nat) (w : World) (c7 : w.cell? ⟨b, 7, none⟩ = some (.pointer none)) :
    Calls Try.prog 12 #[.pointer (some ⟨b, 0, none⟩)] w fun e w' => e = .returned (.tuple #[]) ∧ ∃ m, w' = w.drewN m := by
  go_enter Try.func12, Try.ntmps12
  go_wp2
  go_quiet (fail)
  go_wp2
  go_end0
  exact ⟨rfl, _, rfl⟩
set_option maxHeartbeats 2000000 in
theorem readable_reader (b l : Nat) (mv : Int) (w : World) (c7 : w.cell? ⟨b, 7, none⟩ = some (.pointer (some ⟨l, 0, none⟩))) (c8 : w.cell? ⟨b, 8, none⟩ = some (.int .u64 mv)) (d6 : w.cell? ⟨l, 6, none⟩ = some (.int .u64 mv)) :
    Calls Try.prog 12 #[.pointer (some ⟨b, 0, none⟩)] w fun e w' => e = .returned (.tuple #[]) ∧ ∃ m, w' = w.drewN m := by
  go_enter Try.func12, Try.ntmps12
  go_wp2
  go_quiet (fail)
  go_wp2
  go_end0
  exact ⟨rfl, _, rfl⟩
end Go.Proofs.Qxb6627702a
