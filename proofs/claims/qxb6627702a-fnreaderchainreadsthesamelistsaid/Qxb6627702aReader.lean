/- (*List).Reader: at a List of its own, and at a reader of it. -/
import Derived.Test.Qxb6627702aCalls
import Derived.WalkSmall
namespace Go.Proofs.Qxb6627702a
open Go.ChangeShapes Go.WideShapes Go.ChangeAt Go.RowKit

theorem old_cell {w : World} {a : Addr} {v : Value} (o : Obj) (h : w.cell? a = some v) : (w.alloc o).cell? a = some v :=
  (World.cell?_alloc_lt _ _ _ (World.block_lt_of_cell? w a h)).trans h

set_option maxHeartbeats 4000000 in
theorem reader_own (b : Nat) (wd sn ln mv : Int) (rt : Option Addr) (w : World) (hb : b < w.heap.size)
    (c0 : w.cell? ⟨b, 0, none⟩ = some (.int .i64 wd)) (c1 : w.cell? ⟨b, 1, none⟩ = some (.int .i64 sn)) (c2 : w.cell? ⟨b, 2, none⟩ = some (.pointer rt)) (c3 : w.cell? ⟨b, 3, none⟩ = some (.int .i64 ln))
    (c6 : w.cell? ⟨b, 6, none⟩ = some (.int .u64 mv)) (c7 : w.cell? ⟨b, 7, none⟩ = some (.pointer none)) :
    Calls Try.prog 10 #[.pointer (some ⟨b, 0, none⟩)] w fun e w' =>
      e = .returned (.agg #[.int .i64 wd, .int .i64 sn, .pointer rt, .int .i64 ln, .pointer none, .int .i64 0, .int .u64 0, .pointer (some ⟨b, 0, none⟩), .int .u64 mv]) ∧ Below w.heap.size w w' := by
  go_enter Try.func10, Try.ntmps10
  go_wp2_with (go_at_call 12; refine (readable_own b _ (old_cell _ c7)).mono ?_; rintro e w' ⟨rfl, m, rfl⟩)
  go_region_held3 (fun w' => w'.cell? ⟨b, 0, none⟩ = some (.int .i64 wd) ∧ w'.cell? ⟨b, 1, none⟩ = some (.int .i64 sn) ∧ w'.cell? ⟨b, 2, none⟩ = some (.pointer rt) ∧ w'.cell? ⟨b, 3, none⟩ = some (.int .i64 ln) ∧ w'.cell? ⟨b, 6, none⟩ = some (.int .u64 mv)) (simp [go_sem, World.cell?_alloc_past, hb, c0, c1, c2, c3, c6]) (fail)
  go_wp2
  refine bodyPost_ret (v := .agg #[.int .i64 wd, .int .i64 sn, .pointer rt, .int .i64 ln, .pointer none, .int .i64 0, .int .u64 0, .pointer (some ⟨b, 0, none⟩), .int .u64 mv]) (by simp [results, Try.results10, go_sem]) rfl ⟨rfl, ?_⟩
  iterate 9 refine Below.setCell ?_ (by exact Nat.le_refl _) _
  exact below_drewN ((Below.refl _ _).alloc (Nat.le_refl _) _) _

set_option maxHeartbeats 4000000 in
theorem reader_reader (b l : Nat) (wd sn ln mv : Int) (rt : Option Addr) (w : World) (hb : b < w.heap.size) (hl : l < w.heap.size)
    (c0 : w.cell? ⟨b, 0, none⟩ = some (.int .i64 wd)) (c1 : w.cell? ⟨b, 1, none⟩ = some (.int .i64 sn)) (c2 : w.cell? ⟨b, 2, none⟩ = some (.pointer rt)) (c3 : w.cell? ⟨b, 3, none⟩ = some (.int .i64 ln))
    (c7 : w.cell? ⟨b, 7, none⟩ = some (.pointer (some ⟨l, 0, none⟩))) (c8 : w.cell? ⟨b, 8, none⟩ = some (.int .u64 mv)) (d6 : w.cell? ⟨l, 6, none⟩ = some (.int .u64 mv)) :
    Calls Try.prog 10 #[.pointer (some ⟨b, 0, none⟩)] w fun e w' =>
      e = .returned (.agg #[.int .i64 wd, .int .i64 sn, .pointer rt, .int .i64 ln, .pointer none, .int .i64 0, .int .u64 0, .pointer (some ⟨l, 0, none⟩), .int .u64 mv]) ∧ Below w.heap.size w w' := by
  go_enter Try.func10, Try.ntmps10
  go_wp2_with (go_at_call 12; refine (readable_reader b l mv _ (old_cell _ c7) (old_cell _ c8) (old_cell _ d6)).mono ?_; rintro e w' ⟨rfl, m, rfl⟩)
  go_region_held3 (fun w' => w'.cell? ⟨b, 0, none⟩ = some (.int .i64 wd) ∧ w'.cell? ⟨b, 1, none⟩ = some (.int .i64 sn) ∧ w'.cell? ⟨b, 2, none⟩ = some (.pointer rt) ∧ w'.cell? ⟨b, 3, none⟩ = some (.int .i64 ln) ∧ w'.cell? ⟨l, 6, none⟩ = some (.int .u64 mv)) (simp [go_sem, World.cell?_alloc_past, hb, hl, c0, c1, c2, c3, d6]) (fail)
  go_wp2
  refine bodyPost_ret (v := .agg #[.int .i64 wd, .int .i64 sn, .pointer rt, .int .i64 ln, .pointer none, .int .i64 0, .int .u64 0, .pointer (some ⟨l, 0, none⟩), .int .u64 mv]) (by simp [results, Try.results10, go_sem]) rfl ⟨rfl, ?_⟩
  iterate 9 refine Below.setCell ?_ (by exact Nat.le_refl _) _
  exact below_drewN ((Below.refl _ _).alloc (Nat.le_refl _) _) _

theorem noNode_any (w : World) : Calls Try.prog 7 #[] w fun e w' => e = .returned (.pointer none) ∧ w' = w := by
  go_enter Try.func7, Try.ntmps7
  go_wp2
  go_ret
  exact ⟨rfl, rfl⟩
theorem newLeaf_any (ad1 ad2 : Option Addr) (n1 k1 n2 k2 : Nat) (w : World) : Calls Try.prog 8 #[.slice ad1 n1 k1, .slice ad2 n2 k2] w fun e w' => e = .returned (.pointer (some ⟨w.heap.size, 0, none⟩)) ∧ w' = w.alloc (.cells #[.slice ad1 n1 k1, .slice ad2 n2 k2, .slice none 0 0] 40) := by
  go_enter Try.func8, Try.ntmps8
  go_wp2
  go_ret
  exact ⟨rfl, rfl⟩
theorem newList_any (wd sn ln fr mv : Int) (rt hn : Option Addr) (w : World) : Calls Try.prog 9 #[.int .i64 wd, .int .i64 sn, .pointer rt, .int .i64 ln, .pointer hn, .int .i64 fr, .int .u64 mv] w fun e w' =>
    e = .returned (.pointer (some ⟨w.heap.size, 0, none⟩)) ∧ w' = w.alloc (.cells #[.int .i64 wd, .int .i64 sn, .pointer rt, .int .i64 ln, .pointer hn, .int .i64 fr, .int .u64 mv, .pointer none, .int .u64 0] 34) := by
  go_enter Try.func9, Try.ntmps9
  go_wp2
  go_ret
  exact ⟨rfl, rfl⟩
end Go.Proofs.Qxb6627702a
