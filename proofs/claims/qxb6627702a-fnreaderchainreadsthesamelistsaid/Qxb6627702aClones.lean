/- The size guard and the two clones. -/
import Derived.Test.Qxb6627702aReader
import Derived.Laws.OwnMore
namespace Go.Proofs.Qxb6627702a
open Go.ChangeShapes Go.WideShapes Go.ChangeAt Go.RowKit

/-- The n elements V of a slice lie at the address ad (an empty slice may lie anywhere). -/
def Lies (w : World) (ad : Option Addr) (n : Nat) (V : Nat → Value) : Prop :=
  n < 1 ∨ ∃ b off, ad = some ⟨b, off, none⟩ ∧ ∀ t, t < n → w.cell? ⟨b, off + t, none⟩ = some (V t)
def byteV (S : Nat → Int) (t : Nat) : Value := .int .u8 (S t)
def strV (S : Nat → ByteArray) (t : Nat) : Value := .string (S t)

/-- The call answers some bool; nothing has turned. -/
def Answers (w : World) (e : Ending) (w' : World) : Prop := ∃ r : Bool, e = .returned (.bool r) ∧ w = w'
theorem answers {w : World} (r : Bool) : Answers w (.returned (.bool r)) w := ⟨r, rfl, rfl⟩
/-- The call hands back some slice; no old memory has turned. -/
def Gives (w : World) (e : Ending) (w' : World) : Prop := ∃ ad n c, e = .returned (.slice ad n c) ∧ Below w.heap.size w w'
theorem gives {w w' : World} (ad : Option Addr) (n c : Nat) (h : Below w.heap.size w w') : Gives w (.returned (.slice ad n c)) w' := ⟨ad, n, c, rfl, h⟩

theorem info5 : (Try.prog.info? 5).map (fun i => (i.zero, i.size, i.bytes)) = some (some (.int .u8 0), 1, 1) := by kernel_rfl
theorem info9 : (Try.prog.info? 9).map (fun i => (i.zero, i.size, i.bytes)) = some (some (.string ByteArray.empty), 1, 16) := by kernel_rfl

/-- The row that is being filled, and the old memory. -/
def Fills (w : World) (E n : Nat) (wr : World) : Prop := (∃ xs, wr.ownsRow w.heap.size E 1 (.slice (some ⟨w.heap.size, 0, none⟩) n n) n xs) ∧ Below w.heap.size w wr
theorem Fills.at {w wr : World} {E n : Nat} (h : Fills w E n wr) {k : Nat} (hk : k < n) : ∃ v, wr.cell? ⟨w.heap.size, k, none⟩ = some v := by
  obtain ⟨⟨xs, h⟩, _⟩ := h
  have hl := h.1
  exact ⟨xs[k]'(by omega), by rw [h.cellAt k (by omega)]; simp⟩
theorem Fills.free {w wr : World} {E n : Nat} (h : Fills w E n wr) (k : Nat) : wr.frozen? ⟨w.heap.size, k, none⟩ = false := by
  obtain ⟨⟨xs, h⟩, _⟩ := h
  exact h.frozenAt k
theorem Fills.put {w wr : World} {E n : Nat} (h : Fills w E n wr) (k : Nat) (u : Value) : Fills w E n (wr.setCell ⟨w.heap.size, k, none⟩ u) := by
  obtain ⟨⟨xs, h⟩, hb⟩ := h
  exact ⟨⟨_, (h.stored k u).1⟩, hb.setCell (Nat.le_refl _) u⟩
theorem Fills.made {w w1 : World} {E n : Nat} {L : List Value} (h : w1.ownsRow w.heap.size E 1 (.slice (some ⟨w.heap.size, 0, none⟩) n n) n L) (hg : w.grownBy w1 none) : Fills w E n w1 :=
  ⟨⟨_, h⟩, (Below.refl _ _).grown hg (Nat.le_refl _) (fun k h => by cases h)⟩

theorem cloneB_nil (w : World) : Calls Try.prog 5 #[.slice none 0 0] w fun e w' => Gives w e w' := by
  have q1 := fun (W : World) => Lib.run_eql_slice_nil (P := Try.prog) W 22 5 none 0 0 0 0 Try.underlying22
  go_enter Try.func5, Try.ntmps5
  go_wp2
  go_ret
  exact gives _ _ _ (Below.refl _ _)
set_option maxHeartbeats 4000000 in
theorem cloneB_some (x : Addr) (n c : Nat) (S : Nat → Int) (w : World) (h : Lies w (some x) n (byteV S)) (hn : n ≤ 1048576) :
    Calls Try.prog 5 #[.slice (some x) n c] w fun e w' => Gives w e w' := by
  obtain ⟨i0, hi, hz0, hz1, hz2⟩ := info_parts info5
  have q1 := fun (W : World) => Lib.run_eql_slice_nil (P := Try.prog) W 22 5 (some x) n c 0 0 Try.underlying22
  rcases h with h | ⟨b, off, e, h⟩
  · go_enter Try.func5, Try.ntmps5
    go_wp2_with (at_make; refine wpList_make_full _ rfl (.tmp 8) (.tmp 8) 22 rfl w.heap.size 5 i0 (.int .u8 0) 1 Try.underlying22 hi hz0 hz1 _ _ _ _ n rfl rfl rfl rfl (by rw [hz2]; omega) (by unfold maxLen; omega) (Nat.le_refl _) ?_; intro w1 hown hgrow; have F := Fills.made hown hgrow; clear hown hgrow)
    refine wp_loop_rounds 1 ?_
    rw [rounds_succ]
    go_wp2
    go_ret
    exact gives _ _ _ F.2
  · obtain rfl : x = ⟨b, off, none⟩ := Option.some.inj e
    go_enter Try.func5, Try.ntmps5
    go_wp2_with (at_make; refine wpList_make_full _ rfl (.tmp 8) (.tmp 8) 22 rfl w.heap.size 5 i0 (.int .u8 0) 1 Try.underlying22 hi hz0 hz1 _ _ _ _ n rfl rfl rfl rfl (by rw [hz2]; omega) (by unfold maxLen; omega) (Nat.le_refl _) ?_; intro w1 hown hgrow; have F := Fills.made hown hgrow; clear hown hgrow)
    go_loopw [4] (fun i wr => ∃ k : Nat, k ≤ n ∧ i = .int .i64 k ∧ Fills w 5 n wr) (fun i _ => n - (intOf i).toNat)
    case atStart => exact ⟨0, Nat.zero_le _, rfl, F⟩
    case round =>
      obtain ⟨k, hk, rfl, F'⟩ := hrel
      by_cases hlt : k < n
      · have hc0 := h k hlt
        have hbb := World.block_lt_of_cell? _ _ hc0
        have hc : wr.cell? ⟨b, off + k, none⟩ = some (.int .u8 (S k)) := (F'.2.cell (by exact hbb)).trans hc0
        obtain ⟨v, hv⟩ := F'.at hlt
        have hf := F'.free k
        have F2 := F'.put k (.int .u8 (S k))
        clear hc0
        go_wp2
        go_roundw
        case rel => exact ⟨k + 1, by omega, by go_num, F2⟩
        case measure => simp [intOf]; omega
      · go_wp2
        go_ret
        exact gives _ _ _ F'.2
theorem cloneS_nil (w : World) : Calls Try.prog 6 #[.slice none 0 0] w fun e w' => Gives w e w' := by
  have q1 := fun (W : World) => Lib.run_eql_slice_nil (P := Try.prog) W 23 9 none 0 0 0 0 Try.underlying23
  go_enter Try.func6, Try.ntmps6
  go_wp2
  go_ret
  exact gives _ _ _ (Below.refl _ _)
set_option maxHeartbeats 4000000 in
theorem cloneS_some (x : Addr) (n c : Nat) (S : Nat → ByteArray) (w : World) (h : Lies w (some x) n (strV S)) (hn : n ≤ 1048576) :
    Calls Try.prog 6 #[.slice (some x) n c] w fun e w' => Gives w e w' := by
  obtain ⟨i0, hi, hz0, hz1, hz2⟩ := info_parts info9
  have q1 := fun (W : World) => Lib.run_eql_slice_nil (P := Try.prog) W 23 9 (some x) n c 0 0 Try.underlying23
  rcases h with h | ⟨b, off, e, h⟩
  · go_enter Try.func6, Try.ntmps6
    go_wp2_with (at_make; refine wpList_make_full _ rfl (.tmp 8) (.tmp 8) 23 rfl w.heap.size 9 i0 (.string ByteArray.empty) 1 Try.underlying23 hi hz0 hz1 _ _ _ _ n rfl rfl rfl rfl (by rw [hz2]; omega) (by unfold maxLen; omega) (Nat.le_refl _) ?_; intro w1 hown hgrow; have F := Fills.made hown hgrow; clear hown hgrow)
    refine wp_loop_rounds 1 ?_
    rw [rounds_succ]
    go_wp2
    go_ret
    exact gives _ _ _ F.2
  · obtain rfl : x = ⟨b, off, none⟩ := Option.some.inj e
    go_enter Try.func6, Try.ntmps6
    go_wp2_with (at_make; refine wpList_make_full _ rfl (.tmp 8) (.tmp 8) 23 rfl w.heap.size 9 i0 (.string ByteArray.empty) 1 Try.underlying23 hi hz0 hz1 _ _ _ _ n rfl rfl rfl rfl (by rw [hz2]; omega) (by unfold maxLen; omega) (Nat.le_refl _) ?_; intro w1 hown hgrow; have F := Fills.made hown hgrow; clear hown hgrow)
    go_loopw [4] (fun i wr => ∃ k : Nat, k ≤ n ∧ i = .int .i64 k ∧ Fills w 9 n wr) (fun i _ => n - (intOf i).toNat)
    case atStart => exact ⟨0, Nat.zero_le _, rfl, F⟩
    case round =>
      obtain ⟨k, hk, rfl, F'⟩ := hrel
      by_cases hlt : k < n
      · have hc0 := h k hlt
        have hbb := World.block_lt_of_cell? _ _ hc0
        have hc : wr.cell? ⟨b, off + k, none⟩ = some (.string (S k)) := (F'.2.cell (by exact hbb)).trans hc0
        obtain ⟨v, hv⟩ := F'.at hlt
        have hf := F'.free k
        have F2 := F'.put k (.string (S k))
        clear hc0
        go_wp2
        go_roundw
        case rel => exact ⟨k + 1, by omega, by go_num, F2⟩
        case measure => simp [intOf]; omega
      · go_wp2
        go_ret
        exact gives _ _ _ F'.2

set_option maxHeartbeats 4000000 in
theorem bytes_any (wd sn mv dp : Int) (hd : Bool) (a1 a2 : Option Addr) (n1 c1 n2 c2 : Nat) (S2 : Nat → ByteArray) (w : World) (h2 : Lies w a2 n2 (strV S2)) (m1 : n1 ≤ maxLen) (m2 : n2 ≤ maxLen) :
    Calls Try.prog 4 #[.int .i64 wd, .int .i64 sn, .slice a1 n1 c1, .slice a2 n2 c2, .int .u64 mv, .bool hd, .int .i64 dp] w fun e w' => Answers w e w' := by
  unfold maxLen at m1 m2
  by_cases g1 : (1048576 : Int) < n1
  · go_enter Try.func4, Try.ntmps4
    go_wp2
    go_ret
    exact answers _
  by_cases g2 : (1048576 : Int) < n2
  · go_enter Try.func4, Try.ntmps4
    go_wp2
    go_ret
    exact answers _
  by_cases g3 : (1048576 : Int) < n1 + n2
  · go_enter Try.func4, Try.ntmps4
    go_wp2
    go_ret
    exact answers _
  rcases h2 with h2 | ⟨b2, o2, rfl, h2⟩
  · go_enter Try.func4, Try.ntmps4
    go_wp2
    refine wp_loop_rounds 1 ?_
    rw [rounds_succ]
    go_wp2
    go_ret
    exact answers _
  · go_enter Try.func4, Try.ntmps4
    go_wp2
    go_loop [15, 16] (fun n i => ∃ (k : Nat) (m : Int), k ≤ n2 ∧ i = .int .i64 k ∧ n = .int .i64 m) (fun _ i => n2 - (intOf i).toNat)
    case atStart => exact ⟨0, _, Nat.zero_le _, rfl, rfl⟩
    case round =>
      obtain ⟨k, m, hk, rfl, rfl⟩ := hrel
      by_cases hlt : k < n2
      · have hc : w.cell? ⟨b2, o2 + k, none⟩ = some (.string (S2 k)) := h2 k hlt
        clear h2
        go_wp2
        · go_ret
          exact answers _
        · go_ret
          exact answers _
        · go_round
          case rel => exact ⟨k + 1, _, by omega, by go_num, rfl⟩
          case measure => simp [intOf]; omega
      · go_wp2
        go_ret
        exact answers _
end Go.Proofs.Qxb6627702a
