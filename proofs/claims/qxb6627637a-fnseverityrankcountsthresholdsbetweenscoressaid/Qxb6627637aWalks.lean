import Derived.Test.Qxb6627637aRows
import Derived.WalkKit
import Derived.ProofKit
import Derived.OpenShut
namespace Go.Proofs.Qxb6627637a
open Go.ChangeShapes Go.WideShapes Go.ChangeAt Go.RowKit

/-- How many of the four band edges lie at or below s. -/
def band (s : Int) : Int := if s < 1 then 0 else if s < 40 then 1 else if s < 70 then 2 else if s < 90 then 3 else 4

theorem band0 {s : Int} (h : s < 1) : band s = 0 := by unfold band; repeat (split <;> try omega)
theorem band1 {s : Int} (h : 1 ≤ s) (h' : s < 40) : band s = 1 := by unfold band; repeat (split <;> try omega)
theorem band2 {s : Int} (h : 40 ≤ s) (h' : s < 70) : band s = 2 := by unfold band; repeat (split <;> try omega)
theorem band3 {s : Int} (h : 70 ≤ s) (h' : s < 90) : band s = 3 := by unfold band; repeat (split <;> try omega)
theorem band4 {s : Int} (h : 90 ≤ s) : band s = 4 := by unfold band; repeat (split <;> try omega)
theorem bands (s : Int) : s < 1 ∨ (1 ≤ s ∧ s < 40) ∨ (40 ≤ s ∧ s < 70) ∨ (70 ≤ s ∧ s < 90) ∨ 90 ≤ s := by omega
theorem band_lo (s : Int) : 0 ≤ band s := by unfold band; repeat (split <;> try omega)
theorem band_hi (s : Int) : band s ≤ 4 := by unfold band; repeat (split <;> try omega)
/-- A score of at least one whole point lies in the band of its whole point. -/
theorem band_whole (s : Int) (h : 10 ≤ s) : band (s - s % 10) = band s := by
  rcases bands s with a | ⟨a, b⟩ | ⟨a, b⟩ | ⟨a, b⟩ | a
  · omega
  · rw [band1 a b, band1 (by omega) (by omega)]
  · rw [band2 a b, band2 (by omega) (by omega)]
  · rw [band3 a b, band3 (by omega) (by omega)]
  · rw [band4 a, band4 (by omega)]

/-- The name of the r-th severity. -/
def nameOf (r : Int) : ByteArray :=
  if r = 0 then { data := #[78, 79, 78, 69] } else if r = 1 then { data := #[76, 79, 87] } else if r = 2 then { data := #[77, 69, 68, 73, 85, 77] }
  else if r = 3 then { data := #[72, 73, 71, 72] } else { data := #[67, 82, 73, 84, 73, 67, 65, 76] }
theorem name0 : nameOf 0 = { data := #[78, 79, 78, 69] } := rfl
theorem name1 : nameOf 1 = { data := #[76, 79, 87] } := rfl
theorem name2 : nameOf 2 = { data := #[77, 69, 68, 73, 85, 77] } := rfl
theorem name3 : nameOf 3 = { data := #[72, 73, 71, 72] } := rfl
theorem name4 : nameOf 4 = { data := #[67, 82, 73, 84, 73, 67, 65, 76] } := rfl

/-- (Score).Severity at a score that is not negative. -/
theorem sev_any (s : Int) (h0 : 0 ≤ s) (w : World) :
    Calls Try.prog 6 #[.int .i64 s] w fun e w' => e = .returned (.string (nameOf (band s))) ∧ w' = w := by
  rcases bands s with a | ⟨a, b⟩ | ⟨a, b⟩ | ⟨a, b⟩ | a
  · obtain rfl : s = 0 := by omega
    rw [band0 a, name0]
    go_enter Try.func6, Try.ntmps6
    go_wp2
    go_ret
    exact ⟨rfl, rfl⟩
  · rw [band1 a b, name1]
    go_enter Try.func6, Try.ntmps6
    go_wp2
    go_ret
    exact ⟨rfl, rfl⟩
  · rw [band2 a b, name2]
    go_enter Try.func6, Try.ntmps6
    go_wp2
    go_ret
    exact ⟨rfl, rfl⟩
  · rw [band3 a b, name3]
    go_enter Try.func6, Try.ntmps6
    go_wp2
    go_ret
    exact ⟨rfl, rfl⟩
  · rw [band4 a, name4]
    go_enter Try.func6, Try.ntmps6
    go_wp2
    go_ret
    exact ⟨rfl, rfl⟩

/-- cvssB1RankOf at each of the five names. -/
theorem rank_any (r : Int) (h0 : 0 ≤ r) (h4 : r ≤ 4) (w : World) :
    Calls Try.prog 5 #[.string (nameOf r)] w fun e w' => e = .returned (.int .i64 r) ∧ w' = w := by
  have h : r = 0 ∨ r = 1 ∨ r = 2 ∨ r = 3 ∨ r = 4 := by omega
  rcases h with rfl | rfl | rfl | rfl | rfl
  · rw [name0]
    go_enter Try.func5, Try.ntmps5
    go_wp2
    go_ret
    exact ⟨rfl, rfl⟩
  · rw [name1]
    go_enter Try.func5, Try.ntmps5
    go_wp2
    go_ret
    exact ⟨rfl, rfl⟩
  · rw [name2]
    go_enter Try.func5, Try.ntmps5
    go_wp2
    go_ret
    exact ⟨rfl, rfl⟩
  · rw [name3]
    go_enter Try.func5, Try.ntmps5
    go_wp2
    go_ret
    exact ⟨rfl, rfl⟩
  · rw [name4]
    go_enter Try.func5, Try.ntmps5
    go_wp2
    go_ret
    exact ⟨rfl, rfl⟩

theorem ret_int {k : IntKind} {a b : Int} (h : a = b) : Ending.returned (.int k a) = .returned (.int k b) := by rw [h]

/-- cvssB1Crossed between two scores in order. -/
theorem crossed_any (lo hi : Int) (h : lo ≤ hi) (w : World) :
    Calls Try.prog 7 #[.int .i64 lo, .int .i64 hi] w fun e w' => e = .returned (.int .i64 (band hi - band lo)) ∧ w' = w := by
  rcases bands lo with a | ⟨a, b⟩ | ⟨a, b⟩ | ⟨a, b⟩ | a
  · rcases bands hi with c | ⟨c, d⟩ | ⟨c, d⟩ | ⟨c, d⟩ | c
    · rw [band0 a, band0 c]
      go_enter Try.func7, Try.ntmps7
      go_wp2
      go_ret
      exact ⟨rfl, rfl⟩
    · rw [band0 a, band1 c d]
      go_enter Try.func7, Try.ntmps7
      go_wp2
      go_ret
      exact ⟨rfl, rfl⟩
    · rw [band0 a, band2 c d]
      go_enter Try.func7, Try.ntmps7
      go_wp2
      go_ret
      exact ⟨rfl, rfl⟩
    · rw [band0 a, band3 c d]
      go_enter Try.func7, Try.ntmps7
      go_wp2
      go_ret
      exact ⟨rfl, rfl⟩
    · rw [band0 a, band4 c]
      go_enter Try.func7, Try.ntmps7
      go_wp2
      go_ret
      exact ⟨rfl, rfl⟩
  · rcases bands hi with c | ⟨c, d⟩ | ⟨c, d⟩ | ⟨c, d⟩ | c
    · omega
    · rw [band1 a b, band1 c d]
      go_enter Try.func7, Try.ntmps7
      go_wp2
      go_ret
      exact ⟨rfl, rfl⟩
    · rw [band1 a b, band2 c d]
      go_enter Try.func7, Try.ntmps7
      go_wp2
      go_ret
      exact ⟨rfl, rfl⟩
    · rw [band1 a b, band3 c d]
      go_enter Try.func7, Try.ntmps7
      go_wp2
      go_ret
      exact ⟨rfl, rfl⟩
    · rw [band1 a b, band4 c]
      go_enter Try.func7, Try.ntmps7
      go_wp2
      go_ret
      exact ⟨rfl, rfl⟩
  · rcases bands hi with c | ⟨c, d⟩ | ⟨c, d⟩ | ⟨c, d⟩ | c
    · omega
    · omega
    · rw [band2 a b, band2 c d]
      go_enter Try.func7, Try.ntmps7
      go_wp2
      go_ret
      exact ⟨rfl, rfl⟩
    · rw [band2 a b, band3 c d]
      go_enter Try.func7, Try.ntmps7
      go_wp2
      go_ret
      exact ⟨rfl, rfl⟩
    · rw [band2 a b, band4 c]
      go_enter Try.func7, Try.ntmps7
      go_wp2
      go_ret
      exact ⟨rfl, rfl⟩
  · rcases bands hi with c | ⟨c, d⟩ | ⟨c, d⟩ | ⟨c, d⟩ | c
    · omega
    · omega
    · omega
    · rw [band3 a b, band3 c d]
      go_enter Try.func7, Try.ntmps7
      go_wp2
      go_ret
      exact ⟨rfl, rfl⟩
    · rw [band3 a b, band4 c]
      go_enter Try.func7, Try.ntmps7
      go_wp2
      go_ret
      exact ⟨rfl, rfl⟩
  · rcases bands hi with c | ⟨c, d⟩ | ⟨c, d⟩ | ⟨c, d⟩ | c
    · omega
    · omega
    · omega
    · omega
    · rw [band4 a, band4 c]
      go_enter Try.func7, Try.ntmps7
      go_wp2
      go_ret
      exact ⟨rfl, rfl⟩
theorem crossed_first (a : Int) (h : 0 ≤ a) (w : World) :
    Calls Try.prog 7 #[.int .i64 (-1), .int .i64 a] w fun e w' => e = .returned (.int .i64 (band a)) ∧ w' = w := by
  refine (crossed_any (-1) a (by omega) w).mono ?_
  rintro e w' ⟨rfl, rfl⟩
  exact ⟨ret_int (by rw [band0 (s := -1) (by omega)]; omega), rfl⟩
end Go.Proofs.Qxb6627637a
