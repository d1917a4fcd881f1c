/- What the laws' own copies of their arguments are good for. -/
import Derived.Test.Qxb6627673aUnion
import Derived.Laws.CopyOwn
namespace Go.Proofs.Qxb6627673a
open Go.ChangeShapes Go.WideShapes Go.ChangeAt Go.RowKit

theorem size9 : (Try.prog.info? 9).map (·.size) = some 1 := by kernel_rfl

/-- Block g is a row of just these strings. -/
def Row (w : World) (g : Nat) (A : List ByteArray) : Prop := w.heap[g]? = some (.cells (A.map Value.string).toArray 9 (0, 0))

theorem Row.cell {w : World} {g : Nat} {A : List ByteArray} (h : Row w g A) : ∀ t, t < A.length → w.cell? ⟨g, 0 + t, none⟩ = some (.string (el A t)) := by
  intro t ht
  unfold Row at h
  simp [World.cell?, h, el, List.getD, ht]
theorem Row.lt {w : World} {g : Nat} {A : List ByteArray} (h : Row w g A) : g < w.heap.size := by
  unfold Row at h
  rcases Nat.lt_or_ge g w.heap.size with h' | h'
  · exact h'
  · rw [Array.getElem?_eq_none h'] at h; cases h
theorem Row.lies {w : World} {g n : Nat} {A : List ByteArray} (h : Row w g A) (hn : A.length = n) : Lies w (some ⟨g, 0, none⟩) n (el A) :=
  .inr ⟨g, 0, rfl, fun t ht => h.cell t (by omega)⟩
theorem Row.below {w w' : World} {g B : Nat} {A : List ByteArray} (h : Row w g A) (hb : Below B w w') (hg : g < B) : Row w' g A := by
  unfold Row at h ⊢
  rw [hb.block g hg, h]
theorem Row.drewN {w : World} {g : Nat} {A : List ByteArray} (h : Row w g A) (m : Nat) : Row (w.drewN m) g A := h
theorem Lies.drewN {w : World} {ad : Option Addr} {n : Nat} {S : Nat → ByteArray} (h : Lies w ad n S) (m : Nat) : Lies (w.drewN m) ad n S := h
theorem Lies.below {w w' : World} {B : Nat} {ad : Option Addr} {n : Nat} {S : Nat → ByteArray} (h : Lies w ad n S) (hb : Below B w w') (hB : w.heap.size ≤ B) : Lies w' ad n S := by
  rcases h with h | ⟨b, off, rfl, h⟩
  · exact .inl h
  · refine .inr ⟨b, off, rfl, fun t ht => ?_⟩
    have hc := h t ht
    have := World.block_lt_of_cell? _ _ hc
    rw [hb.cell (Nat.lt_of_lt_of_le this hB), hc]

theorem from_lies {w : World} {ad : Option Addr} {n : Nat} {A : List ByteArray} (h : Lies w ad n (el A)) (hA : A.length = n) (hp : 0 < (A.map Value.string).length) :
    ∃ x, ad = some x ∧ ∀ j v, (A.map Value.string)[j]? = some v → w.cell? (x.add j) = some v := by
  rcases h with h | ⟨b, off, rfl, h⟩
  · simp at hp; omega
  · exact ⟨_, rfl, news_at (Below.refl (b + 1) w) (Nat.lt_succ_self b) hA h _ rfl⟩
theorem owned_lies {w : World} {B g n c : Nat} {R : List ByteArray} (h : w.ownsRow B 9 1 (.slice (some ⟨g, 0, none⟩) n c) n (R.map Value.string)) : Lies w (some ⟨g, 0, none⟩) n (el R) := by
  refine .inr ⟨g, 0, rfl, fun t ht => ?_⟩
  have hl : R.length = n := by simpa using h.1
  rw [Nat.zero_add, h.cellAt t (by omega)]
  simp [el, List.getD, List.getElem?_eq_getElem (show t < R.length by omega)]

/-! What stands between 'make' and 'copy', each under a name of its own (so that the walk leaves it as it is). -/
/-- Block g, row of n strings, is ready to be copied into. -/
def Made (w : World) (g n : Nat) (Z : List Value) : Prop := w.heap[g]? = some (.cells Z.toArray 9 (0, 0)) ∧ Z.length = n
/-- The n strings A can be copied from sp into block g. -/
def CanCopy (w : World) (sp : Option Addr) (g n : Nat) (Z : List Value) (A : List ByteArray) : Prop :=
  (A.map Value.string).length = Nat.min n n ∧ 0 + (A.map Value.string).length ≤ Z.length ∧
  (0 < (A.map Value.string).length → some (⟨g, 0, none⟩ : Addr) = some ⟨g, 0, none⟩ ∧ ∃ ad, sp = some ad ∧ ∀ j v, (A.map Value.string)[j]? = some v → w.cell? (ad.add j) = some v)
theorem made {w : World} {base g n : Nat} {L : List Value} (h : w.ownsRow base 9 1 (.slice (some ⟨g, 0, none⟩) n n) n L) : Made w g n L := by
  obtain ⟨hl, h | ⟨g', cap, cur, hv, _, hg, _, _, hs, ht⟩⟩ := h
  · cases h.1
  · cases hv
    refine ⟨?_, by simpa using hl⟩
    rw [hg]
    have e : cur.toList = L := by rw [← ht, List.take_of_length_le (by simp; omega)]
    rw [← e]
theorem canCopy {w0 w : World} {B g n : Nat} {sp : Option Addr} {Z : List Value} {A : List ByteArray} (hm : Made w g n Z) (hA : A.length = n) (h : Lies w0 sp n (el A)) (hb : Below B w0 w) (hB : w0.heap.size ≤ B) : CanCopy w sp g n Z A := by
  refine ⟨by rw [List.length_map, hA]; exact (Nat.min_self n).symm, by rw [List.length_map, hA, hm.2]; omega, fun hp => ⟨rfl, ?_⟩⟩
  exact from_lies (h.below hb hB) hA hp
theorem spliced {w : World} {g n : Nat} {Z : List Value} {A : List ByteArray} (hZ : Z.length = n) (hA : A.length = n) (h : Hid (w.heap[g]? = some (.cells (splice Z 0 (A.map Value.string)).toArray 9 (0, 0)))) : Row w g A := by
  have e : splice Z 0 (A.map Value.string) = A.map Value.string := by
    unfold splice
    rw [List.drop_eq_nil_of_le (by simp; omega)]
    simp
  unfold Row
  rw [← e]
  exact h.out
theorem made_below {w w1 : World} (h : w.grownBy w1 none) : Below w.heap.size w w1 :=
  (Below.refl _ _).grown h (Nat.le_refl _) (fun k h => by cases h)
theorem made_below_drew {w w1 : World} {n : Nat} (h : (w.drewN n).grownBy w1 none) : Below w.heap.size w w1 :=
  (below_drewN (Below.refl _ _) n).grown h (Nat.le_refl _) (fun k h => by cases h)
end Go.Proofs.Qxb6627673a
