/- A List in memory, as a whole block; the contracts said of it. -/
import Derived.Test.Qxb6627702aClones
import Derived.Lib.Builder
namespace Go.Proofs.Qxb6627702a
open Go.ChangeShapes Go.WideShapes Go.ChangeAt Go.RowKit

theorem hidden {p : Prop} (h : p) : Hid p := h
def Done (w : World) (e : Ending) (w' : World) : Prop := e = .returned (.bool true) ∧ Below w.heap.size w w'
theorem done {w w' : World} (h : Below w.heap.size w w') : Done w (.returned (.bool true)) w' := ⟨rfl, h⟩

/-- A nil slice has no room. -/
def Nily (ad : Option Addr) (n c : Nat) : Prop := ad = none → n = 0 ∧ c = 0
theorem Lies.below {w w' : World} {B : Nat} {ad : Option Addr} {n : Nat} {V : Nat → Value} (h : Lies w ad n V) (hb : Below B w w') (hB : w.heap.size ≤ B) : Lies w' ad n V := by
  rcases h with h | ⟨b, off, rfl, h⟩
  · exact .inl h
  · refine .inr ⟨b, off, rfl, fun t ht => ?_⟩
    have hc := h t ht
    have := World.block_lt_of_cell? _ _ hc
    rw [hb.cell (Nat.lt_of_lt_of_le this hB), hc]
theorem cloneB_any (ad : Option Addr) (n c : Nat) (S : Nat → Int) (w : World) (h : Lies w ad n (byteV S)) (hn : n ≤ 1048576) (h0 : Nily ad n c) :
    Calls Try.prog 5 #[.slice ad n c] w fun e w' => Gives w e w' := by
  cases ad with
  | none => obtain ⟨rfl, rfl⟩ := h0 rfl; exact cloneB_nil w
  | some x => exact cloneB_some x n c S w h hn
theorem cloneS_any (ad : Option Addr) (n c : Nat) (S : Nat → ByteArray) (w : World) (h : Lies w ad n (strV S)) (hn : n ≤ 1048576) (h0 : Nily ad n c) :
    Calls Try.prog 6 #[.slice ad n c] w fun e w' => Gives w e w' := by
  cases ad with
  | none => obtain ⟨rfl, rfl⟩ := h0 rfl; exact cloneS_nil w
  | some x => exact cloneS_some x n c S w h hn

/-- Block b is a List with these fields. -/
def ListAt (w : World) (b : Nat) (wd sn : Int) (rt : Option Addr) (ln : Int) (hn : Option Addr) (fr mv : Int) (so : Option Addr) (se : Int) : Prop :=
  w.heap[b]? = some (.cells #[.int .i64 wd, .int .i64 sn, .pointer rt, .int .i64 ln, .pointer hn, .int .i64 fr, .int .u64 mv, .pointer so, .int .u64 se] 34 (0, 0))

section
variable {w w' : World} {b : Nat} {wd sn ln fr mv se : Int} {rt hn so : Option Addr}
theorem ListAt.cells (h : ListAt w b wd sn rt ln hn fr mv so se) :
    w.cell? ⟨b, 0, none⟩ = some (.int .i64 wd) ∧ w.cell? ⟨b, 1, none⟩ = some (.int .i64 sn) ∧ w.cell? ⟨b, 2, none⟩ = some (.pointer rt) ∧ w.cell? ⟨b, 3, none⟩ = some (.int .i64 ln) ∧
    w.cell? ⟨b, 4, none⟩ = some (.pointer hn) ∧ w.cell? ⟨b, 5, none⟩ = some (.int .i64 fr) ∧ w.cell? ⟨b, 6, none⟩ = some (.int .u64 mv) ∧ w.cell? ⟨b, 7, none⟩ = some (.pointer so) ∧ w.cell? ⟨b, 8, none⟩ = some (.int .u64 se) := by
  unfold ListAt at h
  simp [World.cell?, h]
theorem ListAt.free (h : ListAt w b wd sn rt ln hn fr mv so se) (i : Nat) : w.frozen? ⟨b, i, none⟩ = false := by
  unfold ListAt at h
  simp [World.frozen?, h]
theorem ListAt.lt (h : ListAt w b wd sn rt ln hn fr mv so se) : b < w.heap.size := by
  unfold ListAt at h
  rcases Nat.lt_or_ge b w.heap.size with h' | h'
  · exact h'
  · rw [Array.getElem?_eq_none h'] at h; cases h
theorem ListAt.below (h : ListAt w b wd sn rt ln hn fr mv so se) {B : Nat} (hb : Below B w w') (hB : b < B) : ListAt w' b wd sn rt ln hn fr mv so se := by
  unfold ListAt at h ⊢
  rw [hb.block b hB, h]
theorem ListAt.drewN (h : ListAt w b wd sn rt ln hn fr mv so se) (m : Nat) : ListAt (w.drewN m) b wd sn rt ln hn fr mv so se := h
theorem ListAt.new (w : World) (wd sn : Int) (rt : Option Addr) (ln : Int) (hn : Option Addr) (fr mv : Int) (so : Option Addr) (se : Int) :
    ListAt (w.alloc (.cells #[.int .i64 wd, .int .i64 sn, .pointer rt, .int .i64 ln, .pointer hn, .int .i64 fr, .int .u64 mv, .pointer so, .int .u64 se] 34)) w.heap.size wd sn rt ln hn fr mv so se := by
  unfold ListAt
  exact (MapKept.heap_alloc w _).1
theorem ListAt.old (h : ListAt w b wd sn rt ln hn fr mv so se) (o : Obj) : ListAt (w.alloc o) b wd sn rt ln hn fr mv so se :=
  h.below ((Below.refl w.heap.size w).alloc (Nat.le_refl _) o) h.lt

theorem ListAt.set (h : ListAt w b wd sn rt ln hn fr mv so se) {wd' sn' ln' fr' mv' se' : Int} {rt' hn' so' : Option Addr} :
    ListAt (((((((((w.setCell ⟨b, 0, none⟩ (.int .i64 wd')).setCell ⟨b, 1, none⟩ (.int .i64 sn')).setCell ⟨b, 2, none⟩ (.pointer rt')).setCell ⟨b, 3, none⟩ (.int .i64 ln')).setCell ⟨b, 4, none⟩ (.pointer hn')).setCell ⟨b, 5, none⟩ (.int .i64 fr')).setCell ⟨b, 6, none⟩ (.int .u64 mv')).setCell ⟨b, 7, none⟩ (.pointer so')).setCell ⟨b, 8, none⟩ (.int .u64 se')) b wd' sn' rt' ln' hn' fr' mv' so' se' := by
  unfold ListAt at h ⊢
  simp [World.setCell, Array.getElem?_modify, h]
theorem ListAt.beside (h : ListAt w b wd sn rt ln hn fr mv so se) {b' : Nat} (hne : b ≠ b') (i : Nat) (v : Value) : ListAt (w.setCell ⟨b', i, none⟩ v) b wd sn rt ln hn fr mv so se := by
  unfold ListAt at h ⊢
  rw [Below.heap_setCell w ⟨b', i, none⟩ v b hne, h]
theorem ListAt.beside9 (h : ListAt w b wd sn rt ln hn fr mv so se) {b' : Nat} (hne : b ≠ b') (v0 v1 v2 v3 v4 v5 v6 v7 v8 : Value) (o : Obj) :
    ListAt ((((((((((w.setCell ⟨b', 0, none⟩ v0).setCell ⟨b', 1, none⟩ v1).setCell ⟨b', 2, none⟩ v2).setCell ⟨b', 3, none⟩ v3).setCell ⟨b', 4, none⟩ v4).setCell ⟨b', 5, none⟩ v5).setCell ⟨b', 6, none⟩ v6).setCell ⟨b', 7, none⟩ v7).setCell ⟨b', 8, none⟩ v8).alloc o) b wd sn rt ln hn fr mv so se :=
  ((((((((((h.beside hne _ _).beside hne _ _).beside hne _ _).beside hne _ _).beside hne _ _).beside hne _ _).beside hne _ _).beside hne _ _).beside hne _ _)).old _
theorem below9 {B : Nat} {w0 : World} (hb : Below B w0 w) {b' : Nat} (hB : B ≤ b') (hs : B ≤ w0.heap.size) (v0 v1 v2 v3 v4 v5 v6 v7 v8 : Value) (o : Obj) :
    Below B w0 ((((((((((w.setCell ⟨b', 0, none⟩ v0).setCell ⟨b', 1, none⟩ v1).setCell ⟨b', 2, none⟩ v2).setCell ⟨b', 3, none⟩ v3).setCell ⟨b', 4, none⟩ v4).setCell ⟨b', 5, none⟩ v5).setCell ⟨b', 6, none⟩ v6).setCell ⟨b', 7, none⟩ v7).setCell ⟨b', 8, none⟩ v8).alloc o) := by
  have h9 : Below B w0 ((((((((((w.setCell ⟨b', 0, none⟩ v0).setCell ⟨b', 1, none⟩ v1).setCell ⟨b', 2, none⟩ v2).setCell ⟨b', 3, none⟩ v3).setCell ⟨b', 4, none⟩ v4).setCell ⟨b', 5, none⟩ v5).setCell ⟨b', 6, none⟩ v6).setCell ⟨b', 7, none⟩ v7).setCell ⟨b', 8, none⟩ v8)) := by
    iterate 9 refine Below.setCell ?_ (by exact hB) _
    exact hb
  exact h9.alloc (Nat.le_trans hs h9.size) o
theorem ListAt.set9 (h : ListAt w b wd sn rt ln hn fr mv so se) {wd' sn' ln' fr' mv' se' : Int} {rt' hn' so' : Option Addr} (o : Obj) :
    ListAt ((((((((((w.setCell ⟨b, 0, none⟩ (.int .i64 wd')).setCell ⟨b, 1, none⟩ (.int .i64 sn')).setCell ⟨b, 2, none⟩ (.pointer rt')).setCell ⟨b, 3, none⟩ (.int .i64 ln')).setCell ⟨b, 4, none⟩ (.pointer hn')).setCell ⟨b, 5, none⟩ (.int .i64 fr')).setCell ⟨b, 6, none⟩ (.int .u64 mv')).setCell ⟨b, 7, none⟩ (.pointer so')).setCell ⟨b, 8, none⟩ (.int .u64 se')).alloc o) b wd' sn' rt' ln' hn' fr' mv' so' se' :=
  h.set.old _
end

theorem fields_at {w : World} {b : Nat} {wd sn ln fr mv se : Int} {rt hn so : Option Addr} (h : ListAt w b wd sn rt ln hn fr mv so se) :
    Calls Try.prog 11 #[.pointer (some ⟨b, 0, none⟩)] w fun e w' =>
      e = .returned (.tuple #[.int .i64 wd, .int .i64 sn, .pointer rt, .int .i64 ln, .pointer hn, .int .i64 fr, .int .u64 mv, .pointer so, .int .u64 se]) ∧ ∃ m, w' = w.drewN m := by
  obtain ⟨c0, c1, c2, c3, c4, c5, c6, c7, c8⟩ := h.cells
  exact fields_any b wd sn ln fr mv se rt hn so w c0 c1 c2 c3 c4 c5 c6 c7 c8
theorem reader_at_own {w : World} {b : Nat} {wd sn ln fr mv se : Int} {rt hn : Option Addr} (h : ListAt w b wd sn rt ln hn fr mv none se) :
    Calls Try.prog 10 #[.pointer (some ⟨b, 0, none⟩)] w fun e w' =>
      e = .returned (.agg #[.int .i64 wd, .int .i64 sn, .pointer rt, .int .i64 ln, .pointer none, .int .i64 0, .int .u64 0, .pointer (some ⟨b, 0, none⟩), .int .u64 mv]) ∧ Below w.heap.size w w' := by
  obtain ⟨c0, c1, c2, c3, c4, c5, c6, c7, c8⟩ := h.cells
  exact reader_own b wd sn ln mv rt w h.lt c0 c1 c2 c3 c6 c7
theorem reader_at_reader {w : World} {b l : Nat} {wd sn ln fr mv mv0 fr' se' : Int} {rt hn so' hn' : Option Addr} (h : ListAt w b wd sn rt ln hn fr mv0 (some ⟨l, 0, none⟩) mv) (hl : ListAt w l wd sn rt ln hn' fr' mv so' se') :
    Calls Try.prog 10 #[.pointer (some ⟨b, 0, none⟩)] w fun e w' =>
      e = .returned (.agg #[.int .i64 wd, .int .i64 sn, .pointer rt, .int .i64 ln, .pointer none, .int .i64 0, .int .u64 0, .pointer (some ⟨l, 0, none⟩), .int .u64 mv]) ∧ Below w.heap.size w w' := by
  obtain ⟨c0, c1, c2, c3, c4, c5, c6, c7, c8⟩ := h.cells
  obtain ⟨d0, d1, d2, d3, d4, d5, d6, d7, d8⟩ := hl.cells
  exact reader_reader b l wd sn ln mv rt w h.lt hl.lt c0 c1 c2 c3 c7 c8 d6

/-- A new leaf lies in new memory; of what it holds nothing is asked. -/
def LeafIs (w : World) (e : Ending) (w' : World) : Prop := ∃ b, e = .returned (.pointer (some ⟨b, 0, none⟩)) ∧ Below w.heap.size w w'
theorem leaf_any (ad1 ad2 : Option Addr) (n1 k1 n2 k2 : Nat) (w : World) : Calls Try.prog 8 #[.slice ad1 n1 k1, .slice ad2 n2 k2] w fun e w' => LeafIs w e w' := by
  refine (newLeaf_any ad1 ad2 n1 k1 n2 k2 w).mono ?_
  rintro e w' ⟨rfl, rfl⟩
  exact ⟨_, rfl, (Below.refl _ _).alloc (Nat.le_refl _) _⟩
/-- A new List lies in new memory. -/
def ListIs (wd sn : Int) (rt : Option Addr) (ln : Int) (hn : Option Addr) (fr mv : Int) (w : World) (e : Ending) (w' : World) : Prop :=
  ∃ b, e = .returned (.pointer (some ⟨b, 0, none⟩)) ∧ ListAt w' b wd sn rt ln hn fr mv none 0 ∧ Below w.heap.size w w'
theorem list_any (wd sn ln fr mv : Int) (rt hn : Option Addr) (w : World) : Calls Try.prog 9 #[.int .i64 wd, .int .i64 sn, .pointer rt, .int .i64 ln, .pointer hn, .int .i64 fr, .int .u64 mv] w fun e w' => ListIs wd sn rt ln hn fr mv w e w' := by
  refine (newList_any wd sn ln fr mv rt hn w).mono ?_
  rintro e w' ⟨rfl, rfl⟩
  exact ⟨_, rfl, ListAt.new w wd sn rt ln hn fr mv none 0, (Below.refl _ _).alloc (Nat.le_refl _) _⟩
/-! A pointer against itself. -/
theorem neq28 (a : Addr) (W : World) : (binOp .neq 28 (.pointer (some a)) (.pointer (some a))).run Try.prog W = .ok (.bool false) W := by
  obtain ⟨j, hj⟩ : ∃ j, Try.prog.info? 40 = some j := ⟨_, rfl⟩
  exact Lib.run_neq_ptr_same W a Try.underlying28 hj
theorem neq31 (a : Addr) (W : World) : (binOp .neq 31 (.pointer (some a)) (.pointer (some a))).run Try.prog W = .ok (.bool false) W := by
  obtain ⟨j, hj⟩ : ∃ j, Try.prog.info? 34 = some j := ⟨_, rfl⟩
  exact Lib.run_neq_ptr_same W a Try.underlying31 hj
theorem noNode_same (w : World) : Calls Try.prog 7 #[] w fun e w' => e = .returned (.pointer none) ∧ w = w' :=
  (noNode_any w).mono fun _ _ ⟨h, h'⟩ => ⟨h, h'.symm⟩
end Go.Proofs.Qxb6627702a
