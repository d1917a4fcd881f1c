/- schema.Union: the merge of two lists. -/
import Derived.Test.Qxb6627673aReads
import Derived.WalkSpells
import Derived.Deep.RegionLaw
import Derived.Laws.OwnMore
import Derived.WalkSmall
namespace Go.Proofs.Qxb6627673a
open Go.ChangeShapes Go.WideShapes Go.ChangeAt Go.RowKit

theorem info9 : (Try.prog.info? 9).map (fun i => (i.zero, i.size, i.bytes)) = some (some (.string ByteArray.empty), 1, 16) := by kernel_rfl

/-- append within the capacity, as one step of a region that draws its order. -/
theorem step_append_fits {P : Program} {ops : Array Oper} {o : Oper} {a : Act} {w : World} {K : Act → World → Prop} {Q : Exit → Act → World → Prop} {E : Prop}
    (hg : o.guard = none) (s x : Operand) (t : TypeId) (hop : o.op = Op.call { callee := Callee.builtin Builtin.append, args := #[s, x], argTypes := #[t, t] })
    (base : Nat) (e : TypeId) (i : TypeInfo) (size : Nat) (h1 : P.underlying t = some (.slice e)) (h2 : P.info? e = some i) (h4 : i.size = size)
    (g k cap : Nat) (xs : List Value) (hs : a.eval s = .slice (some ⟨g, 0, none⟩) k cap) (hown : w.ownsRow base e size (.slice (some ⟨g, 0, none⟩) k cap) k xs) (ad : Addr) (m c : Nat) (news : List Value) (hx : a.eval x = .slice (some ad) m c) (hn : news.length = m * size)
    (hc : ∀ j u, news[j]? = some u → w.cell? (ad.add j) = some u) (h1c : ∀ u ∈ news, u.oneCell' = true) (b1 : k + m ≤ cap)
    (hK : ∀ w', w'.ownsRow base e size (.slice (some ⟨g, 0, none⟩) (k + m) cap) (k + m) (xs ++ news) → w.grownBy w' (some g) → K (a.put o.dst (.slice (some ⟨g, 0, none⟩) (k + m) cap)) w') :
    if Region.wanted o (yielded ops a.tmps) = true then Oper.wp P o a w K Q else E := by
  have hw : Region.wanted o (yielded ops a.tmps) = true := by simp [Region.wanted, hg]
  rw [if_pos hw]
  obtain ⟨w', hrun, r1, r2⟩ := run_append_fits (P := P) w base t o.type e i size h1 h2 h4 g k cap xs hown ad m c news hn hc h1c b1
  unfold Oper.wp
  simp [execOp, hop, resolve, invoke, builtin, hs, hx, hrun, Result.andThen]
  exact hK w' r1 r2

def slen : Value → Nat
  | .slice _ n _ => n
  | _ => 0

theorem union_nil_l (ad : Option Addr) (n c : Nat) (w : World) :
    Calls Try.prog 8 #[.slice none 0 0, .slice ad n c] w fun e w' => e = .returned (.slice ad n c) ∧ w' = w := by
  have q1 := fun (w : World) => Lib.run_eql_slice_nil (P := Try.prog) w 22 9 none 0 0 0 0 Try.underlying22
  go_enter Try.func8, Try.ntmps8
  go_wp2
  go_ret
  exact ⟨rfl, rfl⟩
theorem union_nil_r (x : Addr) (n c : Nat) (w : World) :
    Calls Try.prog 8 #[.slice (some x) n c, .slice none 0 0] w fun e w' => e = .returned (.slice (some x) n c) ∧ w' = w := by
  have q1 := fun (w : World) => Lib.run_eql_slice_nil (P := Try.prog) w 22 9 none 0 0 0 0 Try.underlying22
  have q2 := fun (w : World) => Lib.run_eql_slice_nil (P := Try.prog) w 22 9 (some x) n c 0 0 Try.underlying22
  go_enter Try.func8, Try.ntmps8
  go_wp2
  go_ret
  exact ⟨rfl, rfl⟩

/-! ### The round's steps, outside the walk -/
theorem cells_next {w : World} {b o n : Nat} {x : ByteArray} {A2 : List ByteArray} (hl : A2.length + 1 = n) (h : ∀ t, t < n → w.cell? ⟨b, o + t, none⟩ = some (.string (el (x :: A2) t))) :
    ∀ t, t < n - 1 → w.cell? ⟨b, o + 1 + t, none⟩ = some (.string (el A2 t)) := fun t ht => by
  have := h (t + 1) (by omega)
  rw [el_cons_succ] at this
  rw [← this]
  congr 2
  omega
theorem hidden {p : Prop} (h : p) : Hid p := h
theorem news_at {w wr : World} {b o n B : Nat} {A : List ByteArray} (hb : Below B w wr) (hB : b < B) (hl : A.length = n) (h : ∀ t, t < n → w.cell? ⟨b, o + t, none⟩ = some (.string (el A t))) :
    ∀ ad : Addr, some (⟨b, o, none⟩ : Addr) = some ad → ∀ j u, (A.map Value.string)[j]? = some u → wr.cell? (ad.add j) = some u := by
  intro ad ha j u hj
  cases ha
  rw [List.getElem?_map] at hj
  obtain ⟨s, hs, rfl⟩ := Option.map_eq_some_iff.1 hj
  obtain ⟨hlt, hs'⟩ := List.getElem?_eq_some_iff.1 hs
  have := h j (by omega)
  rw [add_plain, hb.cell (by exact hB), this]
  simp [el, List.getD, hs]
theorem strs_oneCell (A : List ByteArray) : ∀ u ∈ A.map Value.string, u.oneCell' = true := by
  intro u hu
  obtain ⟨s, _, rfl⟩ := List.mem_map.1 hu
  rfl
theorem mg_end {A B : List ByteArray} (h : A.length = 0 ∨ B.length = 0) : mg A B = A ++ B := by
  rcases h with h | h
  · obtain rfl := List.eq_nil_of_length_eq_zero h
    rw [mg_nil_l]; rfl
  · obtain rfl := List.eq_nil_of_length_eq_zero h
    rw [mg_nil_r]; simp
theorem union_end {A B A' B' xs : List ByteArray} {na nb k : Nat} (hx : xs ++ mg A' B' = mg A B) (hm : mg A' B' = A' ++ B') (ha : A'.length = na) (hb : B'.length = nb) (hk : xs.length = k) :
    (mg A B).length = k + na + nb ∧ (mg A B).map Value.string = xs.map Value.string ++ A'.map Value.string ++ B'.map Value.string := by
  rw [← hx, hm]
  refine ⟨by simp [ha, hb, hk]; omega, by simp⟩
theorem below_grow {B : Nat} {w wr w1 : World} (hb : Below B w wr) (hB : B ≤ wr.heap.size) (hg : wr.grownBy w1 (some B)) : Below B w w1 :=
  hb.grown hg hB (fun k h => by cases h; exact Nat.le_refl _)
theorem own_next {w : World} {B k c : Nat} {xs : List ByteArray} {z : ByteArray} (h : w.ownsRow B 9 1 (.slice (some ⟨B, 0, none⟩) (k + 1) c) (k + 1) (xs.map Value.string ++ [Value.string z])) :
    w.ownsRow B 9 1 (.slice (some ⟨B, 0, none⟩) (k + 1) c) (k + 1) ((xs ++ [z]).map Value.string) := by
  simpa using h
theorem below_next {B : Nat} {w wr W w1 : World} {o : Obj} (hb : Below B w wr) (hB : B ≤ wr.heap.size) (hW : Below B wr W) (hg : (W.alloc o).grownBy w1 (some B)) : Below B w w1 :=
  ((hb.trans hW).alloc (Nat.le_trans hB hW.size) o).grown hg (Nat.le_trans (Nat.le_trans hB hW.size) (by simp)) (fun k h => by cases h; exact Nat.le_refl _)

set_option maxHeartbeats 8000000 in
theorem union_any (ba bb la lb : Nat) (A B : List ByteArray) (w : World) (hla : la ≤ 65536) (hlb : lb ≤ 65536) (hA : A.length = la) (hB : B.length = lb) (hba : ba < w.heap.size) (hbb : bb < w.heap.size)
    (hca : ∀ t, t < la → w.cell? ⟨ba, 0 + t, none⟩ = some (.string (el A t))) (hcb : ∀ t, t < lb → w.cell? ⟨bb, 0 + t, none⟩ = some (.string (el B t))) :
    Calls Try.prog 8 #[.slice (some ⟨ba, 0, none⟩) la la, .slice (some ⟨bb, 0, none⟩) lb lb] w fun e w' =>
      e = .returned (.slice (some ⟨w.heap.size, 0, none⟩) (mg A B).length (la + lb)) ∧ w'.ownsRow w.heap.size 9 1 (.slice (some ⟨w.heap.size, 0, none⟩) (mg A B).length (la + lb)) (mg A B).length ((mg A B).map Value.string) ∧ Below w.heap.size w w' := by
  obtain ⟨i0, hi, hz0, hz1, hz2⟩ := info_parts info9
  have q1 := fun (w : World) => Lib.run_eql_slice_nil (P := Try.prog) w 22 9 (some ⟨ba, 0, none⟩) la la 0 0 Try.underlying22
  have q2 := fun (w : World) => Lib.run_eql_slice_nil (P := Try.prog) w 22 9 (some ⟨bb, 0, none⟩) lb lb 0 0 Try.underlying22
  go_enter Try.func8, Try.ntmps8
  go_wp2_with (at_make; refine wpList_make_own _ rfl _ _ 22 rfl w.heap.size 9 i0 (.string ByteArray.empty) 1 Try.underlying22 hi hz0 hz1 _ _ _ (la + lb) rfl rfl (by omega) ?b2 ?b3 (Nat.le_refl _) ?_)
  case b2 => rw [hz2]; omega
  case b3 => unfold maxLen; omega
  intro w0 hown0 hgrow0
  go_wp2
  go_loopw [0, 1, 5] (fun sa sb out wr => ∃ (oa na ob nb k : Nat) (A' B' xs : List ByteArray), A'.length = na ∧ B'.length = nb ∧ xs.length = k ∧ sa = .slice (some ⟨ba, oa, none⟩) na na ∧ sb = .slice (some ⟨bb, ob, none⟩) nb nb ∧
      out = .slice (some ⟨w.heap.size, 0, none⟩) k (la + lb) ∧ wr.ownsRow w.heap.size 9 1 (.slice (some ⟨w.heap.size, 0, none⟩) k (la + lb)) k (xs.map Value.string) ∧
      (∀ t, t < na → w.cell? ⟨ba, oa + t, none⟩ = some (.string (el A' t))) ∧ (∀ t, t < nb → w.cell? ⟨bb, ob + t, none⟩ = some (.string (el B' t))) ∧ xs ++ mg A' B' = mg A B ∧ k + na + nb ≤ la + lb ∧ Below w.heap.size w wr)
    (fun sa sb _ _ => slen sa + slen sb)
  case atStart => exact ⟨0, la, 0, lb, 0, A, B, [], hA, hB, rfl, rfl, rfl, rfl, hown0, hca, hcb, rfl, by omega, (Below.refl _ _).grown hgrow0 (Nat.le_refl _) (fun k h => by cases h)⟩
  case round =>
    obtain ⟨oa, na, ob, nb, k, A', B', xs, hA', hB', hxs, rfl, rfl, rfl, hown, ca, cb, hx, hroom, hnx⟩ := hrel
    by_cases hna : 0 < na
    · by_cases hnb : 0 < nb
      · obtain ⟨x, A2, rfl⟩ : ∃ x A2, A' = x :: A2 := by
          cases A' with
          | nil => simp at hA'; omega
          | cons x A2 => exact ⟨x, A2, rfl⟩
        obtain ⟨y, B2, rfl⟩ : ∃ y B2, B' = y :: B2 := by
          cases B' with
          | nil => simp at hB'; omega
          | cons y B2 => exact ⟨y, B2, rfl⟩
        have c1 : wr.cell? ⟨ba, oa, none⟩ = some (.string x) := (hnx.cell (by exact hba)).trans (ca 0 hna)
        have c2 : wr.cell? ⟨bb, ob, none⟩ = some (.string y) := (hnx.cell (by exact hbb)).trans (cb 0 hnb)
        have i1 : (0 : Int) < na := by omega
        have i2 : (0 : Int) < nb := by omega
        have HA : Hid (A2.length + 1 = na) := hA'
        have HB : Hid (B2.length + 1 = nb) := hB'
        have HX : Hid (xs ++ mg (x :: A2) (y :: B2) = mg A B) := hx
        have HK : Hid (xs.length = k) := hxs
        have HCa : Hid (∀ t, t < na → w.cell? ⟨ba, oa + t, none⟩ = some (.string (el (x :: A2) t))) := ca
        have HCb : Hid (∀ t, t < nb → w.cell? ⟨bb, ob + t, none⟩ = some (.string (el (y :: B2) t))) := cb
        have hsz := hnx.size
        clear hA' hB' hx hxs ca cb hown0 hgrow0 q1 q2 hca hcb hA hB
        by_cases l1 : Op.bytesLess x.toList y.toList = true
        · have L1 : Hid (lt x y = true) := l1
          by_cases hn1 : na ≤ 1
          · obtain rfl : na = 1 := by omega
            go_wp2
            go_quiet (fail)
            go_wp2
            go_region_law (refine step_append_fits rfl (.tmp 46) (.tmp 50) 22 rfl w.heap.size 9 i0 1 Try.underlying22 hi hz1 w.heap.size k (la + lb) _ rfl (hown.drew.alloc _) ⟨wr.heap.size, 0, none⟩ 1 1 [.string x] rfl rfl (cell_one_new _ _ _) (by intro u hu; simp at hu; subst hu; rfl) (by omega) ?_; intro w1 hown1 hgrow1)
            have hxk := HK.out
            have hx2 := HX.out
            rw [mg_lt A2 B2 L1.out] at hx2
            clear HX HK
            simp only [Act.put, List.getElem_toArray, List.getElem_cons_zero, List.getElem_cons_succ, List.setIfInBounds_toArray, List.set_cons_zero, List.set_cons_succ]
            go_wp2
            go_roundw
            case rel => exact ⟨oa, 0, ob, nb, k + 1, A2, (y :: B2), xs ++ [x], (by have := HA.out; omega), HB.out, (by simp [hxk]), rfl, rfl, rfl, own_next hown1, (fun t ht => by omega), HCb.out, (by rw [← hx2]; simp), (by omega), below_next hnx hsz (below_drewN (Below.refl _ _) _) hgrow1⟩
            case measure => first | (simp [slen]; done) | (simp [slen]; omega)
          · have ja : (1 : Int) ≤ na := by omega
            have ja2 : ¬ na = 1 := by omega
            go_wp2
            go_quiet (fail)
            go_wp2
            go_region_law (refine step_append_fits rfl (.tmp 46) (.tmp 50) 22 rfl w.heap.size 9 i0 1 Try.underlying22 hi hz1 w.heap.size k (la + lb) _ rfl (hown.drew.alloc _) ⟨wr.heap.size, 0, none⟩ 1 1 [.string x] rfl rfl (cell_one_new _ _ _) (by intro u hu; simp at hu; subst hu; rfl) (by omega) ?_; intro w1 hown1 hgrow1)
            have hxk := HK.out
            have hx2 := HX.out
            rw [mg_lt A2 B2 L1.out] at hx2
            clear HX HK
            simp only [Act.put, List.getElem_toArray, List.getElem_cons_zero, List.getElem_cons_succ, List.setIfInBounds_toArray, List.set_cons_zero, List.set_cons_succ]
            go_wp2
            go_roundw
            case rel => exact ⟨(oa + 1), (na - 1), ob, nb, k + 1, A2, (y :: B2), xs ++ [x], (by have := HA.out; omega), HB.out, (by simp [hxk]), rfl, rfl, rfl, own_next hown1, (cells_next HA.out HCa.out), HCb.out, (by rw [← hx2]; simp), (by omega), below_next hnx hsz (below_drewN (Below.refl _ _) _) hgrow1⟩
            case measure => first | (simp [slen]; done) | (simp [slen]; omega)
        · have l1 : Op.bytesLess x.toList y.toList = false := by simpa using l1
          have L1 : Hid (lt x y = false) := l1
          by_cases l2 : Op.bytesLess y.toList x.toList = true
          · have L2 : Hid (lt y x = true) := l2
            by_cases hn1 : nb ≤ 1
            · obtain rfl : nb = 1 := by omega
              go_wp2
              go_quiet (fail)
              go_wp2
              go_quiet (fail)
              go_wp2
              go_region_law (refine step_append_fits rfl (.tmp 62) (.tmp 66) 22 rfl w.heap.size 9 i0 1 Try.underlying22 hi hz1 w.heap.size k (la + lb) _ rfl (hown.drew.alloc _) ⟨wr.heap.size, 0, none⟩ 1 1 [.string y] rfl rfl (cell_one_new _ _ _) (by intro u hu; simp at hu; subst hu; rfl) (by omega) ?_; intro w1 hown1 hgrow1)
              have hxk := HK.out
              have hx2 := HX.out
              rw [mg_gt A2 B2 L1.out L2.out] at hx2
              clear HX HK
              simp only [Act.put, List.getElem_toArray, List.getElem_cons_zero, List.getElem_cons_succ, List.setIfInBounds_toArray, List.set_cons_zero, List.set_cons_succ]
              go_wp2
              go_roundw
              case rel => exact ⟨oa, na, ob, 0, k + 1, (x :: A2), B2, xs ++ [y], HA.out, (by have := HB.out; omega), (by simp [hxk]), rfl, rfl, rfl, own_next hown1, HCa.out, (fun t ht => by omega), (by rw [← hx2]; simp), (by omega), below_next hnx hsz (below_drewN (Below.refl _ _) _) hgrow1⟩
              case measure => first | (simp [slen]; done) | (simp [slen]; omega)
            · have jb : (1 : Int) ≤ nb := by omega
              have jb2 : ¬ nb = 1 := by omega
              go_wp2
              go_quiet (fail)
              go_wp2
              go_quiet (fail)
              go_wp2
              go_region_law (refine step_append_fits rfl (.tmp 62) (.tmp 66) 22 rfl w.heap.size 9 i0 1 Try.underlying22 hi hz1 w.heap.size k (la + lb) _ rfl (hown.drew.alloc _) ⟨wr.heap.size, 0, none⟩ 1 1 [.string y] rfl rfl (cell_one_new _ _ _) (by intro u hu; simp at hu; subst hu; rfl) (by omega) ?_; intro w1 hown1 hgrow1)
              have hxk := HK.out
              have hx2 := HX.out
              rw [mg_gt A2 B2 L1.out L2.out] at hx2
              clear HX HK
              simp only [Act.put, List.getElem_toArray, List.getElem_cons_zero, List.getElem_cons_succ, List.setIfInBounds_toArray, List.set_cons_zero, List.set_cons_succ]
              go_wp2
              go_roundw
              case rel => exact ⟨oa, na, (ob + 1), (nb - 1), k + 1, (x :: A2), B2, xs ++ [y], HA.out, (by have := HB.out; omega), (by simp [hxk]), rfl, rfl, rfl, own_next hown1, HCa.out, (cells_next HB.out HCb.out), (by rw [← hx2]; simp), (by omega), below_next hnx hsz (below_drewN (Below.refl _ _) _) hgrow1⟩
              case measure => first | (simp [slen]; done) | (simp [slen]; omega)
          · have l2 : Op.bytesLess y.toList x.toList = false := by simpa using l2
            have L2 : Hid (lt y x = false) := l2
            by_cases hn1 : na ≤ 1
            · by_cases hn3 : nb ≤ 1
              · obtain rfl : na = 1 := by omega
                obtain rfl : nb = 1 := by omega
                go_wp2
                go_quiet (fail)
                go_wp2
                go_quiet (fail)
                go_wp2
                go_region_law (refine step_append_fits rfl (.tmp 28) (.tmp 32) 22 rfl w.heap.size 9 i0 1 Try.underlying22 hi hz1 w.heap.size k (la + lb) _ rfl (hown.drew.alloc _) ⟨wr.heap.size, 0, none⟩ 1 1 [.string x] rfl rfl (cell_one_new _ _ _) (by intro u hu; simp at hu; subst hu; rfl) (by omega) ?_; intro w1 hown1 hgrow1)
                have hxk := HK.out
                have hx2 := HX.out
                rw [mg_eq A2 B2 L1.out L2.out] at hx2
                clear HX HK
                simp only [Act.put, List.getElem_toArray, List.getElem_cons_zero, List.getElem_cons_succ, List.setIfInBounds_toArray, List.set_cons_zero, List.set_cons_succ]
                go_wp2
                go_roundw
                case rel => exact ⟨oa, 0, ob, 0, k + 1, A2, B2, xs ++ [x], (by have := HA.out; omega), (by have := HB.out; omega), (by simp [hxk]), rfl, rfl, rfl, own_next hown1, (fun t ht => by omega), (fun t ht => by omega), (by rw [← hx2]; simp), (by omega), below_next hnx hsz (below_drewN (Below.refl _ _) _) hgrow1⟩
                case measure => first | (simp [slen]; done) | (simp [slen]; omega)
              · obtain rfl : na = 1 := by omega
                have jb : (1 : Int) ≤ nb := by omega
                have jb2 : ¬ nb = 1 := by omega
                go_wp2
                go_quiet (fail)
                go_wp2
                go_quiet (fail)
                go_wp2
                go_region_law (refine step_append_fits rfl (.tmp 28) (.tmp 32) 22 rfl w.heap.size 9 i0 1 Try.underlying22 hi hz1 w.heap.size k (la + lb) _ rfl (hown.drew.alloc _) ⟨wr.heap.size, 0, none⟩ 1 1 [.string x] rfl rfl (cell_one_new _ _ _) (by intro u hu; simp at hu; subst hu; rfl) (by omega) ?_; intro w1 hown1 hgrow1)
                have hxk := HK.out
                have hx2 := HX.out
                rw [mg_eq A2 B2 L1.out L2.out] at hx2
                clear HX HK
                simp only [Act.put, List.getElem_toArray, List.getElem_cons_zero, List.getElem_cons_succ, List.setIfInBounds_toArray, List.set_cons_zero, List.set_cons_succ]
                go_wp2
                go_roundw
                case rel => exact ⟨oa, 0, (ob + 1), (nb - 1), k + 1, A2, B2, xs ++ [x], (by have := HA.out; omega), (by have := HB.out; omega), (by simp [hxk]), rfl, rfl, rfl, own_next hown1, (fun t ht => by omega), (cells_next HB.out HCb.out), (by rw [← hx2]; simp), (by omega), below_next hnx hsz (below_drewN (Below.refl _ _) _) hgrow1⟩
                case measure => first | (simp [slen]; done) | (simp [slen]; omega)
            · by_cases hn3 : nb ≤ 1
              · have ja : (1 : Int) ≤ na := by omega
                have ja2 : ¬ na = 1 := by omega
                obtain rfl : nb = 1 := by omega
                go_wp2
                go_quiet (fail)
                go_wp2
                go_quiet (fail)
                go_wp2
                go_region_law (refine step_append_fits rfl (.tmp 28) (.tmp 32) 22 rfl w.heap.size 9 i0 1 Try.underlying22 hi hz1 w.heap.size k (la + lb) _ rfl (hown.drew.alloc _) ⟨wr.heap.size, 0, none⟩ 1 1 [.string x] rfl rfl (cell_one_new _ _ _) (by intro u hu; simp at hu; subst hu; rfl) (by omega) ?_; intro w1 hown1 hgrow1)
                have hxk := HK.out
                have hx2 := HX.out
                rw [mg_eq A2 B2 L1.out L2.out] at hx2
                clear HX HK
                simp only [Act.put, List.getElem_toArray, List.getElem_cons_zero, List.getElem_cons_succ, List.setIfInBounds_toArray, List.set_cons_zero, List.set_cons_succ]
                go_wp2
                go_roundw
                case rel => exact ⟨(oa + 1), (na - 1), ob, 0, k + 1, A2, B2, xs ++ [x], (by have := HA.out; omega), (by have := HB.out; omega), (by simp [hxk]), rfl, rfl, rfl, own_next hown1, (cells_next HA.out HCa.out), (fun t ht => by omega), (by rw [← hx2]; simp), (by omega), below_next hnx hsz (below_drewN (Below.refl _ _) _) hgrow1⟩
                case measure => first | (simp [slen]; done) | (simp [slen]; omega)
              · have ja : (1 : Int) ≤ na := by omega
                have ja2 : ¬ na = 1 := by omega
                have jb : (1 : Int) ≤ nb := by omega
                have jb2 : ¬ nb = 1 := by omega
                go_wp2
                go_quiet (fail)
                go_wp2
                go_quiet (fail)
                go_wp2
                go_region_law (refine step_append_fits rfl (.tmp 28) (.tmp 32) 22 rfl w.heap.size 9 i0 1 Try.underlying22 hi hz1 w.heap.size k (la + lb) _ rfl (hown.drew.alloc _) ⟨wr.heap.size, 0, none⟩ 1 1 [.string x] rfl rfl (cell_one_new _ _ _) (by intro u hu; simp at hu; subst hu; rfl) (by omega) ?_; intro w1 hown1 hgrow1)
                have hxk := HK.out
                have hx2 := HX.out
                rw [mg_eq A2 B2 L1.out L2.out] at hx2
                clear HX HK
                simp only [Act.put, List.getElem_toArray, List.getElem_cons_zero, List.getElem_cons_succ, List.setIfInBounds_toArray, List.set_cons_zero, List.set_cons_succ]
                go_wp2
                go_roundw
                case rel => exact ⟨(oa + 1), (na - 1), (ob + 1), (nb - 1), k + 1, A2, B2, xs ++ [x], (by have := HA.out; omega), (by have := HB.out; omega), (by simp [hxk]), rfl, rfl, rfl, own_next hown1, (cells_next HA.out HCa.out), (cells_next HB.out HCb.out), (by rw [← hx2]; simp), (by omega), below_next hnx hsz (below_drewN (Below.refl _ _) _) hgrow1⟩
                case measure => first | (simp [slen]; done) | (simp [slen]; omega)
      · have g1 : (0 : Int) < na := by omega
        have g2 : decide ((0 : Int) < (nb : Int)) = false := decide_eq_false (by omega)
        have hm : mg A' B' = A' ++ B' := mg_end (by omega)
        have HX : Hid (xs ++ mg A' B' = mg A B) := hx
        have HM : Hid (mg A' B' = A' ++ B') := hm
        have HA : Hid (A'.length = na) := hA'
        have HB : Hid (B'.length = nb) := hB'
        have HK : Hid (xs.length = k) := hxs
        have HCa := hidden (news_at (w := w) (wr := wr) hnx hba hA' ca)
        have HCb : Hid (∀ t, t < nb → w.cell? ⟨bb, ob + t, none⟩ = some (.string (el B' t))) := cb
        have hsz := hnx.size
        have la1 : (A'.map Value.string).length = na * 1 := by simp [hA']
        have lb1 : (B'.map Value.string).length = nb * 1 := by simp [hB']
        have LA := hidden la1
        have LB := hidden lb1
        clear la1 lb1 hm hA' hB' hx hxs ca cb hown0 hgrow0 q1 q2 hca hcb hA hB
        go_wp2_with (first | (at_builtin; refine wpList_append_fits_any _ rfl (.tmp 70) (.tmp 71) 22 rfl w.heap.size 9 i0 1 Try.underlying22 hi hz1 w.heap.size k (la + lb) _ rfl hown (some ⟨ba, oa, none⟩) na na (A'.map Value.string) rfl LA.out (by intro h; cases h) HCa.out (strs_oneCell _) (by omega) ?_; intro w1 hown1 hgrow1; have hb1 := below_grow hnx hsz hgrow1; have HCb1 := hidden (news_at hb1 hbb HB.out HCb.out)) | (at_builtin; refine wpList_append_fits_any _ rfl (.tmp 73) (.tmp 74) 22 rfl w.heap.size 9 i0 1 Try.underlying22 hi hz1 w.heap.size (k + na) (la + lb) _ rfl hown1 (some ⟨bb, ob, none⟩) nb nb (B'.map Value.string) rfl LB.out (by intro h; cases h) HCb1.out (strs_oneCell _) (by omega) ?_; intro w2 hown2 hgrow2))
        go_ret
        obtain ⟨e1, e2⟩ := union_end HX.out HM.out HA.out HB.out HK.out
        refine ⟨?_, ?_, below_grow hb1 hb1.size hgrow2⟩
        · rw [e1]; rfl
        · rw [e1, e2]; exact hown2
    · have g2 : decide ((0 : Int) < (na : Int)) = false := decide_eq_false (by omega)
      have hm : mg A' B' = A' ++ B' := mg_end (by omega)
      have HX : Hid (xs ++ mg A' B' = mg A B) := hx
      have HM : Hid (mg A' B' = A' ++ B') := hm
      have HA : Hid (A'.length = na) := hA'
      have HB : Hid (B'.length = nb) := hB'
      have HK : Hid (xs.length = k) := hxs
      have HCa := hidden (news_at (w := w) (wr := wr) hnx hba hA' ca)
      have HCb : Hid (∀ t, t < nb → w.cell? ⟨bb, ob + t, none⟩ = some (.string (el B' t))) := cb
      have hsz := hnx.size
      have la1 : (A'.map Value.string).length = na * 1 := by simp [hA']
      have lb1 : (B'.map Value.string).length = nb * 1 := by simp [hB']
      have LA := hidden la1
      have LB := hidden lb1
      clear la1 lb1 hm hA' hB' hx hxs ca cb hown0 hgrow0 q1 q2 hca hcb hA hB
      go_wp2_with (first | (at_builtin; refine wpList_append_fits_any _ rfl (.tmp 70) (.tmp 71) 22 rfl w.heap.size 9 i0 1 Try.underlying22 hi hz1 w.heap.size k (la + lb) _ rfl hown (some ⟨ba, oa, none⟩) na na (A'.map Value.string) rfl LA.out (by intro h; cases h) HCa.out (strs_oneCell _) (by omega) ?_; intro w1 hown1 hgrow1; have hb1 := below_grow hnx hsz hgrow1; have HCb1 := hidden (news_at hb1 hbb HB.out HCb.out)) | (at_builtin; refine wpList_append_fits_any _ rfl (.tmp 73) (.tmp 74) 22 rfl w.heap.size 9 i0 1 Try.underlying22 hi hz1 w.heap.size (k + na) (la + lb) _ rfl hown1 (some ⟨bb, ob, none⟩) nb nb (B'.map Value.string) rfl LB.out (by intro h; cases h) HCb1.out (strs_oneCell _) (by omega) ?_; intro w2 hown2 hgrow2))
      go_ret
      obtain ⟨e1, e2⟩ := union_end HX.out HM.out HA.out HB.out HK.out
      refine ⟨?_, ?_, below_grow hb1 hb1.size hgrow2⟩
      · rw [e1]; rfl
      · rw [e1, e2]; exact hown2
end Go.Proofs.Qxb6627673a
