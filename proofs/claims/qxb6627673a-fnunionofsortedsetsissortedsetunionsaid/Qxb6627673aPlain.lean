/- The plain laws: lists of byte strings, their order, the merge of two lists. No Go text in sight. -/
import Derived.WalkKit
import Derived.Lib.Strings
namespace Go.Proofs.Qxb6627673a
open Go.RowKit

/-! ### The order -/
theorem bl_irrefl : ∀ x : List UInt8, Op.bytesLess x x = false
  | [] => by simp [Op.bytesLess]
  | a :: x => by simp [Op.bytesLess, bl_irrefl x]
theorem bl_trans : ∀ x y z : List UInt8, Op.bytesLess x y = true → Op.bytesLess y z = true → Op.bytesLess x z = true
  | _, [], _, h, _ => by simp [Op.bytesLess] at h
  | _, _ :: _, [], _, h => by simp [Op.bytesLess] at h
  | [], _ :: _, _ :: _, _, _ => by simp [Op.bytesLess]
  | a :: x, b :: y, c :: z, h1, h2 => by
    simp only [Op.bytesLess, Bool.or_eq_true, Bool.and_eq_true, decide_eq_true_eq, beq_iff_eq] at h1 h2 ⊢
    rcases h1 with h1 | ⟨rfl, h1⟩
    · rcases h2 with h2 | ⟨rfl, h2⟩
      · exact .inl (UInt8.lt_trans h1 h2)
      · exact .inl h1
    · rcases h2 with h2 | ⟨rfl, h2⟩
      · exact .inl h2
      · exact .inr ⟨rfl, bl_trans x y z h1 h2⟩
theorem bl_tri : ∀ x y : List UInt8, Op.bytesLess x y = false → Op.bytesLess y x = false → x = y
  | [], [], _, _ => rfl
  | [], _ :: _, h, _ => by simp [Op.bytesLess] at h
  | _ :: _, [], _, h => by simp [Op.bytesLess] at h
  | a :: x, b :: y, h1, h2 => by
    simp only [Op.bytesLess, Bool.or_eq_false_iff, Bool.and_eq_false_iff, decide_eq_false_iff_not, beq_eq_false_iff_ne, ne_eq] at h1 h2
    obtain ⟨p1, q1⟩ := h1
    obtain ⟨p2, q2⟩ := h2
    have e : a = b := UInt8.le_antisymm (UInt8.not_lt.1 p2) (UInt8.not_lt.1 p1)
    subst e
    have q1' := q1.resolve_left (fun h => h rfl)
    have q2' := q2.resolve_left (fun h => h rfl)
    rw [bl_tri x y q1' q2']

/-- The bytes of two strings are one list only where the strings are one. -/
theorem str_ext {x y : ByteArray} (h : x.toList = y.toList) : x = y := by
  rw [Lib.toList_data, Lib.toList_data] at h
  exact ByteArray.ext (Array.toList_inj.1 h)

/-- The order on strings. -/
def lt (x y : ByteArray) : Bool := Op.bytesLess x.toList y.toList
theorem lt_irrefl (x : ByteArray) : lt x x = false := bl_irrefl _
theorem lt_trans {x y z : ByteArray} (h : lt x y = true) (h' : lt y z = true) : lt x z = true := bl_trans _ _ _ h h'
theorem lt_tri {x y : ByteArray} (h : lt x y = false) (h' : lt y x = false) : x = y := str_ext (bl_tri _ _ h h')

/-! ### An element of a list -/
def el (ss : List ByteArray) (i : Nat) : ByteArray := ss.getD i ByteArray.empty
theorem el_cons_zero (x : ByteArray) (l : List ByteArray) : el (x :: l) 0 = x := rfl
theorem el_cons_succ (x : ByteArray) (l : List ByteArray) (i : Nat) : el (x :: l) (i + 1) = el l i := rfl
theorem el_drop (l : List ByteArray) (k i : Nat) : el (l.drop k) i = el l (k + i) := by simp [el, List.getD]
theorem drop_el (l : List ByteArray) (i : Nat) (h : i < l.length) : l.drop i = el l i :: l.drop (i + 1) := by
  rw [List.drop_eq_getElem_cons h]; simp [el, List.getD, List.getElem?_eq_getElem h]
theorem el_mem {l : List ByteArray} {i : Nat} (h : i < l.length) : el l i ∈ l := by
  simp [el, List.getD, List.getElem?_eq_getElem h]
theorem mem_el {l : List ByteArray} {x : ByteArray} (h : x ∈ l) : ∃ i, i < l.length ∧ el l i = x := by
  obtain ⟨i, hi, e⟩ := List.getElem_of_mem h
  exact ⟨i, hi, by simp [el, List.getD, List.getElem?_eq_getElem hi, e]⟩

/-! ### The merge -/
def mrg : Nat → List ByteArray → List ByteArray → List ByteArray
  | 0, A, B => A ++ B
  | _ + 1, [], B => B
  | _ + 1, x :: A, [] => x :: A
  | n + 1, x :: A, y :: B => if lt x y = true then x :: mrg n A (y :: B) else if lt y x = true then y :: mrg n (x :: A) B else x :: mrg n A B

theorem mrg_fuel : ∀ (n : Nat) (A B : List ByteArray), A.length + B.length ≤ n → mrg (n + 1) A B = mrg n A B
  | 0, A, B, h => by
    obtain rfl : A = [] := List.eq_nil_of_length_eq_zero (by omega)
    obtain rfl : B = [] := List.eq_nil_of_length_eq_zero (by simpa using h)
    rfl
  | n + 1, [], B, _ => rfl
  | n + 1, x :: A, [], _ => rfl
  | n + 1, x :: A, y :: B, h => by
    simp only [List.length_cons] at h
    rw [mrg, mrg, mrg_fuel n A (y :: B) (by simp; omega), mrg_fuel n (x :: A) B (by simp; omega), mrg_fuel n A B (by omega)]

/-- What Union makes of two lists, neither of them nil. -/
def mg (A B : List ByteArray) : List ByteArray := mrg (A.length + B.length) A B

theorem mg_nil_l (B : List ByteArray) : mg [] B = B := by
  cases B <;> rfl
theorem mg_nil_r (A : List ByteArray) : mg A [] = A := by
  cases A <;> rfl
theorem mg_lt {x y : ByteArray} (A B : List ByteArray) (h : lt x y = true) : mg (x :: A) (y :: B) = x :: mg A (y :: B) := by
  have e : (x :: A).length + (y :: B).length = (A.length + (y :: B).length) + 1 := by simp; omega
  unfold mg
  rw [e, mrg, if_pos h]
theorem mg_gt {x y : ByteArray} (A B : List ByteArray) (h : lt x y = false) (h' : lt y x = true) : mg (x :: A) (y :: B) = y :: mg (x :: A) B := by
  have e : (x :: A).length + (y :: B).length = ((x :: A).length + B.length) + 1 := by simp; omega
  unfold mg
  rw [e, mrg, if_neg (by simp [h]), if_pos h']
theorem mg_eq {x y : ByteArray} (A B : List ByteArray) (h : lt x y = false) (h' : lt y x = false) : mg (x :: A) (y :: B) = x :: mg A B := by
  have e : (x :: A).length + (y :: B).length = (A.length + B.length + 1) + 1 := by simp; omega
  unfold mg
  rw [e, mrg, if_neg (by simp [h]), if_neg (by simp [h']), mrg_fuel _ A B (Nat.le_refl _)]

/-- The merge by cases, as a rule of induction. -/
theorem mg_ind (M : List ByteArray → List ByteArray → Prop) (hl : ∀ B, M [] B) (hr : ∀ A, M A [])
    (h1 : ∀ x y A B, lt x y = true → M A (y :: B) → M (x :: A) (y :: B))
    (h2 : ∀ x y A B, lt x y = false → lt y x = true → M (x :: A) B → M (x :: A) (y :: B))
    (h3 : ∀ x A B, M A B → M (x :: A) (x :: B)) : ∀ (n : Nat) (A B : List ByteArray), A.length + B.length ≤ n → M A B
  | _, [], B, _ => hl B
  | _, x :: A, [], _ => hr _
  | 0, x :: A, y :: B, h => by simp at h
  | n + 1, x :: A, y :: B, h => by
    simp only [List.length_cons] at h
    by_cases c1 : lt x y = true
    · exact h1 x y A B c1 (mg_ind M hl hr h1 h2 h3 n A (y :: B) (by simp; omega))
    · have c1' : lt x y = false := by simpa using c1
      by_cases c2 : lt y x = true
      · exact h2 x y A B c1' c2 (mg_ind M hl hr h1 h2 h3 n (x :: A) B (by simp; omega))
      · have c2' : lt y x = false := by simpa using c2
        obtain rfl := lt_tri c1' c2'
        exact h3 x A B (mg_ind M hl hr h1 h2 h3 n A B (by omega))

theorem mg_same {x : ByteArray} (A B : List ByteArray) : mg (x :: A) (x :: B) = x :: mg A B := mg_eq A B (lt_irrefl x) (lt_irrefl x)

theorem mg_len (A B : List ByteArray) : (mg A B).length ≤ A.length + B.length := by
  refine mg_ind (fun A B => (mg A B).length ≤ A.length + B.length) ?_ ?_ ?_ ?_ ?_ _ A B (Nat.le_refl _)
  · intro B; rw [mg_nil_l]; simp
  · intro A; rw [mg_nil_r]; simp
  · intro x y A B h ih; rw [mg_lt A B h]; simp at ih ⊢; omega
  · intro x y A B h h' ih; rw [mg_gt A B h h']; simp at ih ⊢; omega
  · intro x A B ih; rw [mg_same]; simp; omega

theorem mg_sub_l (A B : List ByteArray) : A.Sublist (mg A B) := by
  refine mg_ind (fun A B => A.Sublist (mg A B)) ?_ ?_ ?_ ?_ ?_ _ A B (Nat.le_refl _)
  · intro B; exact List.nil_sublist _
  · intro A; rw [mg_nil_r]; exact List.Sublist.refl _
  · intro x y A B h ih; rw [mg_lt A B h]; exact ih.cons_cons x
  · intro x y A B h h' ih; rw [mg_gt A B h h']; exact ih.cons y
  · intro x A B ih; rw [mg_same]; exact ih.cons_cons x
theorem mg_sub_r (A B : List ByteArray) : B.Sublist (mg A B) := by
  refine mg_ind (fun A B => B.Sublist (mg A B)) ?_ ?_ ?_ ?_ ?_ _ A B (Nat.le_refl _)
  · intro B; rw [mg_nil_l]; exact List.Sublist.refl _
  · intro A; exact List.nil_sublist _
  · intro x y A B h ih; rw [mg_lt A B h]; exact ih.cons x
  · intro x y A B h h' ih; rw [mg_gt A B h h']; exact ih.cons_cons y
  · intro x A B ih; rw [mg_same]; exact ih.cons_cons x
theorem mg_mem (A B : List ByteArray) : ∀ z ∈ mg A B, z ∈ A ∨ z ∈ B := by
  refine mg_ind (fun A B => ∀ z ∈ mg A B, z ∈ A ∨ z ∈ B) ?_ ?_ ?_ ?_ ?_ _ A B (Nat.le_refl _)
  · intro B z hz; rw [mg_nil_l] at hz; exact .inr hz
  · intro A z hz; rw [mg_nil_r] at hz; exact .inl hz
  · intro x y A B h ih z hz
    rw [mg_lt A B h] at hz
    rcases List.mem_cons.1 hz with rfl | hz
    · exact .inl (by simp)
    · rcases ih z hz with hz | hz
      · exact .inl (by simp [hz])
      · exact .inr hz
  · intro x y A B h h' ih z hz
    rw [mg_gt A B h h'] at hz
    rcases List.mem_cons.1 hz with rfl | hz
    · exact .inr (by simp)
    · rcases ih z hz with hz | hz
      · exact .inl hz
      · exact .inr (by simp [hz])
  · intro x A B ih z hz
    rw [mg_same] at hz
    rcases List.mem_cons.1 hz with rfl | hz
    · exact .inl (by simp)
    · rcases ih z hz with hz | hz
      · exact .inl (by simp [hz])
      · exact .inr (by simp [hz])

/-- Strictly increasing. -/
def inc (l : List ByteArray) : Prop := l.Pairwise fun x y => lt x y = true
theorem inc_mg (A B : List ByteArray) (ha : inc A) (hb : inc B) : inc (mg A B) := by
  revert ha hb
  refine mg_ind (fun A B => inc A → inc B → inc (mg A B)) ?_ ?_ ?_ ?_ ?_ _ A B (Nat.le_refl _)
  · intro B _ h; rw [mg_nil_l]; exact h
  · intro A h _; rw [mg_nil_r]; exact h
  · intro x y A B h ih ha hb
    rw [mg_lt A B h]
    obtain ⟨ha1, ha2⟩ := List.pairwise_cons.1 ha
    obtain ⟨hb1, hb2⟩ := List.pairwise_cons.1 hb
    refine List.pairwise_cons.2 ⟨fun z hz => ?_, ih ha2 hb⟩
    rcases mg_mem _ _ z hz with hz | hz
    · exact ha1 z hz
    · rcases List.mem_cons.1 hz with rfl | hz
      · exact h
      · exact lt_trans h (hb1 z hz)
  · intro x y A B h h' ih ha hb
    rw [mg_gt A B h h']
    obtain ⟨ha1, ha2⟩ := List.pairwise_cons.1 ha
    obtain ⟨hb1, hb2⟩ := List.pairwise_cons.1 hb
    refine List.pairwise_cons.2 ⟨fun z hz => ?_, ih ha hb2⟩
    rcases mg_mem _ _ z hz with hz | hz
    · rcases List.mem_cons.1 hz with rfl | hz
      · exact h'
      · exact lt_trans h' (ha1 z hz)
    · exact hb1 z hz
  · intro x A B ih ha hb
    rw [mg_same]
    obtain ⟨ha1, ha2⟩ := List.pairwise_cons.1 ha
    obtain ⟨hb1, hb2⟩ := List.pairwise_cons.1 hb
    refine List.pairwise_cons.2 ⟨fun z hz => ?_, ih ha2 hb2⟩
    rcases mg_mem _ _ z hz with hz | hz
    · exact ha1 z hz
    · exact hb1 z hz

theorem inc_el {l : List ByteArray} (h : inc l) {i j : Nat} (hij : i < j) (hj : j < l.length) : lt (el l i) (el l j) = true := by
  have := List.pairwise_iff_getElem.1 h i j (by omega) hj hij
  simpa [el, List.getD, List.getElem?_eq_getElem hj, List.getElem?_eq_getElem (show i < l.length by omega)] using this
/-- Next to next is enough. -/
theorem inc_of_next : ∀ (l : List ByteArray), (∀ i, i + 1 < l.length → lt (el l i) (el l (i + 1)) = true) → inc l
  | [], _ => List.Pairwise.nil
  | [x], _ => by simp [inc]
  | x :: y :: l, h => by
    have ih : inc (y :: l) := inc_of_next (y :: l) (fun i hi => h (i + 1) (by simp at hi ⊢; omega))
    have h0 : lt x y = true := h 0 (by simp)
    refine List.pairwise_cons.2 ⟨fun z hz => ?_, ih⟩
    rcases List.mem_cons.1 hz with rfl | hz
    · exact h0
    · exact lt_trans h0 ((List.pairwise_cons.1 ih).1 z hz)
end Go.Proofs.Qxb6627673a
