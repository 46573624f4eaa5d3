/-
  The plain side of listsIn: the order of strings, ascending lists, how many of one list's strings another has. No Go here.
-/
import Derived.Lib.Bytealg
import Derived.Laws.Strings
namespace Go.Proofs.Qxb6600940a.Order

theorem less_irrefl : ∀ x : List UInt8, Op.bytesLess x x = false
  | [] => rfl
  | a :: x => by simp [Op.bytesLess, less_irrefl x, UInt8.lt_irrefl]

theorem cmp_lt : ∀ x y : List UInt8, Lib.compareBytes x y < 0 ↔ Op.bytesLess x y = true
  | [], [] => by simp [Lib.compareBytes, Op.bytesLess]
  | [], _ :: _ => by simp [Lib.compareBytes, Op.bytesLess]
  | _ :: _, [] => by simp [Lib.compareBytes, Op.bytesLess]
  | a :: x, b :: y => by
    have ih := cmp_lt x y
    simp only [Lib.compareBytes, Op.bytesLess]
    by_cases h1 : a < b
    · simp [h1]
    · by_cases h2 : b < a
      · have hne : ¬ a = b := fun h => by rw [h] at h2; exact UInt8.lt_irrefl _ h2
        simp [h1, h2, hne]
      · have he : a = b := UInt8.le_antisymm (UInt8.not_lt.1 h2) (UInt8.not_lt.1 h1)
        simp [he, UInt8.lt_irrefl, ih]

theorem cmp_gt : ∀ x y : List UInt8, 0 < Lib.compareBytes x y ↔ Op.bytesLess y x = true
  | [], [] => by simp [Lib.compareBytes, Op.bytesLess]
  | [], _ :: _ => by simp [Lib.compareBytes, Op.bytesLess]
  | _ :: _, [] => by simp [Lib.compareBytes, Op.bytesLess]
  | a :: x, b :: y => by
    have ih := cmp_gt x y
    simp only [Lib.compareBytes, Op.bytesLess]
    by_cases h1 : a < b
    · have h2 : ¬ b < a := fun h => UInt8.lt_irrefl _ (UInt8.lt_trans h h1)
      have hne : ¬ b = a := fun h => by rw [h] at h1; exact UInt8.lt_irrefl _ h1
      simp [h1, h2, hne]
    · by_cases h2 : b < a
      · simp [h1, h2]
      · have he : a = b := UInt8.le_antisymm (UInt8.not_lt.1 h2) (UInt8.not_lt.1 h1)
        simp [he, UInt8.lt_irrefl, ih]

theorem cmp_eq : ∀ x y : List UInt8, Lib.compareBytes x y = 0 → x = y
  | [], [] => fun _ => rfl
  | [], _ :: _ => by simp [Lib.compareBytes]
  | _ :: _, [] => by simp [Lib.compareBytes]
  | a :: x, b :: y => by
    have ih := cmp_eq x y
    simp only [Lib.compareBytes]
    by_cases h1 : a < b
    · simp [h1]
    · by_cases h2 : b < a
      · simp [h1, h2]
      · have he : a = b := UInt8.le_antisymm (UInt8.not_lt.1 h2) (UInt8.not_lt.1 h1)
        simp only [h1, h2, if_false]
        intro h
        rw [he, ih h]

theorem less_trans : ∀ x y z : List UInt8, Op.bytesLess x y = true → Op.bytesLess y z = true → Op.bytesLess x z = true
  | [], _, [] => fun _ h => by cases ‹List UInt8› <;> simp [Op.bytesLess] at h
  | [], _, _ :: _ => fun _ _ => rfl
  | _ :: _, [], _ => fun h => by simp [Op.bytesLess] at h
  | _ :: _, _ :: _, [] => fun _ h => by simp [Op.bytesLess] at h
  | a :: x, b :: y, c :: z => by
    have ih := less_trans x y z
    simp only [Op.bytesLess, Bool.or_eq_true, decide_eq_true_eq, Bool.and_eq_true, beq_iff_eq]
    rintro (h1 | ⟨rfl, h1⟩) (h2 | ⟨rfl, h2⟩)
    · exact .inl (UInt8.lt_trans h1 h2)
    · exact .inl h1
    · exact .inl h2
    · exact .inr ⟨rfl, ih h1 h2⟩

/-- Strictly ascending. -/
def Asc (l : List (List UInt8)) : Prop := l.Pairwise fun a b => Op.bytesLess a b = true

theorem asc_of_adj : ∀ l : List (List UInt8), (∀ i, i + 1 < l.length → Op.bytesLess (l.getD i []) (l.getD (i + 1) []) = true) → Asc l
  | [], _ => List.Pairwise.nil
  | [a], _ => List.Pairwise.cons (fun _ h => by cases h) List.Pairwise.nil
  | a :: b :: l, h => by
    have ih : Asc (b :: l) := asc_of_adj (b :: l) (fun i hi => by
      have := h (i + 1) (by simpa using hi)
      simpa using this)
    have hab : Op.bytesLess a b = true := by simpa using h 0 (by simp)
    refine List.Pairwise.cons (fun x hx => ?_) ih
    rcases List.mem_cons.1 hx with rfl | hx
    · exact hab
    · exact less_trans _ _ _ hab ((List.pairwise_cons.1 ih).1 x hx)

/-- How many of A's strings B has. -/
def cnt (A B : List (List UInt8)) : Nat := A.countP fun a => B.contains a

theorem cnt_nil_left (B : List (List UInt8)) : cnt [] B = 0 := rfl
theorem cnt_nil_right (A : List (List UInt8)) : cnt A [] = 0 := by
  unfold cnt
  rw [List.countP_eq_zero]
  intro a _
  simp

theorem not_mem_of_less {a b : List UInt8} {B : List (List UInt8)} (h : Op.bytesLess a b = true) (hB : Asc (b :: B)) : a ∉ b :: B := by
  intro hm
  rcases List.mem_cons.1 hm with rfl | hm
  · rw [less_irrefl] at h; cases h
  · have h2 := (List.pairwise_cons.1 hB).1 a hm
    have h3 := less_trans _ _ _ h h2
    rw [less_irrefl] at h3; cases h3

theorem cnt_lt {a b : List UInt8} {A B : List (List UInt8)} (h : Op.bytesLess a b = true) (hB : Asc (b :: B)) : cnt (a :: A) (b :: B) = cnt A (b :: B) := by
  have hn := not_mem_of_less h hB
  unfold cnt
  rw [List.countP_cons_of_neg (by simpa using hn)]

theorem cnt_congr (A B B' : List (List UInt8)) (h : ∀ a, a ∈ A → (a ∈ B ↔ a ∈ B')) : cnt A B = cnt A B' := by
  unfold cnt
  apply List.countP_congr
  intro a ha
  have := h a ha
  simp only [List.contains_iff_mem]
  exact this

theorem cnt_gt {a b : List UInt8} {A B : List (List UInt8)} (h : Op.bytesLess b a = true) (hA : Asc (a :: A)) : cnt (a :: A) (b :: B) = cnt (a :: A) B := by
  have hn := not_mem_of_less h hA
  apply cnt_congr
  intro x hx
  have hne : x ≠ b := fun e => hn (e ▸ hx)
  simp [hne]

theorem cnt_eq {a : List UInt8} {A B : List (List UInt8)} (hA : Asc (a :: A)) : cnt (a :: A) (a :: B) = cnt A B + 1 := by
  have h1 : cnt (a :: A) (a :: B) = cnt A (a :: B) + 1 := by
    unfold cnt
    rw [List.countP_cons_of_pos (by simp)]
  rw [h1, cnt_congr A (a :: B) B]
  intro x hx
  have hl := (List.pairwise_cons.1 hA).1 x hx
  have hne : x ≠ a := fun e => by rw [e, less_irrefl] at hl; cases hl
  simp [hne]

theorem asc_drop (l : List (List UInt8)) (k : Nat) (h : Asc l) : Asc (l.drop k) := List.Pairwise.sublist (List.drop_sublist k l) h

theorem cnt_le (A B : List (List UInt8)) : cnt A B ≤ A.length := List.countP_le_length

theorem cnt_take (A B : List (List UInt8)) (k : Nat) (h : k < A.length) : cnt (A.take (k + 1)) B = cnt (A.take k) B + (if B.contains (A.getD k []) = true then 1 else 0) := by
  have hg : A.getD k [] = A[k] := by simp [List.getD, h]
  rw [List.take_succ_eq_append_getElem h, hg]
  unfold cnt
  rw [List.countP_append]
  simp [List.countP_cons]
end Go.Proofs.Qxb6600940a.Order
