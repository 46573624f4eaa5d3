/-
  The plain side of encodeArray: the text of a list of strings. No Go here.
-/
namespace Go.Proofs.Qxb6601057a.Enc

/-- One byte, escaped where it is a quote or a backslash. -/
def escB (b : UInt8) : List UInt8 := if b = 34 ∨ b = 92 then [92, b] else [b]
def escL (l : List UInt8) : List UInt8 := l.flatMap escB
def elem (l : List UInt8) : List UInt8 := 34 :: (escL l ++ [34])
def join : List (List UInt8) → List UInt8
  | [] => []
  | [e] => elem e
  | e :: f :: es => elem e ++ 44 :: join (f :: es)
def enc (es : List (List UInt8)) : List UInt8 := 123 :: (join es ++ [125])

theorem escL_snoc (l : List UInt8) (b : UInt8) : escL (l ++ [b]) = escL l ++ escB b := by simp [escL]
theorem escL_cons (b : UInt8) (l : List UInt8) : escL (b :: l) = escB b ++ escL l := by simp [escL]

theorem join_cons (e : List UInt8) (es : List (List UInt8)) : join (e :: es) = elem e ++ (if es = [] then [] else 44 :: join es) := by
  cases es with
  | nil => simp [join]
  | cons f es => simp [join]

theorem join_snoc (es : List (List UInt8)) (e : List UInt8) : join (es ++ [e]) = (if es = [] then [] else join es ++ [44]) ++ elem e := by
  induction es with
  | nil => simp [join]
  | cons f es ih =>
    rw [List.cons_append, join_cons f (es ++ [e]), ih, join_cons f es]
    by_cases h : es = []
    · simp [h]
    · simp [h]

theorem join_append (a b : List (List UInt8)) (ha : a ≠ []) (hb : b ≠ []) : join (a ++ b) = join a ++ 44 :: join b := by
  induction a with
  | nil => exact absurd rfl ha
  | cons e a ih =>
    rw [List.cons_append, join_cons, join_cons]
    by_cases h : a = []
    · simp [h, hb]
    · have h2 : a ++ b ≠ [] := by simp [h]
      simp [h, h2, ih h]

theorem escB_len (b : UInt8) : (escB b).length ≤ 2 := by unfold escB; split <;> simp
theorem escL_len (l : List UInt8) : (escL l).length ≤ 2 * l.length := by
  induction l with
  | nil => simp [escL]
  | cons b l ih =>
    rw [escL_cons, List.length_append, List.length_cons]
    have := escB_len b
    omega
theorem elem_len (l : List UInt8) : (elem l).length ≤ 2 * l.length + 2 := by
  have := escL_len l
  simp [elem]
  omega
def sz (es : List (List UInt8)) : Nat := (es.map fun e => 2 * e.length + 3).sum
theorem sz_cons (e : List UInt8) (es : List (List UInt8)) : sz (e :: es) = 2 * e.length + 3 + sz es := by simp [sz]
theorem join_len (es : List (List UInt8)) : (join es).length ≤ sz es := by
  induction es with
  | nil => simp [join]
  | cons e es ih =>
    rw [join_cons, List.length_append, sz_cons]
    have := elem_len e
    by_cases h : es = []
    · simp [h]; omega
    · simp [h]; omega
theorem sz_take (es : List (List UInt8)) (k : Nat) : sz (es.take k) ≤ sz es := by
  induction es generalizing k with
  | nil => simp
  | cons e es ih =>
    cases k with
    | zero => simp [sz]
    | succ k =>
      rw [List.take_succ_cons, sz_cons, sz_cons]
      have := ih k
      omega
end Go.Proofs.Qxb6601057a.Enc
