/-
  The plain side of appendProduct: digits of a number in a mixed radix, the next point, the text that a point picks. No Go here.
-/
import Derived.Lib.AppendStr
namespace Go.Proofs.Qxb6600590a.Radix

/-- The digits of t in the radices L (the last the lowest), and what is left over. -/
def rad : List Nat → Nat → List Nat × Nat
  | [], t => ([], t)
  | l :: L, t => (((rad L t).2 % l) :: (rad L t).1, (rad L t).2 / l)

def digs (L : List Nat) (t : Nat) : List Nat := (rad L t).1

theorem digs_length (L : List Nat) (t : Nat) : (digs L t).length = L.length := by
  unfold digs
  induction L with
  | nil => rfl
  | cons l L ih => simp [rad, ih]

/-- The next point, and whether it carried over the first axis. -/
def nxt : List Nat → List Nat → List Nat × Bool
  | l :: L, d :: ds => if (nxt L ds).2 = true then (if d + 1 < l then ((d + 1) :: (nxt L ds).1, false) else (0 :: (nxt L ds).1, true)) else (d :: (nxt L ds).1, false)
  | _, _ => ([], true)

theorem nxt_rad (L : List Nat) (t : Nat) (hL : ∀ l, l ∈ L → 0 < l) : (nxt L (rad L t).1).1 = (rad L (t + 1)).1 ∧ (rad L (t + 1)).2 = (rad L t).2 + (if (nxt L (rad L t).1).2 = true then 1 else 0) := by
  induction L with
  | nil => simp [rad, nxt]
  | cons l L ih =>
    obtain ⟨h1, h2⟩ := ih (fun x hx => hL x (List.mem_cons_of_mem _ hx))
    have hl : 0 < l := hL l List.mem_cons_self
    simp only [rad, nxt]
    generalize (rad L t).2 = r at *
    generalize (nxt L (rad L t).1).2 = c at *
    cases c with
    | false =>
      simp only [Bool.false_eq_true, if_false, Nat.add_zero] at h2 ⊢
      rw [h2, h1]
      simp
    | true =>
      simp only [if_true] at h2 ⊢
      rw [h2]
      by_cases hlt : r % l + 1 < l
      · rw [if_pos hlt]
        have e1 : (r + 1) % l = r % l + 1 := by
          rw [Nat.add_mod]
          have : 1 % l = 1 := Nat.mod_eq_of_lt (by omega)
          rw [this]
          exact Nat.mod_eq_of_lt hlt
        have e2 : (r + 1) / l = r / l := by
          have a1 := Nat.div_add_mod r l
          have a2 := Nat.div_add_mod (r + 1) l
          rw [e1] at a2
          have : l * ((r + 1) / l) = l * (r / l) := by omega
          exact Nat.eq_of_mul_eq_mul_left hl this
        simp [e1, e2, h1]
      · rw [if_neg hlt]
        have hm : r % l < l := Nat.mod_lt _ hl
        have hr : r % l = l - 1 := by omega
        have a1 := Nat.div_add_mod r l
        have e0 : r + 1 = l * (r / l + 1) := by rw [Nat.mul_add]; omega
        have e1 : (r + 1) % l = 0 := by rw [e0]; exact Nat.mul_mod_right _ _
        have e2 : (r + 1) / l = r / l + 1 := by rw [e0]; exact Nat.mul_div_cancel_left _ hl
        simp [e1, e2, h1]

theorem nxt_digs (L : List Nat) (t : Nat) (hL : ∀ l, l ∈ L → 0 < l) : (nxt L (digs L t)).1 = digs L (t + 1) := (nxt_rad L t hL).1

theorem rad_zero (L : List Nat) : rad L 0 = (List.replicate L.length 0, 0) := by
  induction L with
  | nil => rfl
  | cons l L ih => simp [rad, ih, List.replicate_succ]

theorem digs_zero (L : List Nat) : digs L 0 = List.replicate L.length 0 := by unfold digs; rw [rad_zero]

/-- Each digit is below its radix. -/
theorem digs_lt (L : List Nat) (t : Nat) (hL : ∀ l, l ∈ L → 0 < l) (k : Nat) (hk : k < L.length) : (digs L t).getD k 0 < L.getD k 0 := by
  unfold digs
  induction L generalizing k with
  | nil => simp at hk
  | cons l L ih =>
    cases k with
    | zero =>
      simp only [rad, List.getD_cons_zero]
      exact Nat.mod_lt _ (hL l List.mem_cons_self)
    | succ k =>
      simp only [rad, List.getD_cons_succ]
      exact ih (fun x hx => hL x (List.mem_cons_of_mem _ hx)) k (by simpa using hk)

/-- One more axis from the right. -/
theorem rad_drop (L : List Nat) (t k : Nat) (hk : k < L.length) : rad (L.drop k) t = (((rad (L.drop (k + 1)) t).2 % L.getD k 0) :: (rad (L.drop (k + 1)) t).1, (rad (L.drop (k + 1)) t).2 / L.getD k 0) := by
  rw [List.drop_eq_getElem_cons hk]
  simp [rad, List.getD, hk]

/-- One more axis from the right: the next point. -/
theorem nxt_drop (L ds : List Nat) (k : Nat) (hk : k < L.length) (hd : ds.length = L.length) :
    nxt (L.drop k) (ds.drop k) = if (nxt (L.drop (k + 1)) (ds.drop (k + 1))).2 = true then (if ds.getD k 0 + 1 < L.getD k 0 then ((ds.getD k 0 + 1) :: (nxt (L.drop (k + 1)) (ds.drop (k + 1))).1, false) else (0 :: (nxt (L.drop (k + 1)) (ds.drop (k + 1))).1, true)) else (ds.getD k 0 :: (nxt (L.drop (k + 1)) (ds.drop (k + 1))).1, false) := by
  have hk2 : k < ds.length := by omega
  rw [List.drop_eq_getElem_cons hk, List.drop_eq_getElem_cons hk2]
  simp [nxt, List.getD, hk, hk2]

/-- Where the carry has stopped, the rest stands. -/
theorem nxt_stop (L ds : List Nat) (hd : ds.length = L.length) (s : List Nat) : ∀ k, k ≤ L.length → nxt (L.drop k) (ds.drop k) = (s, false) → (nxt L ds).1 = ds.take k ++ s := by
  intro k
  induction k generalizing s with
  | zero => intro _ h; simp only [List.drop_zero] at h; simp [h]
  | succ k ih =>
    intro hk h
    have hk2 : k < ds.length := by omega
    have h1 := nxt_drop L ds k (by omega) hd
    rw [h] at h1
    simp only [Bool.false_eq_true, if_false] at h1
    have hg : ds.getD k 0 = ds[k] := by simp [List.getD, hk2]
    rw [ih _ (by omega) h1, List.take_succ_eq_append_getElem hk2, hg, List.append_assoc, List.singleton_append]

theorem nxt_length (L ds : List Nat) (hd : ds.length = L.length) : (nxt L ds).1.length = L.length := by
  induction L generalizing ds with
  | nil => simp [nxt]
  | cons l L ih =>
    cases ds with
    | nil => simp at hd
    | cons d ds =>
      have := ih ds (by simpa using hd)
      simp only [nxt]
      split
      · split <;> simp [this]
      · simp [this]

/-- The text that a point picks. -/
def cat : List (List ByteArray) → List Nat → List UInt8
  | s :: S, d :: ds => (s.getD d ByteArray.empty).data.toList ++ cat S ds
  | _, _ => []

theorem cat_take (S : List (List ByteArray)) (ds : List Nat) (k : Nat) (hk : k < S.length) (hd : ds.length = S.length) : cat (S.take (k + 1)) (ds.take (k + 1)) = cat (S.take k) (ds.take k) ++ ((S.getD k []).getD (ds.getD k 0) ByteArray.empty).data.toList := by
  induction S generalizing ds k with
  | nil => simp at hk
  | cons s S ih =>
    cases ds with
    | nil => simp at hd
    | cons d ds =>
      cases k with
      | zero => simp [cat]
      | succ k =>
        have := ih ds k (by simpa using hk) (by simpa using hd)
        simp only [List.take_succ_cons, cat, this, List.getD_cons_succ, List.append_assoc]

/-- The text as a string. -/
def text (S : List (List ByteArray)) (ds : List Nat) : ByteArray := ⟨(cat S ds).toArray⟩
def textTo (S : List (List ByteArray)) (ds : List Nat) (k : Nat) : ByteArray := text (S.take k) (ds.take k)
theorem textTo_full (S : List (List ByteArray)) (ds : List Nat) (hd : ds.length = S.length) : textTo S ds S.length = text S ds := by
  unfold textTo
  rw [List.take_length, ← hd, List.take_length]
theorem textTo_zero (S : List (List ByteArray)) (ds : List Nat) : textTo S ds 0 = ByteArray.empty := rfl

/-- Its cells. -/
theorem textTo_succ (S : List (List ByteArray)) (ds : List Nat) (k : Nat) (hk : k < S.length) (hd : ds.length = S.length) : Lib.strCells (textTo S ds (k + 1)) = Lib.strCells (textTo S ds k) ++ Lib.strCells ((S.getD k []).getD (ds.getD k 0) ByteArray.empty) := by
  unfold textTo text Lib.strCells
  simp [cat_take S ds k hk hd]
theorem textTo_size (S : List (List ByteArray)) (ds : List Nat) (k : Nat) (hk : k < S.length) (hd : ds.length = S.length) : (textTo S ds (k + 1)).size = (textTo S ds k).size + ((S.getD k []).getD (ds.getD k 0) ByteArray.empty).size := by
  have := congrArg List.length (textTo_succ S ds k hk hd)
  rw [List.length_append, Lib.strCells_length, Lib.strCells_length, Lib.strCells_length] at this
  exact this
end Go.Proofs.Qxb6600590a.Radix
