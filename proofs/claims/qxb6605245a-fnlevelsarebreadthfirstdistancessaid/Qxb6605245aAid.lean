/-
  Small laws on rows of cells, over any program: what a slice holds ('Cells'), a row that is filled round by round ('fill'), and how both stand behind later writes.
-/
import Derived.WalkKit
import Derived.WalkLawsBesides
import Derived.Lib.SliceRun
import Derived.SliceStrings
namespace Go.Proofs.Qxb6605245a
open Go.RowKit

/-- The slice at 'a' holds 'ys' in its first cells (of an empty one nothing is asked). -/
def Cells (w : World) (a : Option Addr) (ys : List Value) : Prop :=
  ys = [] ∨ ∃ b off, a = some ⟨b, off, none⟩ ∧ b < w.heap.size ∧ ∀ j u, ys[j]? = some u → w.cell? ⟨b, off + j, none⟩ = some u

theorem Cells.int {w : World} {a : Option Addr} {k : IntKind} {zs : List Int} (h : Cells w a (zs.map (Value.int k))) {j : Nat} (hj : j < zs.length) :
    ∃ b off, a = some ⟨b, off, none⟩ ∧ b < w.heap.size ∧ ∀ i, i < zs.length → w.cell? ⟨b, off + i, none⟩ = some (.int k (zs.getD i 0)) := by
  rcases h with h | ⟨b, off, ha, hb, hc⟩
  · have : zs = [] := by simpa using h
    subst this; simp at hj
  · refine ⟨b, off, ha, hb, fun i hi => hc i _ ?_⟩
    simp [List.getD, hi]

theorem Cells.str {w : World} {a : Option Addr} {ss : List ByteArray} (h : Cells w a (ss.map Value.string)) {j : Nat} (hj : j < ss.length) :
    ∃ b off, a = some ⟨b, off, none⟩ ∧ b < w.heap.size ∧ ∀ i, i < ss.length → w.cell? ⟨b, off + i, none⟩ = some (.string (ss.getD i ByteArray.empty)) := by
  rcases h with h | ⟨b, off, ha, hb, hc⟩
  · have : ss = [] := by simpa using h
    subst this; simp at hj
  · refine ⟨b, off, ha, hb, fun i hi => hc i _ ?_⟩
    simp [List.getD, hi]

theorem Cells.below {w w' : World} {a : Option Addr} {ys : List Value} (h : Cells w a ys) (hb : Below w.heap.size w w') : Cells w' a ys := by
  rcases h with h | ⟨b, off, ha, hlt, hc⟩
  · exact .inl h
  · exact .inr ⟨b, off, ha, Nat.lt_of_lt_of_le hlt hb.size, fun j u hu => (hb.cell (p := ⟨b, off + j, none⟩) hlt).trans (hc j u hu)⟩

theorem Cells.drew {w : World} {a : Option Addr} {ys : List Value} (h : Cells w a ys) : Cells w.drew a ys := h

/-- An owned row behind whatever turned only what lies from its world's size on. -/
theorem owns_below {w w' : World} {base : Nat} {e : TypeId} {size : Nat} {v : Value} {n : Nat} {xs : List Value} (h : w.ownsRow base e size v n xs) (hb : Below w.heap.size w w') : w'.ownsRow base e size v n xs := by
  refine ⟨h.1, ?_⟩
  rcases h.2 with hn | ⟨g, cap, cur, rfl, hbg, hgg, rest⟩
  · exact .inl hn
  · exact .inr ⟨g, cap, cur, rfl, hbg, (hb.block g (Array.getElem?_eq_some_iff.1 hgg).1).trans hgg, rest⟩

theorem owns_base {w : World} {base base' : Nat} {e : TypeId} {size : Nat} {v : Value} {n : Nat} {xs : List Value} (h : w.ownsRow base e size v n xs) (hb : base' ≤ base) : w.ownsRow base' e size v n xs := by
  refine ⟨h.1, ?_⟩
  rcases h.2 with hn | ⟨g, cap, cur, rfl, hbg, rest⟩
  · exact .inl hn
  · exact .inr ⟨g, cap, cur, rfl, Nat.le_trans hb hbg, rest⟩

/-- What an owned row holds. -/
theorem owns_cells {w : World} {base : Nat} {e : TypeId} {a : Option Addr} {n m c : Nat} {xs : List Value} (h : w.ownsRow base e 1 (.slice a m c) n xs) : Cells w a xs := by
  rcases h.2 with ⟨hv, hn⟩ | ⟨g, cap, cur, hv, hbg, hgg, h1, h2, h3, h4⟩
  · left; have := h.1; rw [hn] at this; simpa using this
  · simp only [Value.slice.injEq] at hv
    obtain ⟨rfl, rfl, rfl⟩ := hv
    refine .inr ⟨g, 0, rfl, (Array.getElem?_eq_some_iff.1 hgg).1, fun j u hu => ?_⟩
    rw [Nat.zero_add, cell_of_row w g j cur e (0, 0) hgg]
    rw [← h4, List.getElem?_take] at hu
    split at hu
    · simpa using hu
    · cases hu

/-- The first cells of a row that was made with zeros and is being filled. -/
def fill (ys : List Value) (z : Value) (len k : Nat) : List Value := ys.take k ++ List.replicate (len - k) z

theorem fill_zero (ys : List Value) (z : Value) (len : Nat) : fill ys z len 0 = (madeCells #[z] len).toList := by
  unfold fill madeCells
  simp only [List.take_zero, List.nil_append, Nat.sub_zero]
  apply List.ext_getElem
  · simp
  · intro i h1 h2
    simp [Nat.mod_one]

theorem fill_at (ys : List Value) (z : Value) (len k : Nat) (hk : k < len) (hy : ys.length = len) : (fill ys z len k)[k]? = some z := by
  unfold fill
  rw [List.getElem?_append_right (by simp; omega), List.getElem?_replicate]
  rw [if_pos (by simp; omega)]

theorem fill_step (ys : List Value) (z u : Value) (len k : Nat) (hk : k < len) (hy : ys.length = len) (hu : ys[k]? = some u) : (fill ys z len k).set k u = fill ys z len (k + 1) := by
  unfold fill
  have h1 : (ys.take k).length = k := by simp; omega
  rw [List.set_append_right _ _ (by omega)]
  rw [h1, Nat.sub_self]
  have h2 : List.replicate (len - k) z = z :: List.replicate (len - (k + 1)) z := by
    rw [← List.replicate_succ]; congr 1; omega
  rw [h2, List.set_cons_zero, List.take_add_one, hu]
  simp

theorem fill_full (ys : List Value) (z : Value) (len : Nat) (hy : ys.length = len) : fill ys z len len = ys := by
  unfold fill
  simp [← hy]

theorem getD_int (k : IntKind) (zs : List Int) (i : Nat) (h : i < zs.length) : (zs.map (Value.int k))[i]? = some (.int k (zs.getD i 0)) := by
  simp [List.getD, h]

theorem getD_str (ss : List ByteArray) (i : Nat) (h : i < ss.length) : (ss.map Value.string)[i]? = some (.string (ss.getD i ByteArray.empty)) := by
  simp [List.getD, h]

theorem ret_true {b : Bool} (h : b = true) : Ending.returned (.bool b) = .returned (.bool true) := by rw [h]

end Go.Proofs.Qxb6605245a
