/-
  Slices of slices of numbers: what they hold ('Grid'), read and carried on; rows of several element types beside one another.
-/
import Derived.Test.Qxb6605245aOpen
import Derived.Deep.Slices
namespace Go.Proofs.Qxb6605245a
open Go.RowKit Go.ChangeShapes Go.WideShapes Go.Deep

/-- 'Cells', with a bound on the block's number. -/
def Lies (B : Nat) (w : World) (a : Option Addr) (ys : List Value) : Prop :=
  ys = [] ∨ ∃ b off, a = some ⟨b, off, none⟩ ∧ b < B ∧ b < w.heap.size ∧ ∀ j u, ys[j]? = some u → w.cell? ⟨b, off + j, none⟩ = some u

theorem Lies.cells {B : Nat} {w : World} {a : Option Addr} {ys : List Value} (h : Lies B w a ys) : Cells w a ys := by
  rcases h with h | ⟨b, off, ha, _, hb, hc⟩
  · exact .inl h
  · exact .inr ⟨b, off, ha, hb, hc⟩
theorem Cells.lies {w : World} {a : Option Addr} {ys : List Value} (h : Cells w a ys) : Lies w.heap.size w a ys := by
  rcases h with h | ⟨b, off, ha, hb, hc⟩
  · exact .inl h
  · exact .inr ⟨b, off, ha, hb, hb, hc⟩
theorem Lies.mono {B B' : Nat} {w : World} {a : Option Addr} {ys : List Value} (h : Lies B w a ys) (hB : B ≤ B') : Lies B' w a ys := by
  rcases h with h | ⟨b, off, ha, hb, rest⟩
  · exact .inl h
  · exact .inr ⟨b, off, ha, by omega, rest⟩
theorem Lies.below {B : Nat} {w w' : World} {a : Option Addr} {ys : List Value} (h : Lies B w a ys) (hb : Below B w w') : Lies B w' a ys := by
  rcases h with h | ⟨b, off, ha, hlt, hs, hc⟩
  · exact .inl h
  · exact .inr ⟨b, off, ha, hlt, Nat.lt_of_lt_of_le hs hb.size, fun j u hu => (hb.cell (p := ⟨b, off + j, none⟩) hlt).trans (hc j u hu)⟩

/-- One row: where its cells lie, its capacity, its numbers. -/
structure IRow where
  a : Option Addr
  cap : Nat
  ss : List Int

def IRow.val (r : IRow) : Value := .slice r.a r.ss.length r.cap
def IRow.zero : IRow := ⟨none, 0, []⟩

def Grid (B : Nat) (w : World) (a : Option Addr) (rows : List IRow) : Prop :=
  Lies B w a (rows.map IRow.val) ∧ ∀ r, r ∈ rows → Lies B w r.a (r.ss.map (Value.int .i64))

theorem Grid.mono {B B' : Nat} {w : World} {a : Option Addr} {rows : List IRow} (h : Grid B w a rows) (hB : B ≤ B') : Grid B' w a rows := ⟨h.1.mono hB, fun r hr => (h.2 r hr).mono hB⟩
theorem Grid.below {B : Nat} {w w' : World} {a : Option Addr} {rows : List IRow} (h : Grid B w a rows) (hb : Below B w w') : Grid B w' a rows := ⟨h.1.below hb, fun r hr => (h.2 r hr).below hb⟩
theorem Grid.drew {B : Nat} {w : World} {a : Option Addr} {rows : List IRow} (h : Grid B w a rows) : Grid B w.drew a rows := h

/-- A row's header and its numbers. -/
theorem Grid.row {B : Nat} {w : World} {a : Option Addr} {rows : List IRow} (h : Grid B w a rows) {k : Nat} (hk : k < rows.length) :
    ∃ b off, a = some ⟨b, off, none⟩ ∧ b < B ∧ b < w.heap.size ∧ (∀ i, i < rows.length → w.cell? ⟨b, off + i, none⟩ = some (rows.getD i IRow.zero).val) ∧ Lies B w (rows.getD k IRow.zero).a ((rows.getD k IRow.zero).ss.map (Value.int .i64)) := by
  have hm : rows.getD k IRow.zero ∈ rows := by simp [List.getD, hk]
  rcases h.1 with h1 | ⟨b, off, ha, hb, hs, hc⟩
  · have : rows = [] := by simpa using h1
    subst this; simp at hk
  · refine ⟨b, off, ha, hb, hs, fun i hi => hc i _ ?_, h.2 _ hm⟩
    simp [List.getD, hi]

theorem Lies.num {B : Nat} {w : World} {a : Option Addr} {ss : List Int} (h : Lies B w a (ss.map (Value.int .i64))) {j : Nat} (hj : j < ss.length) :
    ∃ b off, a = some ⟨b, off, none⟩ ∧ b < B ∧ b < w.heap.size ∧ ∀ i, i < ss.length → w.cell? ⟨b, off + i, none⟩ = some (.int .i64 (ss.getD i 0)) := by
  rcases h with h | ⟨b, off, ha, hb, hs, hc⟩
  · have : ss = [] := by simpa using h
    subst this; simp at hj
  · refine ⟨b, off, ha, hb, hs, fun i hi => hc i _ ?_⟩
    simp [List.getD, hi]

/-- Two owned rows of different element types: a write to the one leaves the other. -/
theorem owns_other {w w' : World} {base base2 : Nat} {e e2 : TypeId} {v v2 : Value} {n n2 : Nat} {xs xs2 : List Value} (h : w.ownsRow base e 1 v n xs) (h2 : w.ownsRow base2 e2 1 v2 n2 xs2) (hne : e ≠ e2) (hg : w.grownBy w' v2.ownBlock) : w'.ownsRow base e 1 v n xs := by
  refine h.kept hg ?_
  rcases h.2 with ⟨rfl, _⟩ | ⟨g, cap, cur, rfl, _, hgg, _⟩
  · exact .inl rfl
  · right
    intro hc
    rcases h2.2 with ⟨rfl, _⟩ | ⟨g2, cap2, cur2, rfl, _, hg2, _⟩
    · cases hc
    · simp only [Value.ownBlock, Option.some.injEq] at hc
      subst hc
      rw [hgg] at hg2
      simp only [Option.some.injEq, Obj.cells.injEq] at hg2
      exact hne hg2.2.1

theorem Below.grow {base : Nat} {w w' : World} {v : Value} {e : TypeId} {size n : Nat} {xs : List Value} (hown : w.ownsRow base e size v n xs) (hb : base ≤ w.heap.size) (hg : w.grownBy w' v.ownBlock) : Below base w w' :=
  (Below.refl _ _).grown hg hb (fun k hk => (hown.lt k hk).1)

section
variable {H : Type} {enc : TypeId × Value → H} {P : Program} {w : World} {base : Nat} {spare : Nat → Bool} {held : Bool}

theorem intss_open {t e ee : TypeId} {fuel : Nat} {cs : List Value} {x : DataW H × List MemPlace} {a : Option Addr} {len cap : Nat} (ht : P.underlying t = some (.slice e)) (he : P.underlying e = some (.slice ee)) (hee : P.underlying ee = some (.int .i64)) (hc : P.cellsOf e = 1) (hcc : P.cellsOf ee = 1)
    (h : DataW.trod enc P w base spare held fuel t cs = some x) (hcs : cs = [.slice a len cap]) :
    ∃ rows : List IRow, rows.length = len ∧ (a = none → rows.length = 0 ∧ cap = 0) ∧ Grid w.heap.size w a rows ∧ ∀ r, r ∈ rows → (r.a = none → r.ss.length = 0 ∧ r.cap = 0) := by
  rcases open_slice1 ht hc h with ⟨h1, _⟩ | ⟨a', len', cap', m, n, V, D, Pl, h1, _, hl, hm, hmm, _, hV⟩
  · rw [hcs] at h1
    simp at h1
    obtain ⟨rfl, rfl, rfl⟩ := h1
    exact ⟨[], rfl, fun _ => ⟨rfl, rfl⟩, ⟨.inl rfl, fun r hr => by cases hr⟩, fun r hr => by cases hr⟩
  · rw [hcs] at h1
    simp at h1
    obtain ⟨rfl, rfl, rfl⟩ := h1
    have hle : len ≤ m := by rw [hmm]; split <;> omega
    have each : ∀ i, i < len → ∃ r : IRow, V i = r.val ∧ (r.a = none → r.ss.length = 0 ∧ r.cap = 0) ∧ Cells w r.a (r.ss.map (Value.int .i64)) := fun i hi => by
      obtain ⟨_, h2⟩ := hV i (by omega)
      rcases open_ints he hee hcc h2 with ⟨h3, _⟩ | ⟨a2, len2, cap2, ss, h3, _⟩
      · simp at h3
        exact ⟨IRow.zero, h3, fun _ => ⟨rfl, rfl⟩, .inl rfl⟩
      · simp at h3
        obtain ⟨ss', e1, e2, e3, _⟩ := ints_open he hee hcc h2 (by rw [h3])
        exact ⟨⟨some a2, cap2, ss'⟩, by rw [h3, IRow.val, e1], e2, e3⟩
    obtain ⟨f, hf⟩ := @choose_lt IRow ⟨IRow.zero⟩ len _ each
    refine ⟨(List.range len).map f, by simp, fun h => (by cases h), ⟨(row_at fun i u hu => ?_).lies, fun r hr => ?_⟩, fun r hr => ?_⟩
    · simp only [List.map_map, List.getElem?_map] at hu
      by_cases hi : i < len
      · rw [(hV i (by omega)).1, (hf i hi).1]
        simpa [hi] using hu
      · rw [List.getElem?_eq_none (by simp; omega)] at hu
        cases hu
    · simp only [List.mem_map, List.mem_range] at hr
      obtain ⟨i, hi, rfl⟩ := hr
      exact (hf i hi).2.2.lies
    · simp only [List.mem_map, List.mem_range] at hr
      obtain ⟨i, hi, rfl⟩ := hr
      exact (hf i hi).2.1
end
end Go.Proofs.Qxb6605245a
