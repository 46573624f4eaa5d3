/-
  What an argument that is a slice tells the walk: its elements as a list, and 'Cells'.
-/
import Derived.Test.Qxb6605245aAid
import Derived.ProofKit
import Derived.OpenShut
namespace Go.Proofs.Qxb6605245a
open Go.RowKit Go.ChangeShapes Go.WideShapes

section
variable {H : Type} {enc : TypeId × Value → H} {P : Program} {w : World} {base : Nat} {spare : Nat → Bool} {held : Bool}

theorem row_at {a : Addr} {ys : List Value} (h : ∀ i u, ys[i]? = some u → w.cell? (a.add i) = some u) : Cells w (some a) ys := by
  cases ys with
  | nil => exact .inl rfl
  | cons y ys =>
    obtain ⟨b, off, spot⟩ := a
    have h0 := h 0 y rfl
    have hspot : spot = none := by simpa [Addr.add] using World.cell?_spot h0
    subst hspot
    refine .inr ⟨b, off, rfl, ?_, fun j u hu => ?_⟩
    · have := World.block_lt_of_cell? w _ h0
      simpa [Addr.add] using this
    · rw [← Go.WideShapes.add_plain]; exact h j u hu

theorem strs_open {t e : TypeId} {fuel : Nat} {cs : List Value} {x : DataW H × List MemPlace} {a : Option Addr} {len cap : Nat} (ht : P.underlying t = some (.slice e)) (he : P.underlying e = some .string) (hc : P.cellsOf e = 1)
    (h : DataW.trod enc P w base spare held fuel t cs = some x) (hcs : cs = [.slice a len cap]) :
    ∃ ss : List ByteArray, ss.length = len ∧ (a = none → ss.length = 0 ∧ cap = 0) ∧ Cells w a (ss.map Value.string) ∧ ∀ s ∈ ss, s.size ≤ maxLen := by
  rcases open_strings ht he hc h with ⟨h1, _⟩ | ⟨a', len', cap', ss, h1, _, hl, hm, hz, _, hcell, hw⟩
  · rw [hcs] at h1
    simp at h1
    obtain ⟨rfl, rfl, rfl⟩ := h1
    exact ⟨[], rfl, fun _ => ⟨rfl, rfl⟩, .inl rfl, fun s hs => by cases hs⟩
  · rw [hcs] at h1
    simp at h1
    obtain ⟨rfl, rfl, rfl⟩ := h1
    have hle : len ≤ ss.length := by rw [hz]; split <;> omega
    refine ⟨ss.take len, by simp; omega, fun h => (by cases h), row_at fun i u hu => ?_, fun s hs => hw s (List.mem_of_mem_take hs)⟩
    simp only [List.map_take, List.getElem?_take, List.getElem?_map] at hu
    split at hu
    · have hi : i < ss.length := by omega
      rw [hcell i hi]
      simpa [List.getD, hi] using hu
    · cases hu

theorem ints_open {t e : TypeId} {k : IntKind} {fuel : Nat} {cs : List Value} {x : DataW H × List MemPlace} {a : Option Addr} {len cap : Nat} (ht : P.underlying t = some (.slice e)) (he : P.underlying e = some (.int k)) (hc : P.cellsOf e = 1)
    (h : DataW.trod enc P w base spare held fuel t cs = some x) (hcs : cs = [.slice a len cap]) :
    ∃ zs : List Int, zs.length = len ∧ (a = none → zs.length = 0 ∧ cap = 0) ∧ Cells w a (zs.map (Value.int k)) ∧ ∀ n ∈ zs, (Lit.int k n).wf = true := by
  rcases open_ints ht he hc h with ⟨h1, _⟩ | ⟨a', len', cap', zs, h1, _, hl, hm, hz, _, hcell, hw⟩
  · rw [hcs] at h1
    simp at h1
    obtain ⟨rfl, rfl, rfl⟩ := h1
    exact ⟨[], rfl, fun _ => ⟨rfl, rfl⟩, .inl rfl, fun s hs => by cases hs⟩
  · rw [hcs] at h1
    simp at h1
    obtain ⟨rfl, rfl, rfl⟩ := h1
    have hle : len ≤ zs.length := by rw [hz]; split <;> omega
    refine ⟨zs.take len, by simp; omega, fun h => (by cases h), row_at fun i u hu => ?_, fun s hs => hw s (List.mem_of_mem_take hs)⟩
    simp only [List.map_take, List.getElem?_take, List.getElem?_map] at hu
    split at hu
    · have hi : i < zs.length := by omega
      rw [hcell i hi]
      simpa [List.getD, hi] using hu
    · cases hu
end

/-- What an owned slice looks like. -/
theorem owns_shape {w : World} {base : Nat} {e : TypeId} {ao : Option Addr} {n c : Nat} {xs : List Value} (h : w.ownsRow base e 1 (.slice ao n c) n xs) :
    ∃ g, (0 < n → ao = some ⟨g, 0, none⟩ ∧ base ≤ g ∧ g < w.heap.size) ∧ n ≤ c ∧ ∀ j u, xs[j]? = some u → w.cell? ⟨g, j, none⟩ = some u := by
  rcases h.2 with ⟨hv, hn⟩ | ⟨g, cap, cur, hv, hbg, hgg, h1, h2, h3, h4⟩
  · simp only [Value.slice.injEq] at hv
    obtain ⟨rfl, rfl, rfl⟩ := hv
    have hx : xs = [] := List.eq_nil_of_length_eq_zero (by have := h.1; omega)
    exact ⟨0, fun h => absurd h (by omega), by omega, fun j u hu => by rw [hx] at hu; simp at hu⟩
  · simp only [Value.slice.injEq] at hv
    obtain ⟨rfl, _, rfl⟩ := hv
    refine ⟨g, fun _ => ⟨rfl, hbg, (Array.getElem?_eq_some_iff.1 hgg).1⟩, h1, fun j u hu => ?_⟩
    rw [cell_of_row w g j cur e (0, 0) hgg]
    rw [← h4, List.getElem?_take] at hu
    split at hu
    · simpa using hu
    · cases hu
end Go.Proofs.Qxb6605245a
