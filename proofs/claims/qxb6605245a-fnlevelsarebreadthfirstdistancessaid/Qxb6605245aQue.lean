/-
  A queue of numbers: a slice that looks into a block of the call's own, from some place on; popped at its head by a reslice, pushed at its end by 'append'.
-/
import Derived.Test.Qxb6605245aBytes
import Derived.ArgAppend
import Derived.Deep.AppendLies
import Derived.Deep.LoopGhost
import Derived.Deep.QuietTactic
import Derived.BigQuiet
namespace Go.Proofs.Qxb6605245a.Bfs
open Go.RowKit Strs
set_option linter.unusedVariables false

def Que (Q : Nat) (w : World) (v : Value) (zs : List Int) : Prop :=
  ∃ g off cap, v = .slice (some ⟨g, off, none⟩) zs.length cap ∧ Q ≤ g ∧ g < w.heap.size ∧ zs.length ≤ cap ∧ cap ≤ maxLen ∧ (∀ j, j < zs.length → w.cell? ⟨g, off + j, none⟩ = some (.int .i64 (zs.getD j 0))) ∧
    ∀ j, j < cap → (w.cell? ⟨g, off + j, none⟩).isSome = true ∧ w.frozen? ⟨g, off + j, none⟩ = false

/-- What leaves the blocks from Q on leaves the queue. -/
theorem Que.kept {Q : Nat} {w w' : World} {v : Value} {zs : List Int} (h : Que Q w v zs) (hs : w.heap.size ≤ w'.heap.size) (hb : ∀ k, Q ≤ k → k < w.heap.size → w'.heap[k]? = w.heap[k]?) : Que Q w' v zs := by
  obtain ⟨g, off, cap, h1, h2, h3, h4, h5, h6, h7⟩ := h
  refine ⟨g, off, cap, h1, h2, by omega, h4, h5, fun j hj => ?_, fun j hj => ⟨?_, ?_⟩⟩
  · rw [World.cell?_of_block (hb g h2 h3)]; exact h6 j hj
  · rw [World.cell?_of_block (hb g h2 h3)]; exact (h7 j hj).1
  · rw [World.frozen?_of_block (hb g h2 h3)]; exact (h7 j hj).2

theorem Que.set {Q : Nat} {w : World} {v : Value} {zs : List Int} (h : Que Q w v zs) {p : Addr} (hp : p.block < Q) (u : Value) : Que Q (w.setCell p u) v zs :=
  h.kept (by simp [World.setCell]) (fun k hk _ => Below.heap_setCell _ _ _ _ (by omega))

/-- The queue that an owned row makes. -/
theorem Que.of {Q base : Nat} {w : World} {v : Value} {zs : List Int} (h : w.ownsRow base 3 1 v zs.length (zs.map (Value.int .i64))) (hQ : Q ≤ base) (hne : 0 < zs.length) : Que Q w v zs := by
  rcases h.2 with ⟨_, h0⟩ | ⟨g, cap, cur, hv, hbg, hgg, h1, h2, h3, h4⟩
  · omega
  · have hlt : g < w.heap.size := (Array.getElem?_eq_some_iff.1 hgg).1
    have hcell : ∀ j, w.cell? ⟨g, j, none⟩ = cur[j]? := fun j => cell_of_row w g j cur 3 (0, 0) hgg
    refine ⟨g, 0, cap, hv, by omega, hlt, h1, h2, fun j hj => ?_, fun j hj => ⟨?_, ?_⟩⟩
    · rw [Nat.zero_add, hcell]
      have : (zs.map (Value.int .i64))[j]? = some (.int .i64 (zs.getD j 0)) := getD_int .i64 zs j hj
      rw [← h4, List.getElem?_take] at this
      split at this
      · simpa using this
      · cases this
    · rw [Nat.zero_add, hcell, Array.getElem?_eq_getElem (by omega)]; rfl
    · rw [Nat.zero_add]
      simp [World.frozen?, hgg]

/-- Its head is gone. -/
theorem Que.pop {Q : Nat} {w : World} {g off cap : Nat} {z : Int} {zs : List Int} (h : Que Q w (.slice (some ⟨g, off, none⟩) (z :: zs).length cap) (z :: zs)) :
    Que Q w (.slice (if cap = 1 then some ⟨g, off, none⟩ else some ⟨g, off + 1, none⟩) zs.length (cap - 1)) zs := by
  obtain ⟨g', off', cap', h1, h2, h3, h4, h5, h6, h7⟩ := h
  simp only [Value.slice.injEq, Option.some.injEq, Addr.mk.injEq] at h1
  obtain ⟨⟨rfl, rfl, _⟩, _, rfl⟩ := h1
  simp only [List.length_cons] at h4
  by_cases hc : cap = 1
  · subst hc
    refine ⟨g, off, 0, by simp, h2, h3, by omega, by unfold maxLen; omega, fun j hj => by omega, fun j hj => by omega⟩
  · refine ⟨g, off + 1, cap - 1, by simp [hc], h2, h3, by omega, by omega, fun j hj => ?_, fun j hj => ?_⟩
    · have := h6 (j + 1) (by simp; omega)
      rw [show off + 1 + j = off + (j + 1) by omega, this]
      simp [List.getD]
    · have := h7 (j + 1) (by omega)
      rw [show off + 1 + j = off + (j + 1) by omega]
      exact this

theorem below_of_setCell {B : Nat} {w : World} {p : Addr} (hp : B ≤ p.block) (u : Value) : Below B w (w.setCell p u) := (Below.refl _ _).setCell hp u

/-- 'queue = append(queue, v)'. -/
theorem wpList_qpush (w : World) {ops : Array Oper} {rest : List Oper} {o : Oper} {a : Act} {K : Exit → Act → World → Prop} (hgd : o.guard = none) (s x : Operand)
    (ho : o.op = .call { callee := .builtin .append, args := #[s, x], argTypes := #[23, 23] })
    (Q : Nat) (i : TypeInfo) (hi : Try.prog.info? 3 = some i) (hz : i.zero = some (.int .i64 0)) (hsize : i.size = 1) (hby : i.bytes = 8)
    (v : Value) (zs : List Int) (u : Int) (hs : a.eval s = v) (N : Nat) (hN : N = w.heap.size) (hx : a.eval x = .slice (some ⟨N, 0, none⟩) 1 1)
    (hq : Que Q w v zs) (hQ : Q ≤ w.heap.size) (hn : zs.length ≤ 16777216)
    (h : ∀ v' w', Que Q w' v' (zs ++ [u]) → Below Q w w' → wpList Try.prog ops K rest (a.put o.dst v') w') :
    wpList Try.prog ops K (o :: rest) a (w.alloc (.cells #[.int .i64 u] 3)) := by
  subst hN
  have hq2 : Que Q (w.alloc (.cells #[.int .i64 u] 3)) v zs := hq.kept (by simp) (fun k _ hk => Below.heap_alloc _ _ _ hk)
  have hbl : Below Q w (w.alloc (.cells #[.int .i64 u] 3)) := (Below.refl _ _).alloc hQ _
  have hnews := World.news_of_block (cs := #[.int .i64 u]) (heap_alloc_new w (.cells #[.int .i64 u] 3))
  have hsz2 : Q ≤ (w.alloc (.cells #[.int .i64 u] 3)).heap.size := by simp; omega
  generalize w.alloc (.cells #[.int .i64 u] 3) = w2 at *
  obtain ⟨g, off, cap, h1, h2, h3, h4, h5, h6, h7⟩ := hq2
  refine wpList_append_arg w2 hgd s x 23 ho 3 i (.int .i64 0) 1 8 Try.underlying23 hi hz hsize hby rfl (by decide) g off zs.length cap (zs.map (Value.int .i64)) (hs.trans h1) (by simp) ?olds ⟨w.heap.size, 0, none⟩ 1 1 [.int .i64 u] hx rfl hnews (fun u hu => by simp at hu; subst hu; rfl) ?spare (by unfold maxLen; omega) (by omega) ?room ?grow
  case olds =>
    intro j y hy
    have hj : j < zs.length := by
      have := (List.getElem?_eq_some_iff.1 hy).1
      simpa using this
    rw [h6 j hj, ← hy]
    exact (getD_int .i64 zs j hj).symm
  case spare =>
    intro hr j hj
    have : j = 0 := by simpa using hj
    subst this
    simpa using h7 zs.length (by omega)
  case room =>
    intro hr
    refine h _ _ ⟨g, off, cap, by simp, h2, ?_, by simpa using hr, h5, fun j hj => ?_, fun j hj => ?_⟩ (hbl.trans ?_)
    · simp [World.setCells, World.setCell]; exact h3
    · have hone := (h7 zs.length (by omega)).1
      by_cases hjj : j = zs.length
      · subst hjj
        have := World.cell?_setCells_in g [Value.int .i64 u] (off + zs.length * 1) w2 (fun i hi => by simp at hi; subst hi; simpa using hone) 0 (by simp)
        simpa [List.getD] using this
      · have hj2 : j < zs.length := by simp at hj; omega
        rw [World.cell?_setCells_out g _ _ w2 _ (fun _ _ => .inl (by simp; omega)), h6 j hj2]
        simp [List.getD, hj2, List.getElem?_append_left hj2]
    · refine ⟨?_, by rw [World.frozen?_setCells]; exact (h7 j hj).2⟩
      by_cases hjj : j = zs.length
      · subst hjj
        have := World.cell?_setCells_in g [Value.int .i64 u] (off + zs.length * 1) w2 (fun i hi => by simp at hi; subst hi; simpa using (h7 zs.length (by omega)).1) 0 (by simp)
        simp at this
        rw [show off + zs.length * 1 = off + zs.length by omega, this]; rfl
      · rw [World.cell?_setCells_out g _ _ w2 _ (fun _ _ => by simp; omega)]; exact (h7 j hj).1
    · simp only [World.setCells]
      exact (Below.refl _ _).setCell h2 _
  case grow =>
    intro hr v' w' hown hg
    refine h v' w' (Que.of (base := w2.heap.size) (by simpa using hown) hsz2 (by simp)) (hbl.trans ((Below.refl _ _).grown hg hsz2 (fun k hk => by cases hk)))
end Go.Proofs.Qxb6605245a.Bfs
