/-
  appendProduct's contract: lemmas outside the walk.
-/
import Derived.Test.Qxb6600590aNext
import Derived.Lib.BufferRead
import Derived.Laws.AppendOwnNone
namespace Go.Proofs.Qxb6600590a.Prod
open Go.RowKit Strs Radix
set_option linter.unusedVariables false

theorem info5 : (Try.prog.info? 5).map (fun i => (i.zero, i.size, i.bytes)) = some (some (.int .u8 0), 1, 1) := by kernel_rfl
theorem info3 : (Try.prog.info? 3).map (fun i => (i.zero, i.size, i.bytes)) = some (some (.int .i64 0), 1, 8) := by kernel_rfl

/-- 'string(b)' of a row of bytes that the call owns. -/
theorem conv_own {base n bc : Nat} {bo : Option Addr} {s : ByteArray} {W : World} (h : W.ownsRow base 5 1 (.slice bo n bc) n (Lib.strCells s)) : (convert 22 9 (.slice bo n bc)).run Try.prog W = .ok (.string s) W := by
  have hn : n = s.size := by have := h.1; rw [Lib.strCells_length] at this; omega
  have hcells := owns_cells h
  rcases h.2 with ⟨hv, h0⟩ | ⟨g, cap, cur, hv, _, hgg, _⟩
  · simp only [Value.slice.injEq] at hv
    obtain ⟨rfl, rfl, rfl⟩ := hv
    rw [Lib.run_convert_nil_bytes W 22 9 5 0 Try.underlying22 Try.underlying5 Try.underlying9]
    have : s = ⟨#[]⟩ := by
      cases s with
      | mk d =>
        have hd : d.size = 0 := hn.symm
        have : d = #[] := Array.eq_empty_of_size_eq_zero hd
        rw [this]
    rw [this]
  · simp only [Value.slice.injEq] at hv
    obtain ⟨rfl, _, rfl⟩ := hv
    have hl : s.data.toList.length = n := by rw [hn, Array.length_toList]; rfl
    have hr := run_convert_bytes_back (P := Try.prog) W 22 9 5 ⟨g, 0, none⟩ bc s.data.toList Try.underlying22 Try.underlying5 Try.underlying9 (fun j hj => by
      rcases hcells with h1 | ⟨b', off', ha, _, hc⟩
      · have h2 := congrArg List.length h1
        rw [Lib.strCells_length] at h2
        have h3 : s.size = 0 := h2
        omega
      · simp only [Option.some.injEq, Addr.mk.injEq] at ha
        obtain ⟨rfl, rfl, _⟩ := ha
        rw [Go.WideShapes.add_plain]
        refine hc j _ ?_
        rw [Lib.strCells, List.getElem?_map, List.getElem?_eq_getElem hj]
        rfl)
    rw [hl] at hr
    rw [hr]

/-- 'b[:0]'. -/
theorem trunc_own {base n bc : Nat} {e : TypeId} {bo : Option Addr} {xs : List Value} {W : World} (h : W.ownsRow base e 1 (.slice bo n bc) n xs) : W.ownsRow base e 1 (.slice bo 0 bc) 0 [] := by
  refine ⟨rfl, ?_⟩
  rcases h.2 with ⟨hv, h0⟩ | ⟨g, cap, cur, hv, hb, hgg, h1, h2, h3, _⟩
  · simp only [Value.slice.injEq] at hv
    obtain ⟨rfl, rfl, rfl⟩ := hv
    exact .inl ⟨rfl, rfl⟩
  · simp only [Value.slice.injEq] at hv
    obtain ⟨rfl, _, rfl⟩ := hv
    exact .inr ⟨g, bc, cur, rfl, hb, hgg, Nat.zero_le _, h2, h3, by simp⟩

/-- The texts of the first t points. -/
def outsTo (rows : List SRow) (t : Nat) : List ByteArray := (List.range t).map fun u => text (rows.map SRow.ss) (digs (lens rows) u)
theorem outsTo_succ (rows : List SRow) (t : Nat) : outsTo rows (t + 1) = outsTo rows t ++ [text (rows.map SRow.ss) (digs (lens rows) t)] := by simp [outsTo, List.range_succ]
theorem outsTo_length (rows : List SRow) (t : Nat) : (outsTo rows t).length = t := by simp [outsTo]

/-- All that appendProduct's loop holds: the items, the point, the variable that the closure captured, the buffer. -/
structure Inv (base X P : Nat) (b : Option Addr) (capb : Nat) (rows : List SRow) (its : List ByteArray) (w wr : World) (ao : Option Addr) (c t : Nat) (ds : List Nat) (bo : Option Addr) (bn bc : Nat) (bs : List Value) : Prop where
  items : wr.ownsRow base 9 1 (.slice ao (its.length + t) c) (its.length + t) ((its ++ outsTo rows t).map Value.string)
  point : wr.ownsRow base 3 1 (.slice (some ⟨P, 0, none⟩) rows.length rows.length) rows.length (pts ds)
  box : wr.ownsRow base 36 1 (.slice (some ⟨X, 0, none⟩) 1 1) 1 [.slice b rows.length capb]
  buf : wr.ownsRow base 5 1 (.slice bo bn bc) bn bs
  below : Below base w wr
  size : base ≤ wr.heap.size

section
variable {base X P : Nat} {b : Option Addr} {capb : Nat} {rows : List SRow} {its : List ByteArray} {w wr wr' : World} {ao : Option Addr} {c t : Nat} {ds : List Nat} {bo : Option Addr} {bn bc : Nat} {bs : List Value}

/-- The buffer cut to nothing. -/
theorem Inv.cut (h : Inv base X P b capb rows its w wr ao c t ds bo bn bc bs) : Inv base X P b capb rows its w wr ao c t ds bo 0 bc [] := ⟨h.items, h.point, h.box, trunc_own h.buf, h.below, h.size⟩

/-- An append to the buffer. -/
theorem Inv.push {bo' : Option Addr} {bn' bc' : Nat} {bs' : List Value} (h : Inv base X P b capb rows its w wr ao c t ds bo bn bc bs) (hb : wr'.ownsRow base 5 1 (.slice bo' bn' bc') bn' bs') (hg : wr.grownBy wr' (Value.slice bo bn bc).ownBlock) :
    Inv base X P b capb rows its w wr' ao c t ds bo' bn' bc' bs' :=
  ⟨owns_other h.items h.buf (by decide) hg, owns_other h.point h.buf (by decide) hg, owns_other h.box h.buf (by decide) hg, hb, h.below.trans (Below.grow h.buf h.size hg), Nat.le_trans h.size hg.size⟩

/-- An append to the items. -/
theorem Inv.item {ao' : Option Addr} {c' : Nat} {x : ByteArray} {o : Obj} (h : Inv base X P b capb rows its w wr ao c t ds bo bn bc bs) (hx : x = text (rows.map SRow.ss) (digs (lens rows) t))
    (hb : wr'.ownsRow base 9 1 (.slice ao' (its.length + t + 1) c') (its.length + t + 1) ((its ++ outsTo rows t).map Value.string ++ [.string x])) (hg : (wr.alloc o).grownBy wr' (Value.slice ao (its.length + t) c).ownBlock) :
    Inv base X P b capb rows its w wr' ao' c' (t + 1) ds bo bn bc bs := by
  have hs : base ≤ (wr.alloc o).heap.size := by have := h.size; simp; omega
  refine ⟨?_, owns_other (h.point.alloc o) (h.items.alloc o) (by decide) hg, owns_other (h.box.alloc o) (h.items.alloc o) (by decide) hg, owns_other (h.buf.alloc o) (h.items.alloc o) (by decide) hg, (h.below.alloc h.size o).trans (Below.grow (h.items.alloc o) hs hg), Nat.le_trans hs hg.size⟩
  rw [outsTo_succ, ← hx, ← List.append_assoc, List.map_append]
  exact hb

/-- The next point. -/
theorem Inv.next {ds' : List Nat} (h : Inv base X P b capb rows its w wr ao c t ds bo bn bc bs) (hb : wr'.ownsRow base 3 1 (.slice (some ⟨P, 0, none⟩) rows.length rows.length) rows.length (pts ds')) (hg : wr.grownBy wr' (some P)) :
    Inv base X P b capb rows its w wr' ao c t ds' bo bn bc bs :=
  ⟨owns_other h.items h.point (by decide) hg, hb, owns_other h.box h.point (by decide) hg, owns_other h.buf h.point (by decide) hg, h.below.trans (Below.grow h.point h.size hg), Nat.le_trans h.size hg.size⟩
end

/-- What an owned value looks like, as a slice. -/
theorem own_form {base n : Nat} {e : TypeId} {v : Value} {xs : List Value} {W : World} (h : W.ownsRow base e 1 v n xs) : ∃ ao c, v = .slice ao n c := by
  rcases h.2 with ⟨hv, h0⟩ | ⟨g, cap, cur, hv, _⟩
  · exact ⟨none, 0, by rw [hv, h0]⟩
  · exact ⟨_, _, hv⟩

/-- One stretch alone: the texts are its strings. -/
theorem outs_one (r : SRow) : outsTo [r] r.ss.length = r.ss := by
  unfold outsTo
  apply List.ext_getElem
  · simp
  · intro i h1 h2
    simp only [List.getElem_map, List.getElem_range, List.map_cons, List.map_nil, lens, digs, rad, text, cat]
    rw [Nat.mod_eq_of_lt (by simpa using h1)]
    simp [List.getD, h2]

def P31 (base : Nat) (rows : List SRow) (its : List ByteArray) (w : World) (e : Ending) (w' : World) : Prop :=
  ∃ ao c, e = .returned (.slice ao (its.length + pr rows) c) ∧ w'.ownsRow base 9 1 (.slice ao (its.length + pr rows) c) (its.length + pr rows) ((its ++ outsTo rows (pr rows)).map Value.string) ∧ Below base w w'
end Go.Proofs.Qxb6600590a.Prod
