/-
  'b = append(b, x)' of one element onto a row that the call owns, as one law; and what stands behind it.
-/
import Derived.Test.Qxb6601057aStrs
import Derived.Deep.AppendLies
import Derived.Lib.ConvBytes
import Derived.Lib.BufferRead
import Derived.Lib.AppendStr
namespace Go.Proofs.Qxb6601057a.Push
open Go.RowKit
set_option linter.unusedVariables false

theorem info5 : (Try.prog.info? 5).map (fun i => (i.zero, i.size, i.bytes)) = some (some (.int .u8 0), 1, 1) := by kernel_rfl

theorem own_form {base n : Nat} {e : TypeId} {v : Value} {xs : List Value} {W : World} (h : W.ownsRow base e 1 v n xs) : ∃ ao c, v = .slice ao n c := by
  rcases h.2 with ⟨hv, h0⟩ | ⟨g, cap, cur, hv, _⟩
  · exact ⟨none, 0, by rw [hv, h0]⟩
  · exact ⟨_, _, hv⟩

/-- THE LAW. -/
theorem wpList_push {P : Program} (w : World) {ops : Array Oper} {rest : List Oper} {o : Oper} {a : Act} {Q : Exit → Act → World → Prop} (hgd : o.guard = none) (s x : Operand) (t : TypeId)
    (ho : o.op = .call { callee := .builtin .append, args := #[s, x], argTypes := #[t, t] })
    (base : Nat) (e : TypeId) (i : TypeInfo) (z : Value) (bytes : Nat) (ht : P.underlying t = some (.slice e)) (hi : P.info? e = some i) (hz : i.zero = some z)
    (hsize : i.size = 1) (hby : i.bytes = bytes) (hzs : z.cells.size = 1)
    (bo : Option Addr) (n bcap : Nat) (xs : List Value) (u : Value) (hu : u.oneCell' = true) (hs : a.eval s = .slice bo n bcap) (hx : a.eval x = .slice (some ⟨w.heap.size, 0, none⟩) 1 1)
    (hown : w.ownsRow base e 1 (.slice bo n bcap) n xs) (hbase : base ≤ w.heap.size) (hn : n ≤ 16777216) (hb : bytes ≤ 16)
    (h : ∀ bo' bc' w', w'.ownsRow base e 1 (.slice bo' (n + 1) bc') (n + 1) (xs ++ [u]) → (w.alloc (.cells #[u] e)).grownBy w' (Value.slice bo n bcap).ownBlock → wpList P ops Q rest (a.put o.dst (.slice bo' (n + 1) bc')) w') :
    wpList P ops Q (o :: rest) a (w.alloc (.cells #[u] e)) := by
  refine wpList_append_own _ hgd s x t ho base e i z 1 bytes ht hi hz hsize hby hzs (by decide) _ n xs hs (hown.alloc _) ⟨w.heap.size, 0, none⟩ 1 1 [u] hx rfl (World.news_of_block (cs := #[u]) (heap_alloc_new w _)) (fun v hv => by simp at hv; rw [hv]; exact hu) (by unfold maxLen; omega) ?_ (by simp; omega) ?_
  · have : (n + 1) * bytes ≤ 16777217 * 16 := Nat.mul_le_mul (by omega) hb
    omega
  · intro v' w' h1 h2 _
    obtain ⟨bo', bc', rfl⟩ := own_form h1
    exact h bo' bc' w' h1 h2

/-- What stands behind such an append. -/
theorem push_below {base : Nat} {e : TypeId} {w w' : World} {bo : Option Addr} {n bcap : Nat} {xs : List Value} {o : Obj} (hown : w.ownsRow base e 1 (.slice bo n bcap) n xs) (hbase : base ≤ w.heap.size) (hg : (w.alloc o).grownBy w' (Value.slice bo n bcap).ownBlock) : Below base w w' :=
  ((Below.refl _ _).alloc hbase o).grown hg (by simp; omega) (fun k hk => (hown.lt k hk).1)
theorem push_size {w w' : World} {row : Option Nat} {o : Obj} (hg : (w.alloc o).grownBy w' row) : w.heap.size ≤ w'.heap.size := by
  have := hg.size
  simp at this
  omega

/-- A row that a conversion made (its block bears a mark) is as it was. -/
theorem push_mark {base : Nat} {w w' : World} {bo : Option Addr} {n bcap Y m : Nat} {C : Array Value} {xs : List Value} {o : Obj} (hown : w.ownsRow base 5 1 (.slice bo n bcap) n xs) (hY : w.heap[Y]? = some (.cells C 5 (m, m + 1))) (hg : (w.alloc o).grownBy w' (Value.slice bo n bcap).ownBlock) : w'.heap[Y]? = some (.cells C 5 (m, m + 1)) := by
  have hlt : Y < w.heap.size := (Array.getElem?_eq_some_iff.1 hY).1
  rw [hg.block Y (by simp; omega) ?_]
  · rw [Below.heap_alloc _ _ _ hlt]; exact hY
  · intro hc
    rcases hown.2 with ⟨hv, _⟩ | ⟨g, cap, cur, hv, _, hgg, _⟩
    · simp only [Value.slice.injEq] at hv
      obtain ⟨rfl, rfl, rfl⟩ := hv
      cases hc
    · simp only [Value.slice.injEq] at hv
      obtain ⟨rfl, _, rfl⟩ := hv
      simp only [Value.ownBlock, Option.some.injEq] at hc
      subst hc
      rw [hY] at hgg
      simp at hgg

/-- Another owned row, of another element type. -/
theorem push_other {base base2 : Nat} {e e2 : TypeId} {w w' : World} {bo : Option Addr} {n bcap n2 : Nat} {xs xs2 : List Value} {v2 : Value} {o : Obj} (hown : w.ownsRow base e 1 (.slice bo n bcap) n xs) (h2 : w.ownsRow base2 e2 1 v2 n2 xs2) (hne : e2 ≠ e) (hg : (w.alloc o).grownBy w' (Value.slice bo n bcap).ownBlock) : w'.ownsRow base2 e2 1 v2 n2 xs2 := by
  refine (h2.alloc o).kept hg ?_
  rcases h2.2 with ⟨rfl, _⟩ | ⟨g, cap, cur, rfl, _, hgg, _⟩
  · exact .inl rfl
  · right
    intro hc
    rcases hown.2 with ⟨hv, _⟩ | ⟨g2, cap2, cur2, hv, _, hg2, _⟩
    · simp only [Value.slice.injEq] at hv
      obtain ⟨rfl, rfl, rfl⟩ := hv
      cases hc
    · simp only [Value.slice.injEq] at hv
      obtain ⟨rfl, _, rfl⟩ := hv
      simp only [Value.ownBlock, Option.some.injEq] at hc
      subst hc
      rw [hgg] at hg2
      simp only [Option.some.injEq, Obj.cells.injEq] at hg2
      exact hne hg2.2.1

/-- Bytes as cells. -/
def bc (l : List UInt8) : List Value := l.map fun b => Value.int .u8 (b.toNat : Int)
theorem bc_length (l : List UInt8) : (bc l).length = l.length := by simp [bc]
theorem bc_snoc (l : List UInt8) (b : UInt8) : bc l ++ [.int .u8 (b.toNat : Int)] = bc (l ++ [b]) := by simp [bc]
theorem bc_at (l : List UInt8) (k : Nat) (hk : k < l.length) : (bc l)[k]? = some (.int .u8 ((l.getD k 0).toNat : Int)) := by simp [bc, List.getD, hk]
/-- A string's bytes. -/
def bl (s : ByteArray) : List UInt8 := s.data.toList
theorem bl_length (s : ByteArray) : (bl s).length = s.size := by unfold bl; rw [Array.length_toList]; rfl
end Go.Proofs.Qxb6601057a.Push
