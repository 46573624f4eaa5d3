/-
  appendProduct's contract, whole; and small laws for the law's own walk.
-/
import Derived.Test.Qxb6600590aProd4
import Derived.Deep.RegionLaw
namespace Go.Proofs.Qxb6600590a.Prod
open Go.RowKit Strs Radix
set_option linter.unusedVariables false

theorem prod_any (base B : Nat) (ao b : Option Addr) (c capb : Nat) (rows : List SRow) (its : List ByteArray) (w : World) (hB : B ≤ base) (hbs : base ≤ w.heap.size) (hm : its.length ≤ 1048576) (hsz : 24 * rows.length + gtot rows ≤ 1048576)
    (hI : w.ownsRow base 9 1 (.slice ao its.length c) its.length (its.map Value.string)) (hG : Grid B w b rows) (hnil : ∀ r, r ∈ rows → (r.a = none → r.ss.length = 0 ∧ r.cap = 0)) (hpr : pr rows ≤ 65536) :
    Calls Try.prog 31 #[.slice ao its.length c, .slice b rows.length capb] w (P31 base rows its w) := by
  by_cases h1 : rows.length = 1
  · match rows, h1 with
    | [r], _ =>
      have hr : r.ss.length ≤ 65536 := by
        have : pr [r] = r.ss.length := by simp [pr]
        omega
      exact prod_one base B ao b c capb r its w hB hbs hm hr hI hG (hnil r List.mem_cons_self)
  · by_cases h2 : ∃ z, z < rows.length ∧ (rows.getD z SRow.zero).ss.length = 0
    · obtain ⟨z, hz, hz0⟩ := h2
      exact prod_zero base B ao b c capb rows its w hB hbs hm hsz hI hG h1 z hz hz0
    · refine prod_many base B ao b c capb rows its w hB hbs hm hsz hI hG h1 (fun r hr => ?_) hpr
      obtain ⟨i, hi, rfl⟩ := List.getElem_of_mem hr
      have h3 : rows.getD i SRow.zero = rows[i] := by simp [List.getD, hi]
      rcases Nat.eq_zero_or_pos rows[i].ss.length with h | h
      · exact absurd ⟨i, hi, by rw [h3]; exact h⟩ h2
      · exact h

theorem zzprod (base B : Nat) (ao b : Option Addr) (c capb : Nat) (rows : List SRow) (its : List ByteArray) (w : World) (hB : B ≤ base) (hbs : base ≤ w.heap.size) (hm : its.length ≤ 1048576) (hsz : 24 * rows.length + gtot rows ≤ 1048576)
    (hI : w.ownsRow base 9 1 (.slice ao its.length c) its.length (its.map Value.string)) (hG : Grid B w b rows) (hnil : ∀ r, r ∈ rows → (r.a = none → r.ss.length = 0 ∧ r.cap = 0)) (hpr : pr rows ≤ 65536) :
    Calls Try.prog 25 #[.slice ao its.length c, .slice b rows.length capb] w (P31 base rows its w) := by
  have HC : Hid (Calls Try.prog 31 #[.slice ao its.length c, .slice b rows.length capb] w (P31 base rows its w)) := prod_any base B ao b c capb rows its w hB hbs hm hsz hI hG hnil hpr
  clear hI hG hnil
  go_enter Try.func25, Try.ntmps25
  go_wp2_with fail
  refine HC.out.mono ?_
  rintro e w' ⟨ao', c', rfl, h1, h2⟩
  have H1 : Hid _ := h1
  have H2 : Hid _ := h2
  clear h1 h2
  go_wp2
  go_ret
  exact ⟨ao', c', rfl, H1.out, H2.out⟩

theorem pr_eq (R rows : List SRow) (h : R.map SRow.ss = rows.map SRow.ss) : pr R = pr rows := by
  have e : ∀ l : List SRow, pr l = ((l.map SRow.ss).map List.length).prod := fun l => by unfold pr; rw [List.map_map]; rfl
  rw [e, e, h]
theorem gtot_eq (R rows : List SRow) (h : R.map SRow.ss = rows.map SRow.ss) : gtot R = gtot rows := by
  have e : ∀ l : List SRow, gtot l = ((l.map SRow.ss).map fun ss => 16 * ss.length + tot ss).sum := fun l => by unfold gtot; rw [List.map_map]; rfl
  rw [e, e, h]

/-- 'append(b, s...)' in a region that draws its order, b the call's own, s a string. -/
theorem step_append_str {P : Program} (w : World) {ops : Array Oper} {o : Oper} {a : Act} {K : Act → World → Prop} {Q : Exit → Act → World → Prop} {E : Prop} (hgd : o.guard = none) (sl x : Operand) (t u : TypeId)
    (ho : o.op = .call { callee := .builtin .append, args := #[sl, x], argTypes := #[t, u] })
    (base : Nat) (e : TypeId) (i : TypeInfo) (ht : P.underlying t = some (.slice e)) (hu : P.underlying u = some .string) (hi : P.info? e = some i) (hz : i.zero = some (.int .u8 0))
    (hsize : i.size = 1) (hby : i.bytes = 1)
    (v : Value) (n : Nat) (xs : List Value) (hs : a.eval sl = v) (hown : w.ownsRow base e 1 v n xs) (s : ByteArray) (hx : a.eval x = .string s)
    (h63 : n + s.size ≤ maxLen) (hbytes : n + s.size ≤ 140737488355328) (hbase : base ≤ w.heap.size)
    (h : ∀ bo bc w', w'.ownsRow base e 1 (.slice bo (n + s.size) bc) (n + s.size) (xs ++ Lib.strCells s) → w.grownBy w' v.ownBlock → K (a.put o.dst (.slice bo (n + s.size) bc)) w') :
    if Region.wanted o (yielded ops a.tmps) = true then Oper.wp P o a w K Q else E := by
  have hw : Region.wanted o (yielded ops a.tmps) = true := by simp [Region.wanted, hgd]
  rw [if_pos hw]
  obtain ⟨v', w', hr, h2, h3, h4⟩ := Lib.run_append_own_string (P := P) w base t u o.type e i ht hu hi hz hsize hby v n xs hown s h63 hbytes hbase
  obtain ⟨bo, bc, rfl⟩ := own_form h2
  unfold Oper.wp execOp
  simp only [ho, resolve, invoke, builtin, Sem.run_bind, Sem.run_pure, Result.andThen_ok, List.map_toArray, List.map_cons, List.map_nil, hs, hx, hr]
  exact h bo bc w' h2 h3
end Go.Proofs.Qxb6600590a.Prod
