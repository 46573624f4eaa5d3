/-
  cloneInts' contract; owned rows beside others.
-/
import Derived.Test.Qxb6605245aRows
import Derived.Test.Qxb6605245aGrid
namespace Go.Proofs.Qxb6605245a.Strs
open Go.RowKit
set_option linter.unusedVariables false

theorem info3 : (Try.prog.info? 3).map (fun i => (i.zero, i.size, i.bytes)) = some (some (.int .i64 0), 1, 8) := by kernel_rfl

set_option maxHeartbeats 800000 in
theorem clone_some (x : Addr) (len cap : Nat) (ss : List Int) (w : World) (hl : len ≤ 1048576) (hz : ss.length = len) (hc : Cells w (some x) (ss.map (Value.int .i64))) :
    Calls Try.prog 7 #[.slice (some x) len cap] w fun e w' =>
      e = .returned (.slice (some ⟨w.heap.size, 0, none⟩) len len) ∧ w'.ownsRow w.heap.size 3 1 (.slice (some ⟨w.heap.size, 0, none⟩) len len) len (ss.map (Value.int .i64)) ∧ Below w.heap.size w w' := by
  obtain ⟨i0, hi, hz0, hz1, hz2⟩ := info_parts info3
  have q23 : ∀ (w : World) (a : Option Addr) (n c n' c' : Nat), (binOp .eql 23 (.slice a n c) (.slice none n' c')).run Try.prog w = .ok (.bool a.isNone) w := fun w a n c n' c' => Lib.run_eql_slice_nil w 23 3 a n c n' c' Try.underlying23
  go_enter Try.func7, Try.ntmps7
  go_wp2_with (at_make; refine wpList_make_full _ rfl _ _ 23 rfl w.heap.size 3 i0 (.int .i64 0) 1 Try.underlying23 hi hz0 hz1 _ _ _ _ len rfl rfl ?_ ?_ ?_ ?_ ?_ ?_)
  case refine_1 => rfl
  case refine_2 => rfl
  case refine_3 => rw [hz2]; omega
  case refine_4 => unfold maxLen; omega
  case refine_5 => exact Nat.le_refl _
  intro w1 hown1 hgrow1
  have hbel1 : Below w.heap.size w w1 := (Below.refl _ _).grown hgrow1 (Nat.le_refl _) (fun k hk => by cases hk)
  have hpz : w1.ownsRow w.heap.size 3 1 (.slice (some ⟨w.heap.size, 0, none⟩) len len) len (fill (ss.map (Value.int .i64)) (.int .i64 0) len 0) := by rw [fill_zero]; exact hown1
  clear hown1 hgrow1
  go_wp2
  go_loopw [4] (fun i wr => ∃ k : Nat, k ≤ len ∧ i = .int .i64 k ∧ wr.ownsRow w.heap.size 3 1 (.slice (some ⟨w.heap.size, 0, none⟩) len len) len (fill (ss.map (Value.int .i64)) (.int .i64 0) len k) ∧ Below w.heap.size w wr) (fun i _ => len - (intOf i).toNat)
  case atStart => exact ⟨0, Nat.zero_le _, rfl, hpz, hbel1⟩
  case round =>
    obtain ⟨k, hk, rfl, hown, hbel⟩ := hrel
    clear hpz hbel1
    by_cases hlt : k < len
    · obtain ⟨b, off, hx, hb, hcc⟩ := hc.int (j := k) (by omega)
      simp only [Option.some.injEq] at hx
      subst hx
      have hcx : wr.cell? ⟨b, off + k, none⟩ = some (.int .i64 (ss.getD k 0)) := (hbel.cell (by exact hb)).trans (hcc k (by omega))
      have hcd := (hown.cellAt k (by omega)).trans (fill_at _ _ _ k hlt (by simpa using hz))
      have hfd := hown.frozenAt k
      have hst := (hown.stored k (.int .i64 (ss.getD k 0))).1
      rw [fill_step _ _ _ _ _ hlt (by simpa using hz) (getD_int _ _ _ (by omega))] at hst
      have HB : Hid (Below w.heap.size w (wr.setCell ⟨w.heap.size, k, none⟩ (.int .i64 (ss.getD k 0)))) := hbel.setCell (Nat.le_refl _) _
      have HS : Hid ((wr.setCell ⟨w.heap.size, k, none⟩ (.int .i64 (ss.getD k 0))).ownsRow w.heap.size 3 1 (.slice (some ⟨w.heap.size, 0, none⟩) len len) len (fill (ss.map (Value.int .i64)) (.int .i64 0) len (k + 1))) := hst
      clear hst hown hc hcc
      generalize ss.getD k 0 = z at hcx HS HB
      go_wp2
      go_roundw
      case rel => exact ⟨k + 1, by omega, by go_num, HS.out, HB.out⟩
      case measure => simp [intOf]; omega
    · obtain rfl : k = len := by omega
      rw [fill_full _ _ _ (by simpa using hz)] at hown
      go_wp2
      go_ret
      exact ⟨rfl, hown, hbel⟩

theorem clone_nil (w : World) : Calls Try.prog 7 #[.slice none 0 0] w fun e w' => e = .returned (.slice none 0 0) ∧ w' = w := by
  have q23 : ∀ (w : World) (a : Option Addr) (n c n' c' : Nat), (binOp .eql 23 (.slice a n c) (.slice none n' c')).run Try.prog w = .ok (.bool a.isNone) w := fun w a n c n' c' => Lib.run_eql_slice_nil w 23 3 a n c n' c' Try.underlying23
  go_enter Try.func7, Try.ntmps7
  go_wp2
  go_ret
  exact ⟨rfl, rfl⟩

theorem clone_any (a : Option Addr) (len cap : Nat) (ss : List Int) (w : World) (hl : len ≤ 1048576) (hz : ss.length = len) (hnil : a = none → len = 0 ∧ cap = 0) (hc : Cells w a (ss.map (Value.int .i64))) :
    Calls Try.prog 7 #[.slice a len cap] w fun e w' =>
      ∃ ao c', e = .returned (.slice ao len c') ∧ w'.ownsRow w.heap.size 3 1 (.slice ao len c') len (ss.map (Value.int .i64)) ∧ Below w.heap.size w w' ∧ ao.isNone = a.isNone := by
  cases a with
  | none =>
    obtain ⟨rfl, rfl⟩ := hnil rfl
    refine (clone_nil w).mono ?_
    rintro e w' ⟨rfl, rfl⟩
    obtain rfl : ss = [] := List.eq_nil_of_length_eq_zero hz
    exact ⟨none, 0, rfl, World.ownsRow_nil _ _ _ _, Below.refl _ _, rfl⟩
  | some x =>
    refine (clone_some x len cap ss w hl hz hc).mono ?_
    rintro e w' ⟨rfl, h1, h2⟩
    exact ⟨_, _, rfl, h1, h2, rfl⟩
end Go.Proofs.Qxb6605245a.Strs
