/-
  subset.of's contract at a span: its region that draws.
-/
import Derived.Test.Qxb6600590aSub
import Derived.Deep.QuietTactic
import Derived.BigQuiet
namespace Go.Proofs.Qxb6600590a.Sub
open Go.RowKit
set_option linter.unusedVariables false

set_option maxHeartbeats 4000000 in
theorem of_span (g n cap : Nat) (s e : Int) (w : World) (hn0 : 0 < n) (hn : n ≤ 1048576) (h1 : -9223372036854775808 ≤ s) (h2 : s ≤ 9223372036854775807) (h3 : -9223372036854775808 ≤ e) (h4 : e ≤ 9223372036854775807) (hcap : n ≤ cap) :
    Calls Try.prog 29 #[.agg #[.int .i64 3, .int .i64 s, .int .i64 e], .slice (some ⟨g, 0, none⟩) n cap] w (PSub g n 3 s e w) := by
  have hmf : ∀ (fn : Fn) (first cap : Array Value) (w : World), (Instr.makeFunc fn first cap).run Try.prog w = .ok (.func fn first cap) w := fun _ _ _ _ => rfl
  have hq : ((n : Int) == 0) = false := by simp; omega
  obtain ⟨b1, b2⟩ := idx_bounds s n h1 h2 (by omega) (by omega)
  have HI : idx s n + 1 = (if s < 0 then (n : Int) + s + 1 else s) := by unfold idx; split <;> omega
  have HF : Hid (∀ i : Nat, selP 3 s e i n = (decide (idx s n ≤ i) && decide ((i : Int) < idx e n))) := fun _ => rfl
  obtain ⟨b3, b4⟩ := idx_bounds e n h3 h4 (by omega) (by omega)
  go_enter Try.func29, Try.ntmps29
  go_wp2_with fail
  refine (clos s n (w.heap.size + 1) _ h1 h2 hn (cell2 _ _ _)).mono ?_
  rintro e0 w' ⟨rfl, rfl⟩
  generalize idx s n = lo at *
  clear HI
  have HC : Hid (∀ W : World, W.cell? ⟨w.heap.size + 1, 0, none⟩ = some (.int .i64 n) → Calls Try.prog 32 #[.int .i64 e, .pointer (some ⟨w.heap.size + 1, 0, none⟩)] W fun e0 w' => e0 = .returned (.int .i64 (idx e n)) ∧ w' = W) := fun W h => clos e n _ W h3 h4 hn h
  generalize idx e n = hi' at *
  rcases (show lo < 0 ∨ 0 < lo ∨ lo = 0 from by omega) with hA | hA | hA <;> rcases (show hi' < n ∨ n < hi' ∨ hi' = n from by omega) with hB | hB | hB <;> (try subst hA) <;> (try subst hB)
  all_goals
    go_wp2
    go_quiet ((go_at_call 32; exact Calls.quiet_of_same (HC.out _ (by exact cell2 _ _ _))))
    go_wp2
  all_goals
    go_ret
    first
      | (refine ⟨lo.toNat, _, _, _, rfl, by omega, fun _ => rfl, fun i hi => ?_, below_drewN (bel2 _ _ _) _⟩
         rw [Bool.eq_iff_iff, HF.out i]
         simp <;> omega)
      | (refine ⟨0, _, _, _, rfl, by omega, fun _ => rfl, fun i hi => ?_, below_drewN (bel2 _ _ _) _⟩
         rw [Bool.eq_iff_iff, HF.out i]
         simp <;> omega)
      | (refine ⟨0, _, _, _, rfl, by omega, fun h => absurd h (by omega), fun i hi => ?_, below_drewN (bel2 _ _ _) _⟩
         rw [Bool.eq_iff_iff, HF.out i]
         simp <;> omega)
end Go.Proofs.Qxb6600590a.Sub
