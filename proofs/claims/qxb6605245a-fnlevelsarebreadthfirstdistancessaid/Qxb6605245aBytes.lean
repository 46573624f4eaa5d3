/-
  zzBytes_..'s contract.
-/
import Derived.Test.Qxb6605245aCloneO
namespace Go.Proofs.Qxb6605245a.Prod
open Go.RowKit Strs
set_option linter.unusedVariables false

def P5 (rows : List IRow) (w : World) (e : Ending) (w' : World) : Prop := ∃ b, e = .returned (.bool b) ∧ w' = w ∧ (b = true → ∀ r ∈ rows, r.ss.length ≤ 1048576)

theorem short_step (N : Nat) (rows : List IRow) (k : Nat) (hk : k < rows.length) (h : ∀ r ∈ rows.take k, r.ss.length ≤ N) (h2 : (rows.getD k IRow.zero).ss.length ≤ N) : ∀ r ∈ rows.take (k + 1), r.ss.length ≤ N := by
  intro r hr
  rw [List.take_succ_eq_append_getElem hk] at hr
  rcases List.mem_append.1 hr with h1 | h1
  · exact h r h1
  · have : r = rows.getD k IRow.zero := by simpa [List.getD, hk] using h1
    rw [this]; exact h2

set_option maxHeartbeats 1600000 in
theorem bytes5 (a b c d : Option Addr) (ca cb cc cd nb nc nd : Nat) (s t : Int) (rows : List IRow) (w : World) (hG : Grid w.heap.size w a rows) :
    Calls Try.prog 5 #[.slice a rows.length ca, .slice b nb cb, .slice c nc cc, .int .i64 s, .int .i64 t, .slice d nd cd] w (P5 rows w) := by
  by_cases hl : rows.length ≤ 1048576
  · go_enter Try.func5, Try.ntmps5
    go_wp2
    go_loop [13, 14] (fun t i => ∃ k T : Nat, k ≤ rows.length ∧ i = .int .i64 k ∧ t = .int .i64 T ∧ T ≤ 1048576 ∧ ∀ r ∈ rows.take k, r.ss.length ≤ 1048576) (fun _ i => rows.length - (intOf i).toNat)
    case atStart => exact ⟨0, rows.length, Nat.zero_le _, rfl, rfl, hl, fun r hr => by simp at hr⟩
    case round =>
      obtain ⟨k, T, hk, rfl, rfl, hb, hsh⟩ := hrel
      have HSh : Hid (∀ r ∈ rows.take k, r.ss.length ≤ 1048576) := hsh
      clear hsh
      by_cases hlt : k < rows.length
      · obtain ⟨ab, off, rfl, _, hbl, hrow, hLs⟩ := hG.row hlt
        have hcx := hrow k hlt
        have HT : Hid ((rows.getD k IRow.zero).ss.length ≤ 1048576 → ∀ r ∈ rows.take (k + 1), r.ss.length ≤ 1048576) := fun h => short_step _ rows k hlt HSh.out h
        clear hrow hG hLs
        generalize rows.getD k IRow.zero = r at *
        obtain ⟨ra, rc, rs⟩ := r
        simp only [IRow.val] at hcx HT
        by_cases h1 : 1048576 < rs.length
        · go_wp2
          go_ret
          exact ⟨_, rfl, rfl, fun h => by cases h⟩
        · by_cases h2 : 1048576 < T + rs.length
          · go_wp2
            go_ret
            exact ⟨_, rfl, rfl, fun h => by cases h⟩
          · go_wp2
            go_round
            case rel => exact ⟨k + 1, T + rs.length, by omega, by go_num, by go_num, by omega, HT.out (by omega)⟩
            case measure => simp [intOf]; omega
      · clear hG
        by_cases h1 : 1048576 < nb
        · go_wp2
          go_ret
          exact ⟨_, rfl, rfl, fun h => by cases h⟩
        by_cases h2 : 1048576 < T + nb
        · go_wp2
          go_ret
          exact ⟨_, rfl, rfl, fun h => by cases h⟩
        by_cases h3 : 1048576 < nc
        · go_wp2
          go_ret
          exact ⟨_, rfl, rfl, fun h => by cases h⟩
        by_cases h4 : 1048576 < T + nb + nc
        · go_wp2
          go_ret
          exact ⟨_, rfl, rfl, fun h => by cases h⟩
        by_cases h5 : 1048576 < nd
        · go_wp2
          go_ret
          exact ⟨_, rfl, rfl, fun h => by cases h⟩
        by_cases h6 : 1048576 < T + nb + nc + nd
        · go_wp2
          go_ret
          exact ⟨_, rfl, rfl, fun h => by cases h⟩
        obtain rfl : k = rows.length := by omega
        rw [List.take_length] at HSh
        go_wp2
        go_ret
        exact ⟨_, rfl, rfl, fun _ => HSh.out⟩
  · clear hG
    go_enter Try.func5, Try.ntmps5
    go_wp2
    go_ret
    exact ⟨_, rfl, rfl, fun h => by cases h⟩
end Go.Proofs.Qxb6605245a.Prod
