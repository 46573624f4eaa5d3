/-
  Contracts of the size guards over slices of slices of strings: zzBytes, stretchesBytes, productSize.
-/
import Derived.Test.Qxb6600590aStrs
import Derived.Test.Qxb6600590aGrid
namespace Go.Proofs.Qxb6600590a.Prod
open Go.RowKit Strs
set_option linter.unusedVariables false

def P21 (w : World) (e : Ending) (w' : World) : Prop := ∃ b, e = .returned (.bool b) ∧ w' = w

set_option maxHeartbeats 4000000 in
theorem bytes21 (a b : Option Addr) (cap capb : Nat) (ss : List ByteArray) (rows : List SRow) (B : Nat) (w : World) (hc : Cells w a (ss.map Value.string)) (hG : Grid B w b rows) :
    Calls Try.prog 21 #[.slice a ss.length cap, .slice b rows.length capb] w (P21 w) := by
  by_cases hl : ss.length ≤ 1048576
  · go_enter Try.func21, Try.ntmps21
    go_wp2
    go_loop [5, 6] (fun t i => ∃ k T : Nat, k ≤ ss.length ∧ i = .int .i64 k ∧ t = .int .i64 T ∧ T ≤ 1048576) (fun _ i => ss.length - (intOf i).toNat)
    case atStart => exact ⟨0, ss.length, Nat.zero_le _, rfl, rfl, hl⟩
    case round =>
      obtain ⟨k, T, hk, rfl, rfl, hT⟩ := hrel
      by_cases hlt : k < ss.length
      · obtain ⟨ab, off, rfl, hbl, hcc⟩ := hc.str hlt
        have hcx := hcc k hlt
        clear hcc hc hG
        generalize ss.getD k ByteArray.empty = x at *
        by_cases h1 : 1048576 < x.size
        · go_wp2
          go_ret
          exact ⟨_, rfl, rfl⟩
        · by_cases h2 : 1048576 < T + x.size
          · go_wp2
            go_ret
            exact ⟨_, rfl, rfl⟩
          · go_wp2
            go_round
            case rel => exact ⟨k + 1, T + x.size, by omega, by go_num, by go_num, by omega⟩
            case measure => simp [intOf]; omega
      · clear hc
        by_cases hr : rows.length ≤ 1048576
        · by_cases hr2 : T + rows.length ≤ 1048576
          · go_wp2
            go_loop [5, 7] (fun t i => ∃ k T : Nat, k ≤ rows.length ∧ i = .int .i64 k ∧ t = .int .i64 T ∧ T ≤ 1048576) (fun _ i => rows.length - (intOf i).toNat)
            case atStart => exact ⟨0, T + rows.length, Nat.zero_le _, rfl, by go_num, hr2⟩
            case round =>
              obtain ⟨k2, T2, hk2, rfl, rfl, hT2⟩ := hrel
              by_cases hlt2 : k2 < rows.length
              · obtain ⟨bb, boff, rfl, _, _, hrow, hLs⟩ := hG.row hlt2
                have hcr := hrow k2 hlt2
                clear hrow hG
                generalize rows.getD k2 SRow.zero = r at *
                obtain ⟨ra, rc, rs⟩ := r
                simp only [SRow.val] at hcr hLs
                by_cases h3 : 1048576 < rs.length
                · go_wp2
                  go_ret
                  exact ⟨_, rfl, rfl⟩
                · by_cases h4 : 1048576 < T2 + rs.length
                  · go_wp2
                    go_ret
                    exact ⟨_, rfl, rfl⟩
                  · go_wp2
                    go_loop [5, 8] (fun t i => ∃ k T : Nat, k ≤ rs.length ∧ i = .int .i64 k ∧ t = .int .i64 T ∧ T ≤ 1048576) (fun _ i => rs.length - (intOf i).toNat)
                    case atStart => exact ⟨0, T2 + rs.length, Nat.zero_le _, rfl, by go_num, by omega⟩
                    case round =>
                      obtain ⟨k3, T3, hk3, rfl, rfl, hT3⟩ := hrel
                      by_cases hlt3 : k3 < rs.length
                      · obtain ⟨cb, coff, rfl, _, _, hcs⟩ := hLs.str hlt3
                        have hcy := hcs k3 hlt3
                        clear hcs hLs
                        generalize rs.getD k3 ByteArray.empty = y at *
                        by_cases h5 : 1048576 < y.size
                        · go_wp2
                          go_ret
                          exact ⟨_, rfl, rfl⟩
                        · by_cases h6 : 1048576 < T3 + y.size
                          · go_wp2
                            go_ret
                            exact ⟨_, rfl, rfl⟩
                          · go_wp2
                            go_round
                            case rel => exact ⟨k3 + 1, T3 + y.size, by omega, by go_num, by go_num, by omega⟩
                            case measure => simp [intOf]; omega
                      · clear hLs
                        go_wp2
                        go_round
                        case rel => exact ⟨k2 + 1, T3, by omega, by go_num, rfl, hT3⟩
                        case measure => simp [intOf]; omega
              · clear hG
                go_wp2
                go_ret
                exact ⟨_, rfl, rfl⟩
          · go_wp2
            go_ret
            exact ⟨_, rfl, rfl⟩
        · go_wp2
          go_ret
          exact ⟨_, rfl, rfl⟩
  · clear hc hG
    go_enter Try.func21, Try.ntmps21
    go_wp2
    go_ret
    exact ⟨_, rfl, rfl⟩
end Go.Proofs.Qxb6600590a.Prod
