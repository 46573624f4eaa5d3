/-
  Contracts of the guards over two slices of strings, and of the comparisons of bytes.
-/
import Derived.Test.Qxb6601057aEncW
import Derived.Deep.QuietTactic
import Derived.BigQuiet
namespace Go.Proofs.Qxb6601057a.Pair
open Go.RowKit Strs Push Enc EncW
set_option linter.unusedVariables false

def P10 (ss tt : List ByteArray) (w : World) (e : Ending) (w' : World) : Prop := ∃ b, e = .returned (.bool b) ∧ w' = w ∧ (b = true → ss.length + tot ss + tt.length + tot tt ≤ 1048576)

set_option maxHeartbeats 1600000 in
theorem bytes10 (a b : Option Addr) (cap capb : Nat) (ss tt : List ByteArray) (w : World) (hc : Cells w a (ss.map Value.string)) (hd : Cells w b (tt.map Value.string)) : Calls Try.prog 10 #[.slice a ss.length cap, .slice b tt.length capb] w (P10 ss tt w) := by
  by_cases hl : ss.length ≤ 1048576
  · go_enter Try.func10, Try.ntmps10
    go_wp2
    go_loop [5, 6] (fun t i => ∃ k : Nat, k ≤ ss.length ∧ i = .int .i64 k ∧ t = .int .i64 ((ss.length + totTo ss k : Nat) : Int) ∧ ss.length + totTo ss k ≤ 1048576) (fun _ i => ss.length - (intOf i).toNat)
    case atStart => exact ⟨0, Nat.zero_le _, rfl, by simp [totTo_zero], by simp [totTo_zero]; omega⟩
    case round =>
      obtain ⟨k, hk, rfl, rfl, hb⟩ := hrel
      by_cases hlt : k < ss.length
      · obtain ⟨ab, off, rfl, hbl, hcc⟩ := hc.str hlt
        have hcx := hcc k hlt
        have HT : Hid (totTo ss (k + 1) = totTo ss k + (ss.getD k ByteArray.empty).size) := totTo_succ ss k hlt
        clear hcc hc hd
        generalize ss.getD k ByteArray.empty = x at hcx HT
        generalize totTo ss k = T at *
        by_cases h1 : 1048576 < x.size
        · go_wp2
          go_ret
          exact ⟨_, rfl, rfl, fun h => by cases h⟩
        · by_cases h2 : 1048576 < ss.length + T + x.size
          · go_wp2
            go_ret
            exact ⟨_, rfl, rfl, fun h => by cases h⟩
          · go_wp2
            go_round
            case rel => exact ⟨k + 1, by omega, by go_num, by rw [HT.out]; go_num, by rw [HT.out]; omega⟩
            case measure => simp [intOf]; omega
      · clear hc
        obtain rfl : k = ss.length := by omega
        have HF : Hid (totTo ss ss.length = tot ss) := totTo_full ss
        generalize totTo ss ss.length = T at *
        by_cases h3 : 1048576 < tt.length
        · clear hd
          go_wp2
          go_ret
          exact ⟨_, rfl, rfl, fun h => by cases h⟩
        · by_cases h4 : 1048576 < ss.length + T + tt.length
          · clear hd
            go_wp2
            go_ret
            exact ⟨_, rfl, rfl, fun h => by cases h⟩
          · go_wp2
            go_loop [5, 7] (fun t i => ∃ k : Nat, k ≤ tt.length ∧ i = .int .i64 k ∧ t = .int .i64 ((ss.length + T + tt.length + totTo tt k : Nat) : Int) ∧ ss.length + T + tt.length + totTo tt k ≤ 1048576) (fun _ i => tt.length - (intOf i).toNat)
            case atStart => exact ⟨0, Nat.zero_le _, rfl, by simp [totTo_zero], by simp [totTo_zero]; omega⟩
            case round =>
              obtain ⟨k, hk, rfl, rfl, hb⟩ := hrel
              by_cases hlt : k < tt.length
              · obtain ⟨ab, off, rfl, hbl, hcc⟩ := hd.str hlt
                have hcx := hcc k hlt
                have HT : Hid (totTo tt (k + 1) = totTo tt k + (tt.getD k ByteArray.empty).size) := totTo_succ tt k hlt
                clear hcc hd
                generalize tt.getD k ByteArray.empty = x at hcx HT
                generalize totTo tt k = U at *
                by_cases h1 : 1048576 < x.size
                · go_wp2
                  go_ret
                  exact ⟨_, rfl, rfl, fun h => by cases h⟩
                · by_cases h2 : 1048576 < ss.length + T + tt.length + U + x.size
                  · go_wp2
                    go_ret
                    exact ⟨_, rfl, rfl, fun h => by cases h⟩
                  · go_wp2
                    go_round
                    case rel => exact ⟨k + 1, by omega, by go_num, by rw [HT.out]; go_num, by rw [HT.out]; omega⟩
                    case measure => simp [intOf]; omega
              · clear hd
                obtain rfl : k = tt.length := by omega
                have HG : Hid (totTo tt tt.length = tot tt) := totTo_full tt
                generalize totTo tt tt.length = U at *
                go_wp2
                go_ret
                exact ⟨_, rfl, rfl, fun _ => by rw [← HF.out, ← HG.out]; exact hb⟩
  · clear hc hd
    go_enter Try.func10, Try.ntmps10
    go_wp2
    go_ret
    exact ⟨_, rfl, rfl, fun h => by cases h⟩

def P11 (w : World) (e : Ending) (w' : World) : Prop := ∃ b, e = .returned (.bool b) ∧ w' = w

set_option maxHeartbeats 1600000 in
theorem pair11 (a b : Option Addr) (cap capb : Nat) (ss tt : List ByteArray) (w : World) (hc : Cells w a (ss.map Value.string)) (hd : Cells w b (tt.map Value.string)) (hl : ss.length + tot ss + tt.length + tot tt ≤ 1048576) : Calls Try.prog 11 #[.slice a ss.length cap, .slice b tt.length capb] w (P11 w) := by
  go_enter Try.func11, Try.ntmps11
  go_wp2
  go_loop [5, 6] (fun t i => ∃ k T : Nat, k ≤ ss.length ∧ i = .int .i64 k ∧ t = .int .i64 T ∧ T ≤ 1048576) (fun _ i => ss.length - (intOf i).toNat)
  case atStart => exact ⟨0, 0, Nat.zero_le _, rfl, rfl, by omega⟩
  case round =>
    obtain ⟨k, T, hk, rfl, rfl, hb⟩ := hrel
    by_cases hlt : k < ss.length
    · obtain ⟨ab, off, rfl, hbl, hcc⟩ := hc.str hlt
      have hcx := hcc k hlt
      have hxs := size_le_tot ss k hlt
      clear hcc hc hd
      generalize ss.getD k ByteArray.empty = x at hcx hxs
      by_cases h2 : 1048576 < T + (16 + x.size)
      · go_wp2
        go_ret
        exact ⟨_, rfl, rfl⟩
      · go_wp2
        go_round
        case rel => exact ⟨k + 1, T + (16 + x.size), by omega, by go_num, by go_num, by omega⟩
        case measure => simp [intOf]; omega
    · clear hc
      go_wp2
      go_loop [5, 7] (fun t i => ∃ k T : Nat, k ≤ tt.length ∧ i = .int .i64 k ∧ t = .int .i64 T ∧ T ≤ 1048576) (fun _ i => tt.length - (intOf i).toNat)
      case atStart => exact ⟨0, T, Nat.zero_le _, rfl, rfl, by omega⟩
      case round =>
        obtain ⟨k2, T2, hk2, rfl, rfl, hb2⟩ := hrel
        by_cases hlt2 : k2 < tt.length
        · obtain ⟨ab, off, rfl, hbl, hcc⟩ := hd.str hlt2
          have hcx := hcc k2 hlt2
          have hxs := size_le_tot tt k2 hlt2
          clear hcc hd
          generalize tt.getD k2 ByteArray.empty = x at hcx hxs
          by_cases h2 : 1048576 < T2 + (16 + x.size)
          · go_wp2
            go_ret
            exact ⟨_, rfl, rfl⟩
          · go_wp2
            go_round
            case rel => exact ⟨k2 + 1, T2 + (16 + x.size), by omega, by go_num, by go_num, by omega⟩
            case measure => simp [intOf]; omega
        · clear hd
          go_wp2
          go_ret
          exact ⟨_, rfl, rfl⟩

/-- The bytes at a place. -/
theorem Cells.byte {w : World} {a : Option Addr} {L : List UInt8} (h : Cells w a (bc L)) {j : Nat} (hj : j < L.length) :
    ∃ b off, a = some ⟨b, off, none⟩ ∧ b < w.heap.size ∧ ∀ i, i < L.length → w.cell? ⟨b, off + i, none⟩ = some (.int .u8 ((L.getD i 0).toNat : Int)) := by
  rcases h with h | ⟨b, off, ha, hb, hc⟩
  · have := congrArg List.length h
    rw [bc_length] at this
    have h0 : L.length = 0 := this
    omega
  · exact ⟨b, off, ha, hb, fun i hi => hc i _ (bc_at L i hi)⟩

def PTrue (w : World) (e : Ending) (w' : World) : Prop := e = .returned (.bool true) ∧ Below w.heap.size w w'

set_option maxHeartbeats 1600000 in
theorem eq13 (a b : Option Addr) (cap capb : Nat) (L : List UInt8) (w : World) (hl : L.length ≤ 16777216) (hc : Cells w a (bc L)) (hd : Cells w b (bc L)) : Calls Try.prog 13 #[.slice a L.length cap, .slice b L.length capb] w (PTrue w) := by
  go_enter Try.func13, Try.ntmps13
  go_wp2
  go_loopw [5] (fun i wr => ∃ k : Nat, k ≤ L.length ∧ i = .int .i64 k ∧ Below w.heap.size w wr) (fun i _ => L.length - (intOf i).toNat)
  case atStart => exact ⟨0, Nat.zero_le _, rfl, Below.refl _ _⟩
  case round =>
    obtain ⟨k, hk, rfl, hbr⟩ := hrel
    by_cases hlt : k < L.length
    · obtain ⟨ab, ao, rfl, _, hac⟩ := Cells.byte (hc.below hbr) hlt
      obtain ⟨bb, bo, rfl, _, hbc⟩ := Cells.byte (hd.below hbr) hlt
      have hx := hac k hlt
      have hy := hbc k hlt
      clear hac hbc hc hd
      generalize L.getD k 0 = z at *
      go_wp2
      go_quiet (fail)
      go_wp2
      go_roundw
      case rel => exact ⟨k + 1, by omega, by go_num, below_drewN hbr _⟩
      case measure => simp [intOf]; omega
    · clear hc hd
      go_wp2
      go_ret
      exact ⟨rfl, hbr⟩

set_option maxHeartbeats 1600000 in
theorem eqs12 (x : Addr) (cap : Nat) (w : World) (hc : Cells w (some x) (bc [123, 125])) : Calls Try.prog 12 #[.slice (some x) 2 cap, .string ⟨#[123, 125]⟩] w (PTrue w) := by
  have q25 : ∀ (w : World) (a : Option Addr) (n c n' c' : Nat), (binOp .eql 25 (.slice a n c) (.slice none n' c')).run Try.prog w = .ok (.bool a.isNone) w := fun w a n c n' c' => Lib.run_eql_slice_nil w 25 5 a n c n' c' Try.underlying25
  obtain ⟨ab, ao, hx, _, hac⟩ := Cells.byte hc (j := 0) (by decide)
  simp only [Option.some.injEq] at hx
  subst hx
  have h0 : w.cell? ⟨ab, ao, none⟩ = some (.int .u8 123) := hac 0 (by decide)
  have h1 : w.cell? ⟨ab, ao + 1, none⟩ = some (.int .u8 125) := hac 1 (by decide)
  clear hac hc
  go_enter Try.func12, Try.ntmps12
  go_wp2
  refine wp_loop_rounds 3 ?_
  rw [rounds_succ]
  go_wp2
  go_quiet (fail)
  go_wp2
  rw [rounds_succ]
  go_wp2
  go_quiet (fail)
  go_wp2
  rw [rounds_succ]
  go_wp2
  go_ret
  exact ⟨rfl, below_drewN (Below.refl _ _) _⟩
end Go.Proofs.Qxb6601057a.Pair
