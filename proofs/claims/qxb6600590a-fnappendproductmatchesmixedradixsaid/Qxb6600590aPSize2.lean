/-
  Contracts of the size guards over slices of slices of strings, the rest: stretchesBytes, productSize.
-/
import Derived.Test.Qxb6600590aPSize
namespace Go.Proofs.Qxb6600590a.Prod
open Go.RowKit Strs
set_option linter.unusedVariables false

def gw (r : SRow) : Nat := 16 * r.ss.length + tot r.ss
def gtot (rows : List SRow) : Nat := (rows.map gw).sum
def gtotTo (rows : List SRow) (k : Nat) : Nat := gtot (rows.take k)
theorem gtotTo_zero (rows : List SRow) : gtotTo rows 0 = 0 := rfl
theorem gtotTo_full (rows : List SRow) : gtotTo rows rows.length = gtot rows := by unfold gtotTo; rw [List.take_length]
theorem gtotTo_succ (rows : List SRow) (k : Nat) (h : k < rows.length) : gtotTo rows (k + 1) = gtotTo rows k + gw (rows.getD k SRow.zero) := by
  have hg : rows.getD k SRow.zero = rows[k] := by simp [List.getD, h]
  unfold gtotTo gtot
  rw [List.take_succ_eq_append_getElem h, List.map_append, List.sum_append, hg]
  simp only [List.map_cons, List.map_nil, List.sum_cons, List.sum_nil, Nat.add_zero]
theorem gtotTo_le (rows : List SRow) (k : Nat) : gtotTo rows k ≤ gtot rows := by
  unfold gtotTo gtot
  have h := congrArg (fun l => (l.map gw).sum) (List.take_append_drop k rows)
  simp only [List.map_append, List.sum_append] at h
  omega

def pr (rows : List SRow) : Nat := (rows.map fun r => r.ss.length).prod
def prTo (rows : List SRow) (k : Nat) : Nat := pr (rows.take k)
theorem prTo_zero (rows : List SRow) : prTo rows 0 = 1 := rfl
theorem prTo_full (rows : List SRow) : prTo rows rows.length = pr rows := by unfold prTo; rw [List.take_length]
theorem prTo_succ (rows : List SRow) (k : Nat) (h : k < rows.length) : prTo rows (k + 1) = prTo rows k * (rows.getD k SRow.zero).ss.length := by
  have hg : rows.getD k SRow.zero = rows[k] := by simp [List.getD, h]
  unfold prTo pr
  rw [List.take_succ_eq_append_getElem h, List.map_append, List.prod_append, hg]
  simp only [List.map_cons, List.map_nil, List.prod_cons, List.prod_nil, Nat.mul_one]
theorem pr_zero (rows : List SRow) (k : Nat) (h : k < rows.length) (h0 : (rows.getD k SRow.zero).ss.length = 0) : pr rows = 0 := by
  have h1 : rows = rows.take (k + 1) ++ rows.drop (k + 1) := (List.take_append_drop _ _).symm
  have h2 : pr rows = prTo rows (k + 1) * pr (rows.drop (k + 1)) := by
    conv => lhs; rw [h1]
    unfold prTo pr
    rw [List.map_append, List.prod_append]
  rw [h2, prTo_succ rows k h, h0]
  simp

theorem size_le_tot (ss : List ByteArray) (k : Nat) (h : k < ss.length) : (ss.getD k ByteArray.empty).size ≤ tot ss := by
  have h1 := totTo_succ ss k h
  have h2 := tot_le ss (k + 1)
  unfold totTo at h1
  omega

def P22 (rows : List SRow) (w : World) (e : Ending) (w' : World) : Prop := ∃ t : Int, e = .returned (.int .i64 t) ∧ w' = w ∧ 0 ≤ t ∧ t ≤ 33554432 ∧ (t ≤ 1048576 → 24 * rows.length + gtot rows ≤ 1048576)

set_option maxHeartbeats 4000000 in
theorem bytes22 (b : Option Addr) (capb : Nat) (rows : List SRow) (B : Nat) (w : World) (hG : Grid B w b rows) :
    Calls Try.prog 22 #[.slice b rows.length capb] w (P22 rows w) := by
  by_cases hl : rows.length ≤ 1048576
  · by_cases hl2 : 24 * rows.length ≤ 1048576
    · go_enter Try.func22, Try.ntmps22
      go_wp2
      go_loop [3, 4] (fun t i => ∃ k : Nat, k ≤ rows.length ∧ i = .int .i64 k ∧ t = .int .i64 ((24 * rows.length + gtotTo rows k : Nat) : Int) ∧ 24 * rows.length + gtotTo rows k ≤ 1048576) (fun _ i => rows.length - (intOf i).toNat)
      case atStart => exact ⟨0, Nat.zero_le _, rfl, by simp [gtotTo_zero], by simp [gtotTo_zero]; omega⟩
      case round =>
        obtain ⟨k, hk, rfl, rfl, hT⟩ := hrel
        by_cases hlt : k < rows.length
        · obtain ⟨bb, boff, rfl, _, _, hrow, hLs⟩ := hG.row hlt
          have hcr := hrow k hlt
          have HT : Hid (gtotTo rows (k + 1) = gtotTo rows k + gw (rows.getD k SRow.zero)) := gtotTo_succ rows k hlt
          clear hrow hG
          generalize rows.getD k SRow.zero = r at *
          obtain ⟨ra, rc, rs⟩ := r
          simp only [SRow.val] at hcr hLs
          have HT2 : Hid (gtotTo rows (k + 1) = gtotTo rows k + (16 * rs.length + tot rs)) := HT.out
          clear HT
          generalize gtotTo rows k = T at *
          by_cases h3 : 1048576 < rs.length
          · go_wp2
            go_ret
            exact ⟨_, rfl, rfl, by omega, by omega, by omega⟩
          · by_cases h4 : 1048576 < 24 * rows.length + T + 16 * rs.length
            · go_wp2
              go_ret
              exact ⟨_, rfl, rfl, by omega, by omega, by omega⟩
            · go_wp2
              go_loop [3, 5] (fun t i => ∃ j : Nat, j ≤ rs.length ∧ i = .int .i64 j ∧ t = .int .i64 ((24 * rows.length + T + 16 * rs.length + totTo rs j : Nat) : Int) ∧ 24 * rows.length + T + 16 * rs.length + totTo rs j ≤ 1048576) (fun _ i => rs.length - (intOf i).toNat)
              case atStart => exact ⟨0, Nat.zero_le _, rfl, by simp [totTo_zero], by simp [totTo_zero]; omega⟩
              case round =>
                obtain ⟨j, hj, rfl, rfl, hTj⟩ := hrel
                by_cases hlt3 : j < rs.length
                · obtain ⟨cb, coff, rfl, _, _, hcs⟩ := hLs.str hlt3
                  have hcy := hcs j hlt3
                  have HJ : Hid (totTo rs (j + 1) = totTo rs j + (rs.getD j ByteArray.empty).size) := totTo_succ rs j hlt3
                  clear hcs hLs
                  generalize rs.getD j ByteArray.empty = y at *
                  generalize totTo rs j = U at *
                  by_cases h5 : 1048576 < y.size
                  · go_wp2
                    go_ret
                    exact ⟨_, rfl, rfl, by omega, by omega, by omega⟩
                  · by_cases h6 : 1048576 < 24 * rows.length + T + 16 * rs.length + U + y.size
                    · go_wp2
                      go_ret
                      exact ⟨_, rfl, rfl, by omega, by omega, by omega⟩
                    · go_wp2
                      go_round
                      case rel => exact ⟨j + 1, by omega, by go_num, by rw [HJ.out]; go_num, by rw [HJ.out]; omega⟩
                      case measure => simp [intOf]; omega
                · clear hLs
                  obtain rfl : j = rs.length := by omega
                  have hf := totTo_full rs
                  have HF : Hid (totTo rs rs.length = tot rs) := hf
                  clear hf
                  generalize totTo rs rs.length = U at *
                  go_wp2
                  go_round
                  case rel => exact ⟨k + 1, by omega, by go_num, by rw [HT2.out, ← HF.out]; go_num, by rw [HT2.out, ← HF.out]; omega⟩
                  case measure => simp [intOf]; omega
        · clear hG
          obtain rfl : k = rows.length := by omega
          have hf := gtotTo_full rows
          have HF : Hid (gtotTo rows rows.length = gtot rows) := hf
          clear hf
          generalize gtotTo rows rows.length = U at *
          go_wp2
          go_ret
          have hf := HF.out
          exact ⟨_, rfl, rfl, by omega, by omega, by omega⟩
    · clear hG
      go_enter Try.func22, Try.ntmps22
      go_wp2
      go_ret
      exact ⟨_, rfl, rfl, by omega, by omega, by omega⟩
  · clear hG
    go_enter Try.func22, Try.ntmps22
    go_wp2
    go_ret
    exact ⟨_, rfl, rfl, by omega, by omega, by omega⟩

def P23 (rows : List SRow) (w : World) (e : Ending) (w' : World) : Prop := ∃ (c : Int) (ok : Bool), e = .returned (.tuple #[.int .i64 c, .bool ok]) ∧ w' = w ∧ (ok = true → c = pr rows ∧ pr rows ≤ 65536)

theorem mul_bound (a b A B : Nat) (ha : a ≤ A) (hb : b ≤ B) : a * b ≤ A * B := Nat.mul_le_mul ha hb

set_option maxHeartbeats 4000000 in
theorem psize (b : Option Addr) (capb : Nat) (rows : List SRow) (B : Nat) (w : World) (hG : Grid B w b rows) (hsz : 24 * rows.length + gtot rows ≤ 1048576) :
    Calls Try.prog 23 #[.slice b rows.length capb] w (P23 rows w) := by
  go_enter Try.func23, Try.ntmps23
  go_wp2
  go_loop [4] (fun i => ∃ k : Nat, k ≤ rows.length ∧ i = .int .i64 k) (fun i => rows.length - (intOf i).toNat)
  case atStart => exact ⟨0, Nat.zero_le _, rfl⟩
  case round =>
    obtain ⟨k, hk, rfl⟩ := hrel
    by_cases hlt : k < rows.length
    · obtain ⟨bb, boff, rfl, _, _, hrow, hLs⟩ := hG.row hlt
      have hcr := hrow k hlt
      have HZ : Hid ((rows.getD k SRow.zero).ss.length = 0 → pr rows = 0) := pr_zero rows k hlt
      clear hrow hG hLs
      generalize rows.getD k SRow.zero = r at *
      obtain ⟨ra, rc, rs⟩ := r
      simp only [SRow.val] at hcr
      by_cases h0 : rs.length = 0
      · have HP : Hid (pr rows = 0) := HZ.out h0
        have h0' : ((rs.length : Int) == 0) = true := by simpa using h0
        have H0 : Hid (rs.length = 0) := h0
        clear h0
        go_wp2
        go_ret2
        exact ⟨_, _, rfl, rfl, fun _ => by rw [HP.out]; exact ⟨rfl, by omega⟩⟩
      · have h0' : ((rs.length : Int) == 0) = false := by simpa using h0
        go_wp2
        go_round
        case rel => exact ⟨k + 1, by omega, by go_num⟩
        case measure => simp [intOf]; omega
    · go_wp2
      go_loop [5, 6, 7] (fun c wd i => ∃ (k W : Nat), k ≤ rows.length ∧ i = .int .i64 k ∧ c = .int .i64 (prTo rows k : Nat) ∧ wd = .int .i64 W ∧ prTo rows k ≤ 65536 ∧ W ≤ gtotTo rows k) (fun _ _ i => rows.length - (intOf i).toNat)
      case atStart => exact ⟨0, 0, Nat.zero_le _, rfl, rfl, rfl, by rw [prTo_zero]; omega, Nat.zero_le _⟩
      case round =>
        obtain ⟨k2, W, hk2, rfl, rfl, rfl, hC, hW⟩ := hrel
        have hgl := gtotTo_le rows k2
        by_cases hlt2 : k2 < rows.length
        · obtain ⟨bb, boff, rfl, _, _, hrow, hLs⟩ := hG.row hlt2
          have hcr := hrow k2 hlt2
          have HT : Hid (gtotTo rows (k2 + 1) = gtotTo rows k2 + gw (rows.getD k2 SRow.zero)) := gtotTo_succ rows k2 hlt2
          have HP : Hid (prTo rows (k2 + 1) = prTo rows k2 * (rows.getD k2 SRow.zero).ss.length) := prTo_succ rows k2 hlt2
          have hgl2 := gtotTo_le rows (k2 + 1)
          have HG : Hid (gtotTo rows (k2 + 1) ≤ gtot rows) := hgl2
          clear hrow hG hgl2
          generalize rows.getD k2 SRow.zero = r at *
          obtain ⟨ra, rc, rs⟩ := r
          simp only [SRow.val] at hcr hLs HP
          have HT2 : Hid (gtotTo rows (k2 + 1) = gtotTo rows k2 + (16 * rs.length + tot rs)) := HT.out
          have hrs : 16 * rs.length + tot rs ≤ 1048576 := by have := HT2.out; have := HG.out; omega
          clear HT
          generalize gtotTo rows k2 = T at *
          generalize prTo rows k2 = C at *
          have hmul := mul_bound C rs.length 65536 65536 hC (by omega)
          have hm1 : (0 : Int) ≤ (C : Int) * (rs.length : Int) := by rw [← Int.natCast_mul]; omega
          have hm2 : (C : Int) * (rs.length : Int) ≤ 4294967296 := by rw [← Int.natCast_mul]; omega
          by_cases h4 : 65536 < C * rs.length
          · have h4' : (65536 : Int) < (C : Int) * (rs.length : Int) := by rw [← Int.natCast_mul]; omega
            go_wp2
            go_ret2
            exact ⟨_, _, rfl, rfl, fun h => by cases h⟩
          · have h4' : ¬ (65536 : Int) < (C : Int) * (rs.length : Int) := by rw [← Int.natCast_mul]; omega
            clear hmul
            go_wp2
            go_loop [8, 9] (fun lg i => ∃ j Lg : Nat, j ≤ rs.length ∧ i = .int .i64 j ∧ lg = .int .i64 Lg ∧ Lg ≤ tot rs) (fun _ i => rs.length - (intOf i).toNat)
            case atStart => exact ⟨0, 0, Nat.zero_le _, rfl, rfl, Nat.zero_le _⟩
            case round =>
              obtain ⟨j, Lg, hj, rfl, rfl, hLg⟩ := hrel
              by_cases hlt3 : j < rs.length
              · obtain ⟨cb, coff, rfl, _, _, hcs⟩ := hLs.str hlt3
                have hcy := hcs j hlt3
                have hst := size_le_tot rs j hlt3
                clear hcs hLs
                generalize rs.getD j ByteArray.empty = y at *
                by_cases h5 : Lg < y.size
                · go_wp2
                  go_round
                  case rel => exact ⟨j + 1, y.size, by omega, by go_num, rfl, hst⟩
                  case measure => simp [intOf]; omega
                · go_wp2
                  go_round
                  case rel => exact ⟨j + 1, Lg, by omega, by go_num, rfl, hLg⟩
                  case measure => simp [intOf]; omega
              · clear hLs
                go_wp2
                go_round
                case rel => exact ⟨k2 + 1, W + Lg, by omega, by go_num, by rw [HP.out]; go_num, by go_num, by rw [HP.out]; omega, by rw [HT2.out]; omega⟩
                case measure => simp [intOf]; omega
        · clear hG
          obtain rfl : k2 = rows.length := by omega
          have HF : Hid (prTo rows rows.length = pr rows) := prTo_full rows
          generalize prTo rows rows.length = C at *
          have hmul := mul_bound C (rows.length + W) 65536 1048576 hC (by omega)
          have hm1 : (0 : Int) ≤ (C : Int) * ((rows.length : Int) + (W : Int)) := by rw [← Int.natCast_add, ← Int.natCast_mul]; omega
          have hm2 : (C : Int) * ((rows.length : Int) + (W : Int)) ≤ 68719476736 := by rw [← Int.natCast_add, ← Int.natCast_mul]; omega
          clear hmul
          by_cases h4 : (4194304 : Int) < (C : Int) * ((rows.length : Int) + (W : Int))
          · go_wp2
            go_ret2
            exact ⟨_, _, rfl, rfl, fun h => by cases h⟩
          · go_wp2
            go_ret2
            exact ⟨_, _, rfl, rfl, fun _ => ⟨by rw [HF.out], by rw [← HF.out]; exact hC⟩⟩
end Go.Proofs.Qxb6600590a.Prod
