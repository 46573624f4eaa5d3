/-
  Contracts of the functions on slices of strings: the byte counts and the clone.
-/
import Derived.Test.Qxb6601057aRows
import Derived.Test.Qxb6601057aOpen
import Derived.Test.Qxb6601057aEnc
namespace Go.Proofs.Qxb6601057a.Strs
open Go.RowKit
set_option linter.unusedVariables false

theorem info9 : (Try.prog.info? 9).map (fun i => (i.zero, i.size, i.bytes)) = some (some (.string ByteArray.empty), 1, 16) := by kernel_rfl

/-- All the bytes of a list of strings. -/
def tot (ss : List ByteArray) : Nat := (ss.map ByteArray.size).sum

theorem tot_nil : tot [] = 0 := rfl
theorem tot_append (a b : List ByteArray) : tot (a ++ b) = tot a + tot b := by simp [tot]
theorem tot_succ (ss : List ByteArray) (k : Nat) (h : k < ss.length) : tot (ss.take (k + 1)) = tot (ss.take k) + (ss.getD k ByteArray.empty).size := by
  rw [List.take_succ_eq_append_getElem h, tot_append]
  simp [tot, List.getD, h]
theorem tot_le (ss : List ByteArray) (k : Nat) : tot (ss.take k) ≤ tot ss := by
  have h := tot_append (ss.take k) (ss.drop k)
  rw [List.take_append_drop] at h
  omega
/-- The bytes of the first k. -/
def totTo (ss : List ByteArray) (k : Nat) : Nat := tot (ss.take k)
theorem totTo_zero (ss : List ByteArray) : totTo ss 0 = 0 := rfl
theorem totTo_succ (ss : List ByteArray) (k : Nat) (h : k < ss.length) : totTo ss (k + 1) = totTo ss k + (ss.getD k ByteArray.empty).size := tot_succ ss k h
theorem totTo_full (ss : List ByteArray) : totTo ss ss.length = tot ss := by unfold totTo; rw [List.take_length]


theorem size_le_tot (ss : List ByteArray) (k : Nat) (h : k < ss.length) : (ss.getD k ByteArray.empty).size ≤ tot ss := by
  have h1 := totTo_succ ss k h
  have h2 := tot_le ss (k + 1)
  unfold totTo at h1
  omega

def P5 (ss : List ByteArray) (w : World) (e : Ending) (w' : World) : Prop := ∃ b, e = .returned (.bool b) ∧ w' = w ∧ (b = true → ss.length + tot ss ≤ 1048576)
def P6 (ss : List ByteArray) (w : World) (e : Ending) (w' : World) : Prop := ∃ b, e = .returned (.bool b) ∧ w' = w ∧ (b = true → 16 * ss.length + tot ss ≤ 1048576)

set_option maxHeartbeats 800000 in
theorem bytes5 (a : Option Addr) (cap : Nat) (ss : List ByteArray) (w : World) (hc : Cells w a (ss.map Value.string)) : Calls Try.prog 5 #[.slice a ss.length cap] w (P5 ss w) := by
  by_cases hl : ss.length ≤ 1048576
  · go_enter Try.func5, Try.ntmps5
    go_wp2
    go_loop [3, 4] (fun t i => ∃ k : Nat, k ≤ ss.length ∧ i = .int .i64 k ∧ t = .int .i64 ((ss.length + totTo ss k : Nat) : Int) ∧ ss.length + totTo ss k ≤ 1048576) (fun _ i => ss.length - (intOf i).toNat)
    case atStart => exact ⟨0, Nat.zero_le _, rfl, by simp [totTo_zero], by simp [totTo_zero]; omega⟩
    case round =>
      obtain ⟨k, hk, rfl, rfl, hb⟩ := hrel
      by_cases hlt : k < ss.length
      · obtain ⟨b, off, rfl, hbl, hcc⟩ := hc.str hlt
        have hcx := hcc k hlt
        have HT : Hid (totTo ss (k + 1) = totTo ss k + (ss.getD k ByteArray.empty).size) := totTo_succ ss k hlt
        clear hcc hc
        generalize ss.getD k ByteArray.empty = x at hcx HT
        generalize totTo ss k = T at *
        by_cases h1 : 1048576 < x.size
        · go_wp2
          go_ret
          exact ⟨_, rfl, rfl, fun h => by cases h⟩
        · by_cases h2 : 1048576 < ss.length + T + x.size
          · go_wp2
            go_ret
            exact ⟨_, rfl, rfl, fun h => by cases h⟩
          · go_wp2
            go_round
            case rel => exact ⟨k + 1, by omega, by go_num, by rw [HT.out]; go_num, by rw [HT.out]; omega⟩
            case measure => simp [intOf]; omega
      · clear hc
        obtain rfl : k = ss.length := by omega
        have hf := totTo_full ss
        have HF : Hid (totTo ss ss.length = tot ss) := hf
        clear hf
        generalize totTo ss ss.length = T at *
        go_wp2
        go_ret
        exact ⟨_, rfl, rfl, fun _ => by rw [← HF.out]; exact hb⟩
  · clear hc
    go_enter Try.func5, Try.ntmps5
    go_wp2
    go_ret
    exact ⟨_, rfl, rfl, fun h => by cases h⟩

set_option maxHeartbeats 800000 in
theorem fit6 (a : Option Addr) (cap : Nat) (ss : List ByteArray) (w : World) (hc : Cells w a (ss.map Value.string)) (hl : ss.length + tot ss ≤ 1048576) : Calls Try.prog 6 #[.slice a ss.length cap] w (P6 ss w) := by
  go_enter Try.func6, Try.ntmps6
  go_wp2
  go_loop [3, 4] (fun t i => ∃ k : Nat, k ≤ ss.length ∧ i = .int .i64 k ∧ t = .int .i64 ((16 * k + totTo ss k : Nat) : Int) ∧ 16 * k + totTo ss k ≤ 1048576) (fun _ i => ss.length - (intOf i).toNat)
  case atStart => exact ⟨0, Nat.zero_le _, rfl, by simp [totTo_zero], by simp [totTo_zero]⟩
  case round =>
    obtain ⟨k, hk, rfl, rfl, hb⟩ := hrel
    by_cases hlt : k < ss.length
    · obtain ⟨b, off, rfl, hbl, hcc⟩ := hc.str hlt
      have hcx := hcc k hlt
      have hxs := size_le_tot ss k hlt
      have HT : Hid (totTo ss (k + 1) = totTo ss k + (ss.getD k ByteArray.empty).size) := totTo_succ ss k hlt
      clear hcc hc
      generalize ss.getD k ByteArray.empty = x at hcx HT hxs
      generalize totTo ss k = T at *
      by_cases h2 : 1048576 < 16 * k + T + (16 + x.size)
      · go_wp2
        go_ret
        exact ⟨_, rfl, rfl, fun h => by cases h⟩
      · go_wp2
        go_round
        case rel => exact ⟨k + 1, by omega, by go_num, by rw [HT.out]; go_num, by rw [HT.out]; omega⟩
        case measure => simp [intOf]; omega
    · clear hc
      obtain rfl : k = ss.length := by omega
      have hf := totTo_full ss
      have HF : Hid (totTo ss ss.length = tot ss) := hf
      clear hf
      generalize totTo ss ss.length = T at *
      go_wp2
      go_ret
      exact ⟨_, rfl, rfl, fun _ => by rw [← HF.out]; exact hb⟩

set_option maxHeartbeats 800000 in
theorem clone_some (x : Addr) (len cap : Nat) (ss : List ByteArray) (w : World) (hl : len ≤ 1048576) (hz : ss.length = len) (hc : Cells w (some x) (ss.map Value.string)) :
    Calls Try.prog 7 #[.slice (some x) len cap] w fun e w' =>
      e = .returned (.slice (some ⟨w.heap.size, 0, none⟩) len len) ∧ w'.ownsRow w.heap.size 9 1 (.slice (some ⟨w.heap.size, 0, none⟩) len len) len (ss.map Value.string) ∧ Below w.heap.size w w' := by
  obtain ⟨i0, hi, hz0, hz1, hz2⟩ := info_parts info9
  have q22 : ∀ (w : World) (a : Option Addr) (n c n' c' : Nat), (binOp .eql 22 (.slice a n c) (.slice none n' c')).run Try.prog w = .ok (.bool a.isNone) w := fun w a n c n' c' => Lib.run_eql_slice_nil w 22 9 a n c n' c' Try.underlying22
  go_enter Try.func7, Try.ntmps7
  go_wp2_with (at_make; refine wpList_make_full _ rfl _ _ 22 rfl w.heap.size 9 i0 (.string ByteArray.empty) 1 Try.underlying22 hi hz0 hz1 _ _ _ _ len rfl rfl ?_ ?_ ?_ ?_ ?_ ?_)
  case refine_1 => rfl
  case refine_2 => rfl
  case refine_3 => rw [hz2]; omega
  case refine_4 => unfold maxLen; omega
  case refine_5 => exact Nat.le_refl _
  intro w1 hown1 hgrow1
  have hbel1 : Below w.heap.size w w1 := (Below.refl _ _).grown hgrow1 (Nat.le_refl _) (fun k hk => by cases hk)
  have hpz : w1.ownsRow w.heap.size 9 1 (.slice (some ⟨w.heap.size, 0, none⟩) len len) len (fill (ss.map Value.string) (.string ByteArray.empty) len 0) := by rw [fill_zero]; exact hown1
  clear hown1 hgrow1
  go_wp2
  go_loopw [4] (fun i wr => ∃ k : Nat, k ≤ len ∧ i = .int .i64 k ∧ wr.ownsRow w.heap.size 9 1 (.slice (some ⟨w.heap.size, 0, none⟩) len len) len (fill (ss.map Value.string) (.string ByteArray.empty) len k) ∧ Below w.heap.size w wr) (fun i _ => len - (intOf i).toNat)
  case atStart => exact ⟨0, Nat.zero_le _, rfl, hpz, hbel1⟩
  case round =>
    obtain ⟨k, hk, rfl, hown, hbel⟩ := hrel
    clear hpz hbel1
    by_cases hlt : k < len
    · obtain ⟨b, off, hx, hb, hcc⟩ := hc.str (j := k) (by omega)
      simp only [Option.some.injEq] at hx
      subst hx
      have hcx : wr.cell? ⟨b, off + k, none⟩ = some (.string (ss.getD k ByteArray.empty)) := (hbel.cell (by exact hb)).trans (hcc k (by omega))
      have hcd := (hown.cellAt k (by omega)).trans (fill_at _ _ _ k hlt (by simpa using hz))
      have hfd := hown.frozenAt k
      have hst := (hown.stored k (.string (ss.getD k ByteArray.empty))).1
      rw [fill_step _ _ _ _ _ hlt (by simpa using hz) (getD_str _ _ (by omega))] at hst
      have HB : Hid (Below w.heap.size w (wr.setCell ⟨w.heap.size, k, none⟩ (.string (ss.getD k ByteArray.empty)))) := hbel.setCell (Nat.le_refl _) _
      have HS : Hid ((wr.setCell ⟨w.heap.size, k, none⟩ (.string (ss.getD k ByteArray.empty))).ownsRow w.heap.size 9 1 (.slice (some ⟨w.heap.size, 0, none⟩) len len) len (fill (ss.map Value.string) (.string ByteArray.empty) len (k + 1))) := hst
      clear hst hown hc hcc
      generalize ss.getD k ByteArray.empty = z at hcx HS HB
      go_wp2
      go_roundw
      case rel => exact ⟨k + 1, by omega, by go_num, HS.out, HB.out⟩
      case measure => simp [intOf]; omega
    · obtain rfl : k = len := by omega
      rw [fill_full _ _ _ (by simpa using hz)] at hown
      go_wp2
      go_ret
      exact ⟨rfl, hown, hbel⟩

theorem clone_nil (w : World) : Calls Try.prog 7 #[.slice none 0 0] w fun e w' => e = .returned (.slice none 0 0) ∧ w' = w := by
  have q22 : ∀ (w : World) (a : Option Addr) (n c n' c' : Nat), (binOp .eql 22 (.slice a n c) (.slice none n' c')).run Try.prog w = .ok (.bool a.isNone) w := fun w a n c n' c' => Lib.run_eql_slice_nil w 22 9 a n c n' c' Try.underlying22
  go_enter Try.func7, Try.ntmps7
  go_wp2
  go_ret
  exact ⟨rfl, rfl⟩

theorem clone_any (a : Option Addr) (len cap : Nat) (ss : List ByteArray) (w : World) (hl : len ≤ 1048576) (hz : ss.length = len) (hnil : a = none → len = 0 ∧ cap = 0) (hc : Cells w a (ss.map Value.string)) :
    Calls Try.prog 7 #[.slice a len cap] w fun e w' =>
      ∃ ao c', e = .returned (.slice ao len c') ∧ w'.ownsRow w.heap.size 9 1 (.slice ao len c') len (ss.map Value.string) ∧ Below w.heap.size w w' ∧ ao.isNone = a.isNone := by
  cases a with
  | none =>
    obtain ⟨rfl, rfl⟩ := hnil rfl
    refine (clone_nil w).mono ?_
    rintro e w' ⟨rfl, rfl⟩
    obtain rfl : ss = [] := List.eq_nil_of_length_eq_zero hz
    exact ⟨none, 0, rfl, World.ownsRow_nil _ _ _ _, Below.refl _ _, rfl⟩
  | some x =>
    refine (clone_some x len cap ss w hl hz hc).mono ?_
    rintro e w' ⟨rfl, h1, h2⟩
    exact ⟨_, _, rfl, h1, h2, rfl⟩
end Go.Proofs.Qxb6601057a.Strs
