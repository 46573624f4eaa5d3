/-
  FnJSONEscapeDecodesBack's walk.
-/
import Derived.Test.Qxb6600590aDec
namespace Go.Proofs.Qxb6600590a.JsonEsc
open Go.RowKit

theorem bytes_ok (a0 : Option Addr) (len cap : Nat) (c : Int) (w : World) (h : len ≤ 1048576) : Calls Try.prog 9 #[.slice a0 len cap, .int .u8 c] w fun e w' => e = .returned (.bool true) ∧ w' = w := by
  go_enter Try.func9, Try.ntmps9
  go_wp2
  go_ret
  exact ⟨rfl, rfl⟩

theorem bytes_no (a0 : Option Addr) (len cap : Nat) (c : Int) (w : World) (h : ¬ len ≤ 1048576) : Calls Try.prog 9 #[.slice a0 len cap, .int .u8 c] w fun e w' => e = .returned (.bool false) ∧ w' = w := by
  go_enter Try.func9, Try.ntmps9
  go_wp2
  go_ret
  exact ⟨rfl, rfl⟩

theorem zzapp (c : Int) (base n c' : Nat) (ao : Option Addr) (xs : List Value) (w : World) (hn : n ≤ 1048576) (hb : base ≤ w.heap.size) (hown : w.ownsRow base 5 1 (.slice ao n c') n xs)
    (h0 : 0 ≤ c) (h1 : c ≤ 255) : Calls Try.prog 11 #[.slice ao n c', .int .u8 c] w fun e w' =>
      ∃ g cap, e = .returned (.slice (some ⟨g, 0, none⟩) (n + (esc c).length) cap) ∧ n + (esc c).length ≤ cap ∧ Below base w w' ∧ ∀ j, j < (esc c).length → w'.cell? ⟨g, n + j, none⟩ = some (.int .u8 ((esc c).getD j 0)) := by
  go_enter Try.func11, Try.ntmps11
  go_wp2_with fail
  refine (app_any c base n c' ao xs w hn hb hown h0 h1).mono ?_
  rintro e w1 ⟨v', rfl, hown1, hbel⟩
  go_wp2
  go_ret
  have hl := (esc_len c).1
  rcases hown1.2 with ⟨_, hx⟩ | ⟨g, cap, cur, rfl, _, _, hle, _⟩
  · omega
  · refine ⟨g, cap, rfl, hle, hbel, fun j hj => ?_⟩
    rw [hown1.cellAt (n + j) (by omega), List.getElem?_append_right (by have := hown.1; omega)]
    have : n + j - xs.length = j := by have := hown.1; omega
    rw [this]
    exact getD_int _ _ _ hj

set_option maxHeartbeats 1600000 in
theorem walk_in (a0 : Option Addr) (len0 cap0 : Nat) (zs : List Int) (a1 : Int) (w : World) (hz : zs.length = len0) (hnil : a0 = none → len0 = 0 ∧ cap0 = 0) (hc : Cells w a0 (zs.map (Value.int .u8))) (h0 : 0 ≤ a1) (h1 : a1 ≤ 255) (hl : len0 ≤ 1048576) :
    Calls Try.prog 3 #[.slice a0 len0 cap0, .int .u8 a1] w fun e w' => e = .returned (.bool true) ∧ Below w.heap.size w w' := by
  go_enter Try.func3, Try.ntmps3
  go_wp2_with fail
  refine (bytes_ok a0 len0 cap0 a1 _ hl).mono ?_
  rintro e w' ⟨rfl, rfl⟩
  go_wp2_with fail
  refine (clone_any a0 len0 cap0 zs _ hl hz hnil hc).mono ?_
  rintro e w1 ⟨ao, c', rfl, hown, hbel, _⟩
  go_wp2_with fail
  refine (zzapp a1 w'.heap.size len0 c' ao _ w1 hl hbel.size hown h0 h1).mono ?_
  rintro e w2 ⟨g, cap, rfl, hcap, hbel2, hcell⟩
  have HB : Hid (Below w'.heap.size w' w2) := hbel.trans hbel2
  have hln := esc_len a1
  have hpr := esc_at a1 h0 h1
  have hdec := dec_any a1 g len0 (cap - len0) w2 h0 h1 hcell
  have HD : Hid (∀ cp, cp = cap - len0 → Calls Try.prog 12 #[.slice (some ⟨g, len0, none⟩) (esc a1).length cp] w2 fun e w' => e = .returned (.tuple #[.int .i64 a1, .int .i64 (esc a1).length, .bool true]) ∧ w' = w2) := fun cp h => by rw [h]; exact hdec
  clear hdec hbel hbel2 hown hc hnil
  generalize hm : esc a1 = ts at *
  clear hm
  obtain ⟨hl1, hl2⟩ := hln
  go_wp2_with fail
  go_loop [8] (fun i => ∃ k : Nat, k ≤ ts.length ∧ i = .int .i64 k) (fun i => ts.length - (intOf i).toNat)
  case atStart => exact ⟨0, Nat.zero_le _, rfl⟩
  case round =>
    obtain ⟨k, hk, rfl⟩ := hrel
    by_cases hlt : k < ts.length
    · have hck := hcell k hlt
      obtain ⟨hp1, hp2⟩ := hpr k hlt
      clear hcell hpr
      generalize ts.getD k 0 = t at *
      go_wp2
      go_round
      case rel => exact ⟨k + 1, by omega, by go_num⟩
      case measure => simp [intOf]; omega
    · obtain rfl : k = ts.length := by omega
      clear hcell hpr
      go_wp2_with fail
      refine (HD.out _ ?_).mono ?_
      · rfl
      rintro e w3 ⟨rfl, rfl⟩
      go_wp2
      go_ret
      exact ⟨rfl, HB.out⟩

theorem walk_out (a0 : Option Addr) (len0 cap0 : Nat) (a1 : Int) (w : World) (hl : ¬ len0 ≤ 1048576) :
    Calls Try.prog 3 #[.slice a0 len0 cap0, .int .u8 a1] w fun e w' => e = .returned (.bool true) ∧ Below w.heap.size w w' := by
  go_enter Try.func3, Try.ntmps3
  go_wp2_with fail
  refine (bytes_no a0 len0 cap0 a1 _ hl).mono ?_
  rintro e w' ⟨rfl, rfl⟩
  go_wp2
  go_ret
  exact ⟨rfl, Below.refl _ _⟩

end Go.Proofs.Qxb6600590a.JsonEsc
