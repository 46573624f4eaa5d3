/-
  decodeJSONEscape's contract, at what appendJSONEscape writes.
-/
import Derived.Test.Qxb6600590aEsc
namespace Go.Proofs.Qxb6600590a.JsonEsc
open Go.RowKit

theorem hexv_lo (d : Int) (h0 : 0 ≤ d) (h1 : d < 10) (w : World) : Calls Try.prog 28 #[.int .u8 (48 + d)] w fun e w' => e = .returned (.int .i64 d) ∧ w' = w := by
  go_enter Try.func28, Try.ntmps28
  go_wp2
  go_ret
  exact ⟨by show Ending.returned (.int .i64 (48 + d - 48)) = _; rw [show 48 + d - 48 = d from by omega], rfl⟩

theorem hexv_hi (d : Int) (h0 : 10 ≤ d) (h1 : d < 16) (w : World) : Calls Try.prog 28 #[.int .u8 (87 + d)] w fun e w' => e = .returned (.int .i64 d) ∧ w' = w := by
  go_enter Try.func28, Try.ntmps28
  go_wp2
  go_ret
  exact ⟨by show Ending.returned (.int .i64 (87 + d - 97 + 10)) = _; rw [show 87 + d - 97 + 10 = d from by omega], rfl⟩

theorem hexv (d : Int) (h0 : 0 ≤ d) (h1 : d < 16) (w : World) : Calls Try.prog 28 #[.int .u8 (hexd d)] w fun e w' => e = .returned (.int .i64 d) ∧ w' = w := by
  unfold hexd
  by_cases h : d < 10
  · rw [if_pos h]; exact hexv_lo d h0 h w
  · rw [if_neg h]; exact hexv_hi d (by omega) h1 w

set_option maxHeartbeats 800000 in
theorem dec6 (g off cap : Nat) (a b : Int) (w : World) (ha0 : 0 ≤ a) (ha1 : a < 16) (hb0 : 0 ≤ b) (hb1 : b < 16)
    (h0 : w.cell? ⟨g, off, none⟩ = some (.int .u8 92)) (h1 : w.cell? ⟨g, off + 1, none⟩ = some (.int .u8 117)) (h2 : w.cell? ⟨g, off + 2, none⟩ = some (.int .u8 (hexd 0)))
    (h3 : w.cell? ⟨g, off + 3, none⟩ = some (.int .u8 (hexd 0))) (h4 : w.cell? ⟨g, off + 4, none⟩ = some (.int .u8 (hexd a))) (h5 : w.cell? ⟨g, off + 5, none⟩ = some (.int .u8 (hexd b))) :
    Calls Try.prog 12 #[.slice (some ⟨g, off, none⟩) 6 cap] w fun e w' => e = .returned (.tuple #[.int .i64 (a * 16 + b), .int .i64 6, .bool true]) ∧ w' = w := by
  go_enter Try.func12, Try.ntmps12
  go_wp2
  refine wp_loop_rounds 5 ?_
  rw [rounds_succ]
  go_wp2_with (go_at_call 28; refine (hexv _ (by omega) (by omega) _).mono ?_; rintro e w' ⟨rfl, rfl⟩)
  rw [rounds_succ]
  go_wp2_with (go_at_call 28; refine (hexv _ (by omega) (by omega) _).mono ?_; rintro e w' ⟨rfl, rfl⟩)
  rw [rounds_succ]
  go_wp2_with (go_at_call 28; refine (hexv _ (by omega) (by omega) _).mono ?_; rintro e w' ⟨rfl, rfl⟩)
  rw [rounds_succ]
  go_wp2_with (go_at_call 28; refine (hexv _ (by omega) (by omega) _).mono ?_; rintro e w' ⟨rfl, rfl⟩)
  rw [rounds_succ]
  go_wp2_with (go_at_call 28; refine (hexv _ (by omega) (by omega) _).mono ?_; rintro e w' ⟨rfl, rfl⟩)
  go_ret3
  exact ⟨rfl, rfl⟩

theorem dec_34 (g off cap : Nat) (w : World) (h0 : w.cell? ⟨g, off, none⟩ = some (.int .u8 92)) (h1 : w.cell? ⟨g, off + 1, none⟩ = some (.int .u8 34)) :
    Calls Try.prog 12 #[.slice (some ⟨g, off, none⟩) 2 cap] w fun e w' => e = .returned (.tuple #[.int .i64 34, .int .i64 2, .bool true]) ∧ w' = w := by
  go_enter Try.func12, Try.ntmps12
  go_wp2
  go_ret3
  exact ⟨rfl, rfl⟩

theorem dec_92 (g off cap : Nat) (w : World) (h0 : w.cell? ⟨g, off, none⟩ = some (.int .u8 92)) (h1 : w.cell? ⟨g, off + 1, none⟩ = some (.int .u8 92)) :
    Calls Try.prog 12 #[.slice (some ⟨g, off, none⟩) 2 cap] w fun e w' => e = .returned (.tuple #[.int .i64 92, .int .i64 2, .bool true]) ∧ w' = w := by
  go_enter Try.func12, Try.ntmps12
  go_wp2
  go_ret3
  exact ⟨rfl, rfl⟩

theorem dec_98 (g off cap : Nat) (w : World) (h0 : w.cell? ⟨g, off, none⟩ = some (.int .u8 92)) (h1 : w.cell? ⟨g, off + 1, none⟩ = some (.int .u8 98)) :
    Calls Try.prog 12 #[.slice (some ⟨g, off, none⟩) 2 cap] w fun e w' => e = .returned (.tuple #[.int .i64 8, .int .i64 2, .bool true]) ∧ w' = w := by
  go_enter Try.func12, Try.ntmps12
  go_wp2
  go_ret3
  exact ⟨rfl, rfl⟩

theorem dec_102 (g off cap : Nat) (w : World) (h0 : w.cell? ⟨g, off, none⟩ = some (.int .u8 92)) (h1 : w.cell? ⟨g, off + 1, none⟩ = some (.int .u8 102)) :
    Calls Try.prog 12 #[.slice (some ⟨g, off, none⟩) 2 cap] w fun e w' => e = .returned (.tuple #[.int .i64 12, .int .i64 2, .bool true]) ∧ w' = w := by
  go_enter Try.func12, Try.ntmps12
  go_wp2
  go_ret3
  exact ⟨rfl, rfl⟩

theorem dec_110 (g off cap : Nat) (w : World) (h0 : w.cell? ⟨g, off, none⟩ = some (.int .u8 92)) (h1 : w.cell? ⟨g, off + 1, none⟩ = some (.int .u8 110)) :
    Calls Try.prog 12 #[.slice (some ⟨g, off, none⟩) 2 cap] w fun e w' => e = .returned (.tuple #[.int .i64 10, .int .i64 2, .bool true]) ∧ w' = w := by
  go_enter Try.func12, Try.ntmps12
  go_wp2
  go_ret3
  exact ⟨rfl, rfl⟩

theorem dec_114 (g off cap : Nat) (w : World) (h0 : w.cell? ⟨g, off, none⟩ = some (.int .u8 92)) (h1 : w.cell? ⟨g, off + 1, none⟩ = some (.int .u8 114)) :
    Calls Try.prog 12 #[.slice (some ⟨g, off, none⟩) 2 cap] w fun e w' => e = .returned (.tuple #[.int .i64 13, .int .i64 2, .bool true]) ∧ w' = w := by
  go_enter Try.func12, Try.ntmps12
  go_wp2
  go_ret3
  exact ⟨rfl, rfl⟩

theorem dec_116 (g off cap : Nat) (w : World) (h0 : w.cell? ⟨g, off, none⟩ = some (.int .u8 92)) (h1 : w.cell? ⟨g, off + 1, none⟩ = some (.int .u8 116)) :
    Calls Try.prog 12 #[.slice (some ⟨g, off, none⟩) 2 cap] w fun e w' => e = .returned (.tuple #[.int .i64 9, .int .i64 2, .bool true]) ∧ w' = w := by
  go_enter Try.func12, Try.ntmps12
  go_wp2
  go_ret3
  exact ⟨rfl, rfl⟩

theorem dec_any (c : Int) (g off cap : Nat) (w : World) (h0 : 0 ≤ c) (h1 : c ≤ 255) (hc : ∀ j, j < (esc c).length → w.cell? ⟨g, off + j, none⟩ = some (.int .u8 ((esc c).getD j 0))) :
    Calls Try.prog 12 #[.slice (some ⟨g, off, none⟩) (esc c).length cap] w fun e w' => e = .returned (.tuple #[.int .i64 c, .int .i64 (esc c).length, .bool true]) ∧ w' = w := by
  by_cases k1 : c = 34
  · subst k1; exact dec_34 g off cap w (hc 0 (by decide)) (hc 1 (by decide))
  by_cases k2 : c = 92
  · subst k2; exact dec_92 g off cap w (hc 0 (by decide)) (hc 1 (by decide))
  by_cases k3 : c = 8
  · subst k3; exact dec_98 g off cap w (hc 0 (by decide)) (hc 1 (by decide))
  by_cases k4 : c = 12
  · subst k4; exact dec_102 g off cap w (hc 0 (by decide)) (hc 1 (by decide))
  by_cases k5 : c = 10
  · subst k5; exact dec_110 g off cap w (hc 0 (by decide)) (hc 1 (by decide))
  by_cases k6 : c = 13
  · subst k6; exact dec_114 g off cap w (hc 0 (by decide)) (hc 1 (by decide))
  by_cases k7 : c = 9
  · subst k7; exact dec_116 g off cap w (hc 0 (by decide)) (hc 1 (by decide))
  have he : esc c = [92, 117, 48, 48, hexd (c / 16), hexd (c % 16)] := by
    unfold esc
    rw [if_neg (by omega), if_neg k3, if_neg k4, if_neg k5, if_neg k6, if_neg k7]
  rw [he] at hc ⊢
  refine (dec6 g off cap (c / 16) (c % 16) w (by omega) (by omega) (by omega) (by omega) (hc 0 (by simp)) (hc 1 (by simp)) (hc 2 (by simp)) (hc 3 (by simp)) (hc 4 (by simp)) (hc 5 (by simp))).mono ?_
  rintro e w' ⟨rfl, rfl⟩
  rw [show c / 16 * 16 + c % 16 = c from by omega]
  exact ⟨rfl, rfl⟩

/-- What appendJSONEscape writes is printable. -/
theorem hexd_bounds (d : Int) (h0 : 0 ≤ d) (h1 : d < 16) : 48 ≤ hexd d ∧ hexd d ≤ 102 := by
  unfold hexd
  split <;> omega

theorem esc_print (c : Int) (h0 : 0 ≤ c) (h1 : c ≤ 255) : ∀ x ∈ esc c, 32 ≤ x ∧ x ≤ 126 := by
  have a1 := hexd_bounds (c / 16) (by omega) (by omega)
  have a2 := hexd_bounds (c % 16) (by omega) (by omega)
  intro x hx
  unfold esc at hx
  split at hx
  · simp at hx; omega
  split at hx
  · simp at hx; omega
  split at hx
  · simp at hx; omega
  split at hx
  · simp at hx; omega
  split at hx
  · simp at hx; omega
  split at hx
  · simp at hx; omega
  simp at hx; omega

theorem esc_len (c : Int) : 2 ≤ (esc c).length ∧ (esc c).length ≤ 6 := by
  unfold esc
  (repeat' split) <;> simp

theorem esc_at (c : Int) (h0 : 0 ≤ c) (h1 : c ≤ 255) (j : Nat) (hj : j < (esc c).length) : 32 ≤ (esc c).getD j 0 ∧ (esc c).getD j 0 ≤ 126 := by
  refine esc_print c h0 h1 _ ?_
  simp [List.getD, hj]
end Go.Proofs.Qxb6600590a.JsonEsc
