/-
  appendJSONEscape's contract.
-/
import Derived.Test.Qxb6600590aBytes
import Derived.Lib.AppendStr
import Derived.Deep.AppendLies
import Derived.Deep.RegionLaw
namespace Go.Proofs.Qxb6600590a.JsonEsc
open Go.RowKit

def hexd (d : Int) : Int := if d < 10 then 48 + d else 87 + d
def esc (c : Int) : List Int :=
  if c = 34 ∨ c = 92 then [92, c] else if c = 8 then [92, 98] else if c = 12 then [92, 102] else if c = 10 then [92, 110] else if c = 13 then [92, 114] else if c = 9 then [92, 116]
  else [92, 117, 48, 48, hexd (c / 16), hexd (c % 16)]

/-- What every way of appendJSONEscape ends in. -/
def Grew (base n : Nat) (xs : List Value) (w : World) (news : List Int) (e : Ending) (w' : World) : Prop :=
  ∃ v', e = .returned v' ∧ w'.ownsRow base 5 1 v' (n + news.length) (xs ++ news.map (Value.int .u8)) ∧ Below base w w'

theorem below_own {base : Nat} {w w' : World} {v : Value} {e : TypeId} {size n : Nat} {xs : List Value} (hown : w.ownsRow base e size v n xs) (hb : base ≤ w.heap.size) (hg : w.grownBy w' v.ownBlock) : Below base w w' :=
  (Below.refl _ _).grown hg hb (fun k hk => (hown.lt k hk).1)

set_option maxHeartbeats 800000 in
theorem app_8 (base n c' : Nat) (ao : Option Addr) (xs : List Value) (w : World) (hn : n ≤ 1048576) (hb : base ≤ w.heap.size) (hown : w.ownsRow base 5 1 (.slice ao n c') n xs) :
    Calls Try.prog 27 #[.slice ao n c', .int .u8 8] w (Grew base n xs w [92, 98]) := by
  obtain ⟨i0, hi, hz0, hz1, hz2⟩ := info_parts info5
  go_enter Try.func27, Try.ntmps27
  go_wp2_with (at_builtin; refine Lib.wpList_append_own_string _ rfl _ _ 22 9 rfl base 5 i0 Try.underlying22 Try.underlying9 hi hz0 hz1 hz2 _ n xs rfl hown _ rfl ?_ ?_ hb ?_)
  case refine_1 => show n + 2 ≤ maxLen; unfold maxLen; omega
  case refine_2 => show n + 2 ≤ _; omega
  intro v' w1 hown1 hgrow1 _
  go_wp2
  go_ret
  exact ⟨_, rfl, hown1, below_own hown hb hgrow1⟩

set_option maxHeartbeats 800000 in
theorem app_12 (base n c' : Nat) (ao : Option Addr) (xs : List Value) (w : World) (hn : n ≤ 1048576) (hb : base ≤ w.heap.size) (hown : w.ownsRow base 5 1 (.slice ao n c') n xs) :
    Calls Try.prog 27 #[.slice ao n c', .int .u8 12] w (Grew base n xs w [92, 102]) := by
  obtain ⟨i0, hi, hz0, hz1, hz2⟩ := info_parts info5
  go_enter Try.func27, Try.ntmps27
  go_wp2_with (at_builtin; refine Lib.wpList_append_own_string _ rfl _ _ 22 9 rfl base 5 i0 Try.underlying22 Try.underlying9 hi hz0 hz1 hz2 _ n xs rfl hown _ rfl ?_ ?_ hb ?_)
  case refine_1 => show n + 2 ≤ maxLen; unfold maxLen; omega
  case refine_2 => show n + 2 ≤ _; omega
  intro v' w1 hown1 hgrow1 _
  go_wp2
  go_ret
  exact ⟨_, rfl, hown1, below_own hown hb hgrow1⟩

set_option maxHeartbeats 800000 in
theorem app_10 (base n c' : Nat) (ao : Option Addr) (xs : List Value) (w : World) (hn : n ≤ 1048576) (hb : base ≤ w.heap.size) (hown : w.ownsRow base 5 1 (.slice ao n c') n xs) :
    Calls Try.prog 27 #[.slice ao n c', .int .u8 10] w (Grew base n xs w [92, 110]) := by
  obtain ⟨i0, hi, hz0, hz1, hz2⟩ := info_parts info5
  go_enter Try.func27, Try.ntmps27
  go_wp2_with (at_builtin; refine Lib.wpList_append_own_string _ rfl _ _ 22 9 rfl base 5 i0 Try.underlying22 Try.underlying9 hi hz0 hz1 hz2 _ n xs rfl hown _ rfl ?_ ?_ hb ?_)
  case refine_1 => show n + 2 ≤ maxLen; unfold maxLen; omega
  case refine_2 => show n + 2 ≤ _; omega
  intro v' w1 hown1 hgrow1 _
  go_wp2
  go_ret
  exact ⟨_, rfl, hown1, below_own hown hb hgrow1⟩

set_option maxHeartbeats 800000 in
theorem app_13 (base n c' : Nat) (ao : Option Addr) (xs : List Value) (w : World) (hn : n ≤ 1048576) (hb : base ≤ w.heap.size) (hown : w.ownsRow base 5 1 (.slice ao n c') n xs) :
    Calls Try.prog 27 #[.slice ao n c', .int .u8 13] w (Grew base n xs w [92, 114]) := by
  obtain ⟨i0, hi, hz0, hz1, hz2⟩ := info_parts info5
  go_enter Try.func27, Try.ntmps27
  go_wp2_with (at_builtin; refine Lib.wpList_append_own_string _ rfl _ _ 22 9 rfl base 5 i0 Try.underlying22 Try.underlying9 hi hz0 hz1 hz2 _ n xs rfl hown _ rfl ?_ ?_ hb ?_)
  case refine_1 => show n + 2 ≤ maxLen; unfold maxLen; omega
  case refine_2 => show n + 2 ≤ _; omega
  intro v' w1 hown1 hgrow1 _
  go_wp2
  go_ret
  exact ⟨_, rfl, hown1, below_own hown hb hgrow1⟩

set_option maxHeartbeats 800000 in
theorem app_9 (base n c' : Nat) (ao : Option Addr) (xs : List Value) (w : World) (hn : n ≤ 1048576) (hb : base ≤ w.heap.size) (hown : w.ownsRow base 5 1 (.slice ao n c') n xs) :
    Calls Try.prog 27 #[.slice ao n c', .int .u8 9] w (Grew base n xs w [92, 116]) := by
  obtain ⟨i0, hi, hz0, hz1, hz2⟩ := info_parts info5
  go_enter Try.func27, Try.ntmps27
  go_wp2_with (at_builtin; refine Lib.wpList_append_own_string _ rfl _ _ 22 9 rfl base 5 i0 Try.underlying22 Try.underlying9 hi hz0 hz1 hz2 _ n xs rfl hown _ rfl ?_ ?_ hb ?_)
  case refine_1 => show n + 2 ≤ maxLen; unfold maxLen; omega
  case refine_2 => show n + 2 ≤ _; omega
  intro v' w1 hown1 hgrow1 _
  go_wp2
  go_ret
  exact ⟨_, rfl, hown1, below_own hown hb hgrow1⟩

set_option maxHeartbeats 800000 in
theorem app_34 (base n c' : Nat) (ao : Option Addr) (xs : List Value) (w : World) (hn : n ≤ 1048576) (hb : base ≤ w.heap.size) (hown : w.ownsRow base 5 1 (.slice ao n c') n xs) :
    Calls Try.prog 27 #[.slice ao n c', .int .u8 34] w (Grew base n xs w [92, 34]) := by
  obtain ⟨i0, hi, hz0, hz1, hz2⟩ := info_parts info5
  go_enter Try.func27, Try.ntmps27
  go_wp2_with (at_builtin; refine wpList_append_own _ rfl _ _ 22 rfl base 5 i0 (.int .u8 0) 1 1 Try.underlying22 hi hz0 hz1 hz2 rfl (by decide) _ _ _ rfl (hown.alloc _) ⟨w.heap.size, 0, none⟩ 2 2 [.int .u8 92, .int .u8 34] rfl rfl ?_ ?_ ?_ ?_ ?_ ?_)
  case refine_1 => exact World.news_of_block (cs := #[.int .u8 92, .int .u8 34]) (heap_alloc_new w _)
  case refine_2 => exact ints_oneCell .u8 [92, 34]
  case refine_3 => unfold maxLen; omega
  case refine_4 => omega
  case refine_5 => simp; omega
  intro v' w1 hown1 hgrow1 _
  go_wp2
  go_ret
  exact ⟨_, rfl, hown1, ((Below.refl _ _).alloc hb _).trans (below_own (hown.alloc _) (by simp; omega) hgrow1)⟩

set_option maxHeartbeats 800000 in
theorem app_92 (base n c' : Nat) (ao : Option Addr) (xs : List Value) (w : World) (hn : n ≤ 1048576) (hb : base ≤ w.heap.size) (hown : w.ownsRow base 5 1 (.slice ao n c') n xs) :
    Calls Try.prog 27 #[.slice ao n c', .int .u8 92] w (Grew base n xs w [92, 92]) := by
  obtain ⟨i0, hi, hz0, hz1, hz2⟩ := info_parts info5
  go_enter Try.func27, Try.ntmps27
  go_wp2_with (at_builtin; refine wpList_append_own _ rfl _ _ 22 rfl base 5 i0 (.int .u8 0) 1 1 Try.underlying22 hi hz0 hz1 hz2 rfl (by decide) _ _ _ rfl (hown.alloc _) ⟨w.heap.size, 0, none⟩ 2 2 [.int .u8 92, .int .u8 92] rfl rfl ?_ ?_ ?_ ?_ ?_ ?_)
  case refine_1 => exact World.news_of_block (cs := #[.int .u8 92, .int .u8 92]) (heap_alloc_new w _)
  case refine_2 => exact ints_oneCell .u8 [92, 92]
  case refine_3 => unfold maxLen; omega
  case refine_4 => omega
  case refine_5 => simp; omega
  intro v' w1 hown1 hgrow1 _
  go_wp2
  go_ret
  exact ⟨_, rfl, hown1, ((Below.refl _ _).alloc hb _).trans (below_own (hown.alloc _) (by simp; omega) hgrow1)⟩

theorem hex_at (d : Int) (h0 : 0 ≤ d) (h1 : d < 16) (w : World) : (Instr.index 9 (.string ⟨#[48, 49, 50, 51, 52, 53, 54, 55, 56, 57, 97, 98, 99, 100, 101, 102]⟩) (.int .u8 d)).run Try.prog w = .ok (.int .u8 (hexd d)) w := by
  obtain ⟨n, rfl⟩ := Int.eq_ofNat_of_zero_le h0
  rcases (show n = 0 ∨ n = 1 ∨ n = 2 ∨ n = 3 ∨ n = 4 ∨ n = 5 ∨ n = 6 ∨ n = 7 ∨ n = 8 ∨ n = 9 ∨ n = 10 ∨ n = 11 ∨ n = 12 ∨ n = 13 ∨ n = 14 ∨ n = 15 from by omega) with rfl | rfl | rfl | rfl | rfl | rfl | rfl | rfl | rfl | rfl | rfl | rfl | rfl | rfl | rfl | rfl <;> kernel_rfl

theorem and15 (c : Int) (h0 : 0 ≤ c) (h1 : c ≤ 255) : bits .and .u8 c 15 = c % 16 := by
  rw [u8_and c 15 h0 (by omega) (by omega) (by omega)]
  have h : c.toNat &&& (2 ^ 4 - 1) = c.toNat % 2 ^ 4 := Nat.and_two_pow_sub_one_eq_mod _ _
  have e : (15 : Int).toNat = 2 ^ 4 - 1 := rfl
  rw [e, h]
  omega

set_option maxHeartbeats 800000 in
theorem app_hex (c : Int) (base n c' : Nat) (ao : Option Addr) (xs : List Value) (w : World) (hn : n ≤ 1048576) (hb : base ≤ w.heap.size) (hown : w.ownsRow base 5 1 (.slice ao n c') n xs)
    (h0 : 0 ≤ c) (h1 : c ≤ 255) (k1 : (c == 34) = false) (k2 : (c == 92) = false) (k3 : (c == 8) = false) (k4 : (c == 12) = false) (k5 : (c == 10) = false) (k6 : (c == 13) = false) (k7 : (c == 9) = false) :
    Calls Try.prog 27 #[.slice ao n c', .int .u8 c] w (Grew base n xs w [92, 117, 48, 48, hexd (c / 16), hexd (c % 16)]) := by
  obtain ⟨i0, hi, hz0, hz1, hz2⟩ := info_parts info5
  go_enter Try.func27, Try.ntmps27
  have x1 := hex_at (c / 16) (by omega) (by omega)
  have x2 := hex_at (c % 16) (by omega) (by omega)
  have x3 := and15 c h0 h1
  have hm : n + 6 ≤ maxLen := by unfold maxLen; omega
  have hO : Hid ((w.alloc (.cells #[.int .u8 92, .int .u8 117, .int .u8 48, .int .u8 48, .int .u8 (hexd (c / 16)), .int .u8 (hexd (c % 16))] 5)).drew.ownsRow base 5 1 (.slice ao n c') n xs) := (hown.alloc _).drew
  have hN : Hid (∀ j u, [Value.int .u8 92, .int .u8 117, .int .u8 48, .int .u8 48, .int .u8 (hexd (c / 16)), .int .u8 (hexd (c % 16))][j]? = some u → (w.alloc (.cells #[.int .u8 92, .int .u8 117, .int .u8 48, .int .u8 48, .int .u8 (hexd (c / 16)), .int .u8 (hexd (c % 16))] 5)).drew.cell? ((⟨w.heap.size, 0, none⟩ : Addr).add j) = some u) :=
    World.news_of_block (w := (w.alloc (.cells #[.int .u8 92, .int .u8 117, .int .u8 48, .int .u8 48, .int .u8 (hexd (c / 16)), .int .u8 (hexd (c % 16))] 5)).drew) (cs := #[.int .u8 92, .int .u8 117, .int .u8 48, .int .u8 48, .int .u8 (hexd (c / 16)), .int .u8 (hexd (c % 16))]) (heap_alloc_new w _)
  go_wp2
  go_region_law ((refine step_append_lies _ (by rfl) _ _ 22 (by rfl) base 5 i0 (.int .u8 0) 1 1 Try.underlying22 hi hz0 hz1 hz2 rfl (by decide) _ n xs (by rfl) hO.out ⟨w.heap.size, 0, none⟩ 6 6 [.int .u8 92, .int .u8 117, .int .u8 48, .int .u8 48, .int .u8 (hexd (c / 16)), .int .u8 (hexd (c % 16))] (by rfl) rfl hN.out (by exact ints_oneCell .u8 [92, 117, 48, 48, hexd (c / 16), hexd (c % 16)]) (by decide) hm (by omega) (by simp; omega) (w.heap.size + 1) (by simp) ?_; intro g cap w1 hown1 hgrow1 hat hlt))
  all_goals
    go_wp2
    go_ret
    exact ⟨_, rfl, hown1, ((Below.refl _ _).alloc hb _).drew.trans (below_own hO.out (by simp; omega) hgrow1)⟩

theorem app_any (c : Int) (base n c' : Nat) (ao : Option Addr) (xs : List Value) (w : World) (hn : n ≤ 1048576) (hb : base ≤ w.heap.size) (hown : w.ownsRow base 5 1 (.slice ao n c') n xs)
    (h0 : 0 ≤ c) (h1 : c ≤ 255) : Calls Try.prog 27 #[.slice ao n c', .int .u8 c] w (Grew base n xs w (esc c)) := by
  by_cases k1 : c = 34
  · subst k1; exact app_34 base n c' ao xs w hn hb hown
  by_cases k2 : c = 92
  · subst k2; exact app_92 base n c' ao xs w hn hb hown
  by_cases k3 : c = 8
  · subst k3; exact app_8 base n c' ao xs w hn hb hown
  by_cases k4 : c = 12
  · subst k4; exact app_12 base n c' ao xs w hn hb hown
  by_cases k5 : c = 10
  · subst k5; exact app_10 base n c' ao xs w hn hb hown
  by_cases k6 : c = 13
  · subst k6; exact app_13 base n c' ao xs w hn hb hown
  by_cases k7 : c = 9
  · subst k7; exact app_9 base n c' ao xs w hn hb hown
  have he : esc c = [92, 117, 48, 48, hexd (c / 16), hexd (c % 16)] := by
    unfold esc
    rw [if_neg (by omega), if_neg k3, if_neg k4, if_neg k5, if_neg k6, if_neg k7]
  rw [he]
  exact app_hex c base n c' ao xs w hn hb hown h0 h1 (by simpa using k1) (by simpa using k2) (by simpa using k3) (by simpa using k4) (by simpa using k5) (by simpa using k6) (by simpa using k7)
end Go.Proofs.Qxb6600590a.JsonEsc
