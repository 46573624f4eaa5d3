/-
  appendProduct's contract: no stretch, or two and more, none of them empty; and one that is empty among them.
-/
import Derived.Test.Qxb6600590aProd2
namespace Go.Proofs.Qxb6600590a.Prod
open Go.RowKit Strs Radix
set_option linter.unusedVariables false

theorem prod_pos (l : List Nat) (h : ∀ x, x ∈ l → 0 < x) : 0 < l.prod := by
  induction l with
  | nil => simp
  | cons a l ih => rw [List.prod_cons]; exact Nat.mul_pos (h a List.mem_cons_self) (ih fun x hx => h x (List.mem_cons_of_mem _ hx))

theorem prTo_le (rows : List SRow) (k : Nat) (h : ∀ r, r ∈ rows → 0 < r.ss.length) : prTo rows k ≤ pr rows := by
  have h1 : rows = rows.take k ++ rows.drop k := (List.take_append_drop _ _).symm
  have h2 : pr rows = prTo rows k * pr (rows.drop k) := by
    conv => lhs; rw [h1]
    unfold prTo pr
    rw [List.map_append, List.prod_append]
  have h3 : 0 < pr (rows.drop k) := by
    unfold pr
    apply prod_pos
    intro x hx
    obtain ⟨r, hr, rfl⟩ := List.mem_map.1 hx
    exact h r (List.mem_of_mem_drop hr)
  rw [h2]
  exact Nat.le_mul_of_pos_right _ h3

/-- The closure's variable, as an owned row of one cell. -/
theorem box_own (w : World) (v : Value) (base : Nat) (hb : base ≤ w.heap.size) : (w.alloc (.cells #[v] 36)).ownsRow base 36 1 (.slice (some ⟨w.heap.size, 0, none⟩) 1 1) 1 [v] :=
  World.ownsRow_lit w #[v] 1 hb (by unfold maxLen; omega) rfl

theorem pts_zero (L : List Nat) (n : Nat) (h : L.length = n) : (madeCells #[Value.int .i64 0] n).toList = pts (digs L 0) := by
  have h1 := fill_zero [] (.int .i64 0) n
  simp only [fill, List.take_nil, List.nil_append, Nat.sub_zero] at h1
  rw [← h1, digs_zero, h]
  simp [pts]

theorem wrap0 : wrap64 0 = 0 := by unfold wrap64; omega

set_option maxHeartbeats 4000000 in
theorem prod_zero (base B : Nat) (ao b : Option Addr) (c capb : Nat) (rows : List SRow) (its : List ByteArray) (w : World) (hB : B ≤ base) (hbs : base ≤ w.heap.size) (hm : its.length ≤ 1048576) (hsz : 24 * rows.length + gtot rows ≤ 1048576)
    (hI : w.ownsRow base 9 1 (.slice ao its.length c) its.length (its.map Value.string)) (hG : Grid B w b rows) (h1 : rows.length ≠ 1) (z : Nat) (hz : z < rows.length) (hz0 : (rows.getD z SRow.zero).ss.length = 0) :
    Calls Try.prog 31 #[.slice ao its.length c, .slice b rows.length capb] w (P31 base rows its w) := by
  obtain ⟨i0, hi, hi0, hi1, hi2⟩ := info_parts info3
  have HP : Hid (pr rows = 0) := pr_zero rows z hz hz0
  have HZ : Hid ((rows.getD z SRow.zero).ss.length = 0) := hz0
  have hne : ((rows.length : Int) == 1) = false := by simp; omega
  have HG : Hid (Grid B (w.alloc (.cells #[.slice b rows.length capb] 36)) b rows) := hG.below ((Below.refl B w).alloc (by omega) _)
  have hmf : ∀ (fn : Fn) (first cap : Array Value) (w : World), (Instr.makeFunc fn first cap).run Try.prog w = .ok (.func fn first cap) w := fun _ _ _ _ => rfl
  clear hz0 hG
  go_enter Try.func31, Try.ntmps31
  go_wp2
  go_loop [5, 23] (fun cv iv => ∃ (k : Nat) (C : Int), k ≤ rows.length ∧ iv = .int .i64 k ∧ cv = .int .i64 C ∧ (z < k → C = 0)) (fun _ iv => rows.length - (intOf iv).toNat)
  case atStart => exact ⟨0, 1, Nat.zero_le _, rfl, rfl, fun h => absurd h (by omega)⟩
  case round =>
    obtain ⟨k, C, hk, rfl, rfl, hC⟩ := hrel
    have HC : Hid (z < k → C = 0) := hC
    clear hC
    by_cases hlt : k < rows.length
    · obtain ⟨bb, boff, rfl, _, hbw, hrow, _⟩ := HG.out.row hlt
      have hcr := hrow k hlt
      have HZ2 : Hid (k = z → (rows.getD k SRow.zero).ss.length = 0) := fun h => by rw [h]; exact HZ.out
      clear hrow HG
      generalize rows.getD k SRow.zero = r at *
      obtain ⟨ra, rc, rs⟩ := r
      simp only [SRow.val] at hcr HZ2
      go_wp2
      go_round
      case rel =>
        refine ⟨k + 1, _, by omega, by go_num, rfl, fun h => ?_⟩
        by_cases hkz : k = z
        · rw [HZ2.out hkz]; simp [wrap0]
        · rw [HC.out (by omega)]; simp [wrap0]
      case measure => simp [intOf]; omega
    · obtain rfl : C = 0 := HC.out (by omega)
      clear HC HG
      go_wp2_with (at_make; refine wpList_make_full _ rfl _ _ 52 rfl base 3 i0 (.int .i64 0) 1 Try.underlying52 hi hi0 hi1 _ _ _ _ rows.length rfl rfl ?_ ?_ ?_ ?_ ?_ ?_)
      case refine_1 => rfl
      case refine_2 => rfl
      case refine_3 => omega
      case refine_4 => unfold maxLen; omega
      case refine_5 => omega
      intro w1 hown1 hgrow1
      have hItems := (hI.alloc (.cells #[.slice b rows.length capb] 36)).kept hgrow1 (by cases ao <;> simp [Value.ownBlock])
      have hBel : Below base w w1 := ((Below.refl base w).alloc hbs (.cells #[.slice b rows.length capb] 36)).grown hgrow1 (by simp; omega) (fun k hk => by cases hk)
      have HI : Hid _ := hItems
      have HB : Hid _ := hBel
      clear hown1 hgrow1 hItems hBel hI
      go_wp2
      refine wp_loop_rounds 1 ?_
      rw [rounds_succ]
      go_wp2
      go_ret
      refine ⟨ao, c, ?_, ?_, HB.out⟩
      · rw [HP.out]; rfl
      · rw [HP.out]
        show w1.ownsRow base 9 1 (.slice ao its.length c) its.length ((its ++ []).map Value.string)
        rw [List.append_nil]
        exact HI.out
end Go.Proofs.Qxb6600590a.Prod
