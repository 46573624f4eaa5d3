/-
  appendProduct's contract: the walks.
-/
import Derived.Test.Qxb6600590aProd
namespace Go.Proofs.Qxb6600590a.Prod
open Go.RowKit Strs Radix
set_option linter.unusedVariables false

set_option maxHeartbeats 1600000 in
theorem prod_one (base B : Nat) (ao b : Option Addr) (c capb : Nat) (r : SRow) (its : List ByteArray) (w : World) (hB : B ≤ base) (hbs : base ≤ w.heap.size) (hm : its.length ≤ 1048576) (hr : r.ss.length ≤ 65536)
    (hI : w.ownsRow base 9 1 (.slice ao its.length c) its.length (its.map Value.string)) (hG : Grid B w b [r]) (hnil : r.a = none → r.ss.length = 0 ∧ r.cap = 0) :
    Calls Try.prog 31 #[.slice ao its.length c, .slice b 1 capb] w (P31 base [r] its w) := by
  obtain ⟨i0, hi, hz0, hz1, hz2⟩ := info_parts info9
  have HP : Hid (pr [r] = r.ss.length) := by show pr [r] = _; simp [pr]
  obtain ⟨bb, boff, rfl, _, hbw, hrow, hLs⟩ := hG.row (k := 0) (by simp)
  have hcr := hrow 0 (by simp)
  have hcr1 : (w.alloc (.cells #[.slice (some ⟨bb, boff, none⟩) 1 capb] 36)).cell? ⟨bb, boff, none⟩ = some r.val := by
    rw [World.cell?_alloc_past _ _ _ (by exact hbw)]
    simpa [List.getD] using hcr
  have hLs1 : Lies B (w.alloc (.cells #[.slice (some ⟨bb, boff, none⟩) 1 capb] 36)) r.a (r.ss.map Value.string) := by
    have h := hLs.below ((Below.refl B w).alloc (by omega) (.cells #[.slice (some ⟨bb, boff, none⟩) 1 capb] 36))
    simpa [List.getD] using h
  have HO : Hid (outsTo [r] r.ss.length = r.ss) := outs_one r
  clear hrow hcr hLs hG
  obtain ⟨ra, rc, rs⟩ := r
  simp only [SRow.val] at hcr1 hLs1 hnil hr
  cases ra with
  | none =>
    obtain ⟨h1, h2⟩ := hnil rfl
    obtain rfl : rs = [] := List.eq_nil_of_length_eq_zero h1
    obtain rfl : rc = 0 := h2
    go_enter Try.func31, Try.ntmps31
    go_wp2_with (at_builtin; refine wpList_append_own_none rfl _ _ 28 rfl base 9 i0 1 Try.underlying28 hi _ _ _ rfl (hI.alloc _) rfl ?_)
    go_wp2
    go_ret
    refine ⟨ao, c, ?_, ?_, (Below.refl _ _).alloc hbs _⟩
    · rw [HP.out]; rfl
    · rw [HP.out, HO.out]
      simpa using hI.alloc _
  | some ad =>
    go_enter Try.func31, Try.ntmps31
    go_wp2_with (at_builtin; refine wpList_append_own _ rfl _ _ 28 rfl base 9 i0 (.string ByteArray.empty) 1 16 Try.underlying28 hi hz0 hz1 hz2 rfl (by decide) _ _ _ rfl (hI.alloc _) ad rs.length rc (rs.map Value.string) rfl ?_ ?_ ?_ ?_ ?_ ?_ ?_)
    case refine_2 =>
      intro j x hx
      rcases hLs1 with h | ⟨b', off', ha, _, _, hc⟩
      · have : rs = [] := by simpa using h
        rw [this] at hx; simp at hx
      · simp only [Option.some.injEq] at ha
        subst ha
        rw [Go.WideShapes.add_plain]
        exact hc j _ (by simp [hx])
    case refine_3 => intro x _; rfl
    case refine_4 => unfold maxLen; omega
    case refine_5 => omega
    case refine_6 => omega
    intro v' w1 hown1 hgrow1 _
    go_wp2
    go_ret
    obtain ⟨ao', c', rfl⟩ := own_form hown1
    refine ⟨ao', c', ?_, ?_, ((Below.refl _ _).alloc hbs _).trans (Below.grow (hI.alloc _) (by simp; omega) hgrow1)⟩
    · rw [HP.out]; rfl
    · rw [HP.out, HO.out, List.map_append]
      exact hown1
end Go.Proofs.Qxb6600590a.Prod
