/-
  Contracts of itemSelected and of subset.of.
-/
import Derived.Test.Qxb6600590aStrs
import Derived.Deep.RegionWith
namespace Go.Proofs.Qxb6600590a.Sub
open Go.RowKit
set_option linter.unusedVariables false

def idx (p n : Int) : Int := if p < 0 then n + p else p - 1
def selP (f s e i n : Int) : Bool :=
  if f = 0 then true else if f = 1 then (s == i + 1 || s == i - n) else if f = 2 then (decide (idx s n ≤ i) && decide (i - idx s n < e)) else (decide (idx s n ≤ i) && decide (i < idx e n))

theorem ret_int {k : IntKind} {a b : Int} (h : a = b) : Ending.returned (.int k a) = .returned (.int k b) := by rw [h]
theorem ret_bool {a b : Bool} (h : a = b) : Ending.returned (.bool a) = .returned (.bool b) := by rw [h]

theorem named (p n : Int) (w : World) (h1 : -9223372036854775808 ≤ p) (h2 : p ≤ 9223372036854775807) (h3 : 0 ≤ n) (h4 : n ≤ 1048576) :
    Calls Try.prog 30 #[.int .i64 p, .int .i64 n] w fun e w' => e = .returned (.int .i64 (idx p n)) ∧ w' = w := by
  rcases (show 0 < p ∨ p < 0 ∨ p = 0 from by omega) with h | h | h
  · have hi : idx p n = p - 1 := by unfold idx; rw [if_neg (by omega)]
    rw [hi]
    clear hi
    go_enter Try.func30, Try.ntmps30
    go_wp2
    go_ret
    exact ⟨rfl, rfl⟩
  · have hi : idx p n = n + p := by unfold idx; rw [if_pos h]
    rw [hi]
    clear hi
    go_enter Try.func30, Try.ntmps30
    go_wp2
    go_ret
    exact ⟨rfl, rfl⟩
  · subst h
    go_enter Try.func30, Try.ntmps30
    go_wp2
    go_ret
    exact ⟨rfl, rfl⟩

theorem idx_bounds (p n : Int) (h1 : -9223372036854775808 ≤ p) (h2 : p ≤ 9223372036854775807) (h3 : 0 ≤ n) (h4 : n ≤ 1048576) : n - 9223372036854775808 ≤ idx p n ∧ idx p n ≤ 9223372036854775806 := by
  unfold idx; split <;> omega

def PSel (f s en i n : Int) (w : World) (e : Ending) (w' : World) : Prop := e = .returned (.bool (selP f s en i n)) ∧ w' = w

theorem sel0 (s en i n : Int) (w : World) : Calls Try.prog 17 #[.int .i64 0, .int .i64 s, .int .i64 en, .int .i64 i, .int .i64 n] w (PSel 0 s en i n w) := by
  go_enter Try.func17, Try.ntmps17
  go_wp2
  go_ret
  exact ⟨rfl, rfl⟩

theorem sel1 (s en i n : Int) (w : World) (h0 : 0 ≤ i) (hi : i < n) (hn : n ≤ 1048576) : Calls Try.prog 17 #[.int .i64 1, .int .i64 s, .int .i64 en, .int .i64 i, .int .i64 n] w (PSel 1 s en i n w) := by
  by_cases h : s = i + 1
  · have hh : (s == i + 1) = true := by simpa using h
    have HH : Hid (s = i + 1) := h
    clear h
    go_enter Try.func17, Try.ntmps17
    go_wp2
    go_ret
    refine ⟨ret_bool ?_, rfl⟩
    simp [selP, HH.out]
  · have hh : (s == i + 1) = false := by simpa using h
    go_enter Try.func17, Try.ntmps17
    go_wp2
    go_ret
    refine ⟨ret_bool ?_, rfl⟩
    simp [selP, h]

theorem sel2 (s en i n : Int) (w : World) (h0 : 0 ≤ i) (hi : i < n) (hn : n ≤ 1048576) (h1 : -9223372036854775808 ≤ s) (h2 : s ≤ 9223372036854775807) : Calls Try.prog 17 #[.int .i64 2, .int .i64 s, .int .i64 en, .int .i64 i, .int .i64 n] w (PSel 2 s en i n w) := by
  obtain ⟨b1, b2⟩ := idx_bounds s n h1 h2 (by omega) hn
  go_enter Try.func17, Try.ntmps17
  go_wp2_with fail
  refine (named s n _ h1 h2 (by omega) hn).mono ?_
  rintro e w' ⟨rfl, rfl⟩
  have HF : Hid (selP 2 s en i n = (decide (idx s n ≤ i) && decide (i - idx s n < en))) := rfl
  by_cases hc : idx s n ≤ i
  · go_wp2
    go_ret
    refine ⟨ret_bool ?_, rfl⟩
    rw [HF.out]
    simp [hc]
  · go_wp2
    go_ret
    refine ⟨ret_bool ?_, rfl⟩
    rw [HF.out]
    simp
    omega

theorem sel3 (s en i n : Int) (w : World) (h0 : 0 ≤ i) (hi : i < n) (hn : n ≤ 1048576) (h1 : -9223372036854775808 ≤ s) (h2 : s ≤ 9223372036854775807) (h3 : -9223372036854775808 ≤ en) (h4 : en ≤ 9223372036854775807) :
    Calls Try.prog 17 #[.int .i64 3, .int .i64 s, .int .i64 en, .int .i64 i, .int .i64 n] w (PSel 3 s en i n w) := by
  have HF : Hid (selP 3 s en i n = (decide (idx s n ≤ i) && decide (i < idx en n))) := rfl
  go_enter Try.func17, Try.ntmps17
  go_wp2_with fail
  refine (named s n _ h1 h2 (by omega) hn).mono ?_
  rintro e w' ⟨rfl, rfl⟩
  by_cases hc : idx s n ≤ i
  · go_wp2_with fail
    refine (named en n _ h3 h4 (by omega) hn).mono ?_
    rintro e w' ⟨rfl, rfl⟩
    go_wp2
    go_ret
    refine ⟨ret_bool ?_, rfl⟩
    rw [HF.out]
    simp [hc]
  · go_wp2
    go_ret
    refine ⟨ret_bool ?_, rfl⟩
    rw [HF.out]
    simp
    omega

/-- What subset.of hands back: a stretch of the list. -/
def PSub (g n : Nat) (f s e : Int) (w : World) (en : Ending) (w' : World) : Prop :=
  ∃ (p m : Nat) (a' : Option Addr) (c' : Nat), en = .returned (.slice a' m c') ∧ p + m ≤ n ∧ (0 < m → a' = some ⟨g, p, none⟩) ∧ (∀ i : Nat, i < n → selP f s e i n = decide (p ≤ i ∧ i < p + m)) ∧ Below w.heap.size w w'

theorem bel2 (w : World) (o o' : Obj) : Below w.heap.size w ((w.alloc o).alloc o') := ((Below.refl _ _).alloc (Nat.le_refl _) o).alloc (by simp) o'

theorem of_all (g n cap : Nat) (s e : Int) (w : World) (hn : n ≤ 1048576) : Calls Try.prog 29 #[.agg #[.int .i64 0, .int .i64 s, .int .i64 e], .slice (some ⟨g, 0, none⟩) n cap] w (PSub g n 0 s e w) := by
  go_enter Try.func29, Try.ntmps29
  go_wp2
  go_ret
  refine ⟨0, _, _, _, rfl, by omega, fun _ => rfl, fun i hi => ?_, bel2 _ _ _⟩
  rw [Bool.eq_iff_iff]
  simp [selP]
  omega

theorem clos (p : Int) (n b : Nat) (w : World) (h1 : -9223372036854775808 ≤ p) (h2 : p ≤ 9223372036854775807) (hn : n ≤ 1048576) (hc : w.cell? ⟨b, 0, none⟩ = some (.int .i64 n)) :
    Calls Try.prog 32 #[.int .i64 p, .pointer (some ⟨b, 0, none⟩)] w fun e w' => e = .returned (.int .i64 (idx p n)) ∧ w' = w := by
  by_cases h : p < 0
  · have hi : idx p n = n + p := by unfold idx; rw [if_pos h]
    rw [hi]
    clear hi
    go_enter Try.func32, Try.ntmps32
    go_wp2
    go_ret
    exact ⟨rfl, rfl⟩
  · have hi : idx p n = p - 1 := by unfold idx; rw [if_neg h]
    rw [hi]
    clear hi
    go_enter Try.func32, Try.ntmps32
    go_wp2
    go_ret
    exact ⟨rfl, rfl⟩

theorem cell2 (w : World) (o : Obj) (n : Nat) : ((w.alloc o).alloc (.cells #[.int .i64 n] 2)).cell? ⟨w.heap.size + 1, 0, none⟩ = some (.int .i64 n) := by
  rw [World.cell?_alloc_at _ _ _ _ (by simp)]; rfl

set_option maxHeartbeats 1600000 in
theorem of_one (g n cap : Nat) (s e : Int) (w : World) (hn0 : 0 < n) (hn : n ≤ 1048576) (h1 : -9223372036854775808 ≤ s) (h2 : s ≤ 9223372036854775807) (hcap : n ≤ cap) :
    Calls Try.prog 29 #[.agg #[.int .i64 1, .int .i64 s, .int .i64 e], .slice (some ⟨g, 0, none⟩) n cap] w (PSub g n 1 s e w) := by
  have hmf : ∀ (fn : Fn) (first cap : Array Value) (w : World), (Instr.makeFunc fn first cap).run Try.prog w = .ok (.func fn first cap) w := fun _ _ _ _ => rfl
  have hq : ((n : Int) == 0) = false := by simp; omega
  obtain ⟨b1, b2⟩ := idx_bounds s n h1 h2 (by omega) (by omega)
  have HI : idx s n + 1 = (if s < 0 then (n : Int) + s + 1 else s) := by unfold idx; split <;> omega
  have HF : Hid (∀ i : Nat, selP 1 s e i n = (s == (i : Int) + 1 || s == (i : Int) - n)) := fun _ => rfl
  go_enter Try.func29, Try.ntmps29
  go_wp2_with fail
  refine (clos s n (w.heap.size + 1) _ h1 h2 hn (cell2 _ _ _)).mono ?_
  rintro e0 w' ⟨rfl, rfl⟩
  generalize idx s n = lo at *
  have HJ : Hid (lo + 1 = (if s < 0 then (n : Int) + s + 1 else s)) := HI
  clear HI
  go_wp2
  all_goals
    go_ret
    have HI := HJ.out
    first
      | (refine ⟨lo.toNat, _, _, _, rfl, by omega, fun _ => rfl, fun i hi => ?_, bel2 _ _ _⟩
         rw [Bool.eq_iff_iff, HF.out i]
         simp
         omega)
      | (refine ⟨0, _, _, _, rfl, by omega, fun _ => rfl, fun i hi => ?_, bel2 _ _ _⟩
         rw [Bool.eq_iff_iff, HF.out i]
         simp
         omega)
      | (refine ⟨0, _, _, _, rfl, by omega, fun h => absurd h (by omega), fun i hi => ?_, bel2 _ _ _⟩
         rw [Bool.eq_iff_iff, HF.out i]
         simp
         omega)

set_option maxHeartbeats 1600000 in
theorem of_run (g n cap : Nat) (s e : Int) (w : World) (hn0 : 0 < n) (hn : n ≤ 1048576) (h1 : -9223372036854775808 ≤ s) (h2 : s ≤ 9223372036854775807) (h3 : 0 ≤ e) (h4 : e ≤ 9223372036854775807) (hcap : n ≤ cap) :
    Calls Try.prog 29 #[.agg #[.int .i64 2, .int .i64 s, .int .i64 e], .slice (some ⟨g, 0, none⟩) n cap] w (PSub g n 2 s e w) := by
  have hmf : ∀ (fn : Fn) (first cap : Array Value) (w : World), (Instr.makeFunc fn first cap).run Try.prog w = .ok (.func fn first cap) w := fun _ _ _ _ => rfl
  have hq : ((n : Int) == 0) = false := by simp; omega
  obtain ⟨b1, b2⟩ := idx_bounds s n h1 h2 (by omega) (by omega)
  have HI : idx s n + 1 = (if s < 0 then (n : Int) + s + 1 else s) := by unfold idx; split <;> omega
  have HF : Hid (∀ i : Nat, selP 2 s e i n = (decide (idx s n ≤ i) && decide ((i : Int) - idx s n < e))) := fun _ => rfl
  go_enter Try.func29, Try.ntmps29
  go_wp2_with fail
  refine (clos s n (w.heap.size + 1) _ h1 h2 hn (cell2 _ _ _)).mono ?_
  rintro e0 w' ⟨rfl, rfl⟩
  generalize idx s n = lo at *
  clear HI
  rcases (show lo < 0 ∨ (0 ≤ lo ∧ lo < n) ∨ n ≤ lo from by omega) with h | ⟨h, h'⟩ | h
  · by_cases hx : e + lo < 0
    · go_wp2
      all_goals
        go_ret
        first
          | (refine ⟨lo.toNat, _, _, _, rfl, by omega, fun _ => rfl, fun i hi => ?_, bel2 _ _ _⟩
             rw [Bool.eq_iff_iff, HF.out i]
             simp
             omega)
          | (refine ⟨0, _, _, _, rfl, by omega, fun _ => rfl, fun i hi => ?_, bel2 _ _ _⟩
             rw [Bool.eq_iff_iff, HF.out i]
             simp
             omega)
          | (refine ⟨0, _, _, _, rfl, by omega, fun h => absurd h (by omega), fun i hi => ?_, bel2 _ _ _⟩
             rw [Bool.eq_iff_iff, HF.out i]
             simp
             omega)
    · by_cases hy : e + lo < n
      · go_wp2
        all_goals
          go_ret
          first
            | (refine ⟨lo.toNat, _, _, _, rfl, by omega, fun _ => rfl, fun i hi => ?_, bel2 _ _ _⟩
               rw [Bool.eq_iff_iff, HF.out i]
               simp
               omega)
            | (refine ⟨0, _, _, _, rfl, by omega, fun _ => rfl, fun i hi => ?_, bel2 _ _ _⟩
               rw [Bool.eq_iff_iff, HF.out i]
               simp
               omega)
            | (refine ⟨0, _, _, _, rfl, by omega, fun h => absurd h (by omega), fun i hi => ?_, bel2 _ _ _⟩
               rw [Bool.eq_iff_iff, HF.out i]
               simp
               omega)
      · go_wp2
        all_goals
          go_ret
          first
            | (refine ⟨lo.toNat, _, _, _, rfl, by omega, fun _ => rfl, fun i hi => ?_, bel2 _ _ _⟩
               rw [Bool.eq_iff_iff, HF.out i]
               simp
               omega)
            | (refine ⟨0, _, _, _, rfl, by omega, fun _ => rfl, fun i hi => ?_, bel2 _ _ _⟩
               rw [Bool.eq_iff_iff, HF.out i]
               simp
               omega)
            | (refine ⟨0, _, _, _, rfl, by omega, fun h => absurd h (by omega), fun i hi => ?_, bel2 _ _ _⟩
               rw [Bool.eq_iff_iff, HF.out i]
               simp
               omega)
  · by_cases hy : e < n - lo
    · go_wp2
      all_goals
        go_ret
        first
          | (refine ⟨lo.toNat, _, _, _, rfl, by omega, fun _ => rfl, fun i hi => ?_, bel2 _ _ _⟩
             rw [Bool.eq_iff_iff, HF.out i]
             simp
             omega)
          | (refine ⟨0, _, _, _, rfl, by omega, fun _ => rfl, fun i hi => ?_, bel2 _ _ _⟩
             rw [Bool.eq_iff_iff, HF.out i]
             simp
             omega)
          | (refine ⟨0, _, _, _, rfl, by omega, fun h => absurd h (by omega), fun i hi => ?_, bel2 _ _ _⟩
             rw [Bool.eq_iff_iff, HF.out i]
             simp
             omega)
    · go_wp2
      all_goals
        go_ret
        first
          | (refine ⟨lo.toNat, _, _, _, rfl, by omega, fun _ => rfl, fun i hi => ?_, bel2 _ _ _⟩
             rw [Bool.eq_iff_iff, HF.out i]
             simp
             omega)
          | (refine ⟨0, _, _, _, rfl, by omega, fun _ => rfl, fun i hi => ?_, bel2 _ _ _⟩
             rw [Bool.eq_iff_iff, HF.out i]
             simp
             omega)
          | (refine ⟨0, _, _, _, rfl, by omega, fun h => absurd h (by omega), fun i hi => ?_, bel2 _ _ _⟩
             rw [Bool.eq_iff_iff, HF.out i]
             simp
             omega)
  · go_wp2
    all_goals
      go_ret
      first
        | (refine ⟨lo.toNat, _, _, _, rfl, by omega, fun _ => rfl, fun i hi => ?_, bel2 _ _ _⟩
           rw [Bool.eq_iff_iff, HF.out i]
           simp
           omega)
        | (refine ⟨0, _, _, _, rfl, by omega, fun _ => rfl, fun i hi => ?_, bel2 _ _ _⟩
           rw [Bool.eq_iff_iff, HF.out i]
           simp
           omega)
        | (refine ⟨0, _, _, _, rfl, by omega, fun h => absurd h (by omega), fun i hi => ?_, bel2 _ _ _⟩
           rw [Bool.eq_iff_iff, HF.out i]
           simp
           omega)

end Go.Proofs.Qxb6600590a.Sub
