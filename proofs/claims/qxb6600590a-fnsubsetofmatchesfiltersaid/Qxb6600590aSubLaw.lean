/-
  FnSubsetOfMatchesFilter's walk.
-/
import Derived.Test.Qxb6600590aSpan
import Derived.Test.Qxb6600590aOpen
namespace Go.Proofs.Qxb6600590a.Sub
open Go.RowKit Strs
set_option linter.unusedVariables false

theorem of_zero (f s e : Int) (ao : Option Addr) (cap g : Nat) (w : World) (hf : (f == 0) = false) : Calls Try.prog 29 #[.agg #[.int .i64 f, .int .i64 s, .int .i64 e], .slice ao 0 cap] w (PSub g 0 f s e w) := by
  go_enter Try.func29, Try.ntmps29
  go_wp2
  go_ret
  exact ⟨0, _, _, _, rfl, by omega, fun h => absurd h (by omega), fun i hi => absurd hi (by omega), bel2 _ _ _⟩

theorem of_zero0 (s e : Int) (ao : Option Addr) (cap g : Nat) (w : World) : Calls Try.prog 29 #[.agg #[.int .i64 0, .int .i64 s, .int .i64 e], .slice ao 0 cap] w (PSub g 0 0 s e w) := by
  go_enter Try.func29, Try.ntmps29
  go_wp2
  go_ret
  exact ⟨0, _, _, _, rfl, by omega, fun h => absurd h (by omega), fun i hi => absurd hi (by omega), bel2 _ _ _⟩

theorem of_any (f s e : Int) (ao : Option Addr) (n cap g : Nat) (w : World) (hn : n ≤ 1048576) (h1 : -9223372036854775808 ≤ s) (h2 : s ≤ 9223372036854775807) (h3 : -9223372036854775808 ≤ e) (h4 : e ≤ 9223372036854775807)
    (hf0 : 0 ≤ f) (hf3 : f ≤ 3) (hr : f = 2 → 0 ≤ e) (hcap : n ≤ cap) (hao : 0 < n → ao = some ⟨g, 0, none⟩) : Calls Try.prog 29 #[.agg #[.int .i64 f, .int .i64 s, .int .i64 e], .slice ao n cap] w (PSub g n f s e w) := by
  by_cases hz : n = 0
  · subst hz
    by_cases hf : f = 0
    · subst hf; exact of_zero0 s e ao cap g w
    · exact of_zero f s e ao cap g w (by simpa using hf)
  · obtain rfl := hao (by omega)
    rcases (show f = 0 ∨ f = 1 ∨ f = 2 ∨ f = 3 from by omega) with rfl | rfl | rfl | rfl
    · exact of_all g n cap s e w hn
    · exact of_one g n cap s e w (by omega) hn h1 h2 hcap
    · exact of_run g n cap s e w (by omega) hn h1 h2 (hr rfl) h4 hcap
    · exact of_span g n cap s e w (by omega) hn h1 h2 h3 h4 hcap

theorem zzsub (f s e : Int) (ao : Option Addr) (n cap g : Nat) (w : World) (hn : n ≤ 1048576) (h1 : -9223372036854775808 ≤ s) (h2 : s ≤ 9223372036854775807) (h3 : -9223372036854775808 ≤ e) (h4 : e ≤ 9223372036854775807)
    (hf0 : 0 ≤ f) (hf3 : f ≤ 3) (hr : f = 2 → 0 ≤ e) (hcap : n ≤ cap) (hao : 0 < n → ao = some ⟨g, 0, none⟩) : Calls Try.prog 16 #[.int .i64 f, .int .i64 s, .int .i64 e, .slice ao n cap] w (PSub g n f s e w) := by
  have HH : Hid (Calls Try.prog 29 #[.agg #[.int .i64 f, .int .i64 s, .int .i64 e], .slice ao n cap] w (PSub g n f s e w)) := of_any f s e ao n cap g w hn h1 h2 h3 h4 hf0 hf3 hr hcap hao
  clear hr hao
  go_enter Try.func16, Try.ntmps16
  go_wp2_with fail
  refine HH.out.mono ?_
  rintro en w' ⟨p, m, a', c', rfl, rest⟩
  have HR : Hid (p + m ≤ n ∧ (0 < m → a' = some ⟨g, p, none⟩) ∧ (∀ i : Nat, i < n → selP f s e i n = decide (p ≤ i ∧ i < p + m)) ∧ Below w.heap.size w w') := rest
  clear rest
  go_wp2
  go_ret
  exact ⟨p, m, a', c', rfl, HR.out⟩

theorem sel_any (f s en i n : Int) (w : World) (h0 : 0 ≤ i) (hi : i < n) (hn : n ≤ 1048576) (h1 : -9223372036854775808 ≤ s) (h2 : s ≤ 9223372036854775807) (h3 : -9223372036854775808 ≤ en) (h4 : en ≤ 9223372036854775807) (hf0 : 0 ≤ f) (hf3 : f ≤ 3) :
    Calls Try.prog 17 #[.int .i64 f, .int .i64 s, .int .i64 en, .int .i64 i, .int .i64 n] w (PSel f s en i n w) := by
  rcases (show f = 0 ∨ f = 1 ∨ f = 2 ∨ f = 3 from by omega) with rfl | rfl | rfl | rfl
  · exact sel0 s en i n w
  · exact sel1 s en i n w h0 hi hn
  · exact sel2 s en i n w h0 hi hn h1 h2
  · exact sel3 s en i n w h0 hi hn h1 h2 h3 h4


def cnt (j p m : Nat) : Nat := min (j - p) m

def Goal (w : World) (e : Ending) (w' : World) : Prop := e = .returned (.bool true) ∧ Below w.heap.size w w'

set_option maxHeartbeats 1600000 in
theorem walk_in (f s en : Int) (a : Option Addr) (cap : Nat) (ss : List ByteArray) (w : World) (hnil : a = none → ss.length = 0 ∧ cap = 0) (hc : Cells w a (ss.map Value.string))
    (h1 : -9223372036854775808 ≤ s) (h2 : s ≤ 9223372036854775807) (h3 : -9223372036854775808 ≤ en) (h4 : en ≤ 9223372036854775807) :
    Calls Try.prog 4 #[.int .i64 f, .int .i64 s, .int .i64 en, .slice a ss.length cap] w (Goal w) := by
  go_enter Try.func4, Try.ntmps4
  go_wp2_with fail
  refine (bytes13 f s en a cap ss _ hc).mono ?_
  rintro e w' ⟨b, rfl, rfl, hb⟩
  cases b with
  | false =>
    clear hb hc hnil
    go_wp2
    go_ret
    exact ⟨rfl, Below.refl _ _⟩
  | true =>
    have hl := hb rfl
    clear hb
    go_wp2_with fail
    refine (bytes14 a cap ss _ hc).mono ?_
    rintro e w' ⟨t, rfl, rfl, ht0, ht1, ht2⟩
    by_cases ht : t ≤ 1048576
    · clear ht2
      by_cases hf : 0 ≤ f ∧ f ≤ 3
      · obtain ⟨hf0, hf3⟩ := hf
        by_cases hr : f = 2 ∧ en < 0
        · obtain ⟨rfl, hr⟩ := hr
          clear hc hnil
          go_wp2
          go_ret
          exact ⟨rfl, Below.refl _ _⟩
        · have hq : ((f == 2) = true ∧ 0 ≤ en) ∨ (f == 2) = false := by
            by_cases h : f = 2
            · left; exact ⟨by simpa using h, by omega⟩
            · right; simpa using h
          rcases hq with ⟨hq1, hq2⟩ | hq1
          all_goals
            go_wp2_with fail
            refine (clone_any a ss.length cap ss _ hl rfl hnil hc).mono ?_
            rintro e w1 ⟨ao, c', rfl, hown, hbel, _⟩
            obtain ⟨g, hg, hle, hcell⟩ := owns_shape hown
            go_wp2_with fail
            refine (zzsub f s en ao ss.length c' g w1 hl h1 h2 h3 h4 hf0 hf3 (by omega) hle (fun h => (hg h).1)).mono ?_
            rintro e w2 ⟨p, m, a', c2, rfl, hpm, ha', hsel, hbel2⟩
            have HB : Hid (Below w'.heap.size w' w2) := hbel.trans (hbel2.mono hbel.size)
            have HS : Hid (∀ i : Nat, i < ss.length → selP f s en i ss.length = decide (p ≤ i ∧ i < p + m)) := hsel
            have HC : Hid (∀ j, j < ss.length → w2.cell? ⟨g, j, none⟩ = some (.string (ss.getD j ByteArray.empty))) := fun j hj => (hbel2.cell (p := ⟨g, j, none⟩) ((hg (by omega)).2.2)).trans (hcell j _ (getD_str _ _ hj))
            have HG : Hid (0 < ss.length → ao = some ⟨g, 0, none⟩ ∧ g < w2.heap.size) := fun h => ⟨(hg h).1, Nat.lt_of_lt_of_le (hg h).2.2 hbel2.size⟩
            have HA : Hid (0 < m → a' = some ⟨g, p, none⟩) := ha'
            clear hsel hcell hg ha' hbel2 hown hbel hc hnil
            go_wp2
            go_loopw [11, 12] (fun kv iv wr => ∃ j : Nat, j ≤ ss.length ∧ iv = .int .i64 j ∧ kv = .int .i64 (cnt j p m : Nat) ∧ Below w2.heap.size w2 wr) (fun _ iv _ => ss.length - (intOf iv).toNat)
            case atStart => exact ⟨0, Nat.zero_le _, rfl, by simp [cnt], Below.refl _ _⟩
            case round =>
              obtain ⟨j, hj, rfl, rfl, hbr⟩ := hrel
              by_cases hlt : j < ss.length
              · go_wp2_with fail
                refine (sel_any f s en j ss.length _ (by omega) (by omega) (by omega) h1 h2 h3 h4 hf0 hf3).mono ?_
                rintro e w3 ⟨rfl, rfl⟩
                rw [HS.out j hlt]
                by_cases hin : p ≤ j ∧ j < p + m
                · obtain ⟨hg1, hg2⟩ := HG.out (by omega)
                  subst hg1
                  obtain rfl := HA.out (by omega)
                  obtain ⟨kk, rfl⟩ : ∃ kk, j = p + kk := ⟨j - p, by omega⟩
                  have hcc := (hbr.cell (p := ⟨g, p + kk, none⟩) hg2).trans (HC.out (p + kk) hlt)
                  have e1 : cnt (p + kk) p m = kk := by unfold cnt; omega
                  have e2 : cnt (p + kk + 1) p m = kk + 1 := by unfold cnt; omega
                  have E2 : Hid (cnt (p + kk + 1) p m = kk + 1) := e2
                  rw [e1]
                  clear e1 e2
                  rw [decide_eq_true hin]
                  obtain ⟨hin1, hin2⟩ := hin
                  have hd2 : decide (m ≤ kk) = false := by simp; omega
                  generalize ss.getD (p + kk) ByteArray.empty = x at *
                  go_wp2
                  go_quiet (fail)
                  go_wp2
                  go_roundw
                  case rel => exact ⟨p + kk + 1, by omega, by go_num, by rw [E2.out]; go_num, below_drewN hbr _⟩
                  case measure => simp [intOf]; omega
                · have E2 : Hid (cnt (j + 1) p m = cnt j p m) := by show cnt (j + 1) p m = cnt j p m; unfold cnt; omega
                  rw [decide_eq_false hin]
                  go_wp2
                  go_roundw
                  case rel => exact ⟨j + 1, by omega, by go_num, by rw [E2.out], hbr⟩
                  case measure => simp [intOf]; omega
              · obtain rfl : j = ss.length := by omega
                have e1 : cnt ss.length p m = m := by unfold cnt; omega
                rw [e1]
                clear e1
                go_wp2
                go_ret
                exact ⟨ret_true (by simp), HB.out.trans (hbr.mono HB.out.size)⟩
      · clear hc hnil
        by_cases hf0 : f < 0
        · go_wp2
          go_ret
          exact ⟨rfl, Below.refl _ _⟩
        · have hf3 : 3 < f := by omega
          go_wp2
          go_ret
          exact ⟨rfl, Below.refl _ _⟩
    · clear ht2 hc hnil
      go_wp2
      go_ret
      exact ⟨rfl, Below.refl _ _⟩
end Go.Proofs.Qxb6600590a.Sub
