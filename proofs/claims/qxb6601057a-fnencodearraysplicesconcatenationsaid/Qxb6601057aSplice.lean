/-
  FnEncodeArraySplicesConcatenation's walk.
-/
import Derived.Test.Qxb6601057aPair
namespace Go.Proofs.Qxb6601057a.Pair
open Go.RowKit Strs Push Enc EncW
set_option linter.unusedVariables false

theorem tot_app (a b : List ByteArray) : tot (a ++ b) = tot a + tot b := tot_append a b
theorem es_app (a b : List ByteArray) : es (a ++ b) = es a ++ es b := by simp [es]
theorem enc_len (ss : List ByteArray) : (enc (es ss)).length ≤ 2 + 2 * tot ss + 3 * ss.length ∧ 2 ≤ (enc (es ss)).length := by
  have h := upTo_len ss ss.length
  have h2 : (enc (es ss)).length = (upTo ss ss.length).length + 1 := by rw [← upTo_full]; simp
  refine ⟨by omega, ?_⟩
  simp [enc]

theorem splice (a b : List (List UInt8)) (ha : a ≠ []) (hb : b ≠ []) : (enc a).take ((enc a).length - 1) ++ [44] ++ (enc b).drop 1 = enc (a ++ b) := by
  have h1 : (enc a).take ((enc a).length - 1) = 123 :: join a := by
    have : enc a = (123 :: join a) ++ [125] := by simp [enc]
    rw [this]
    simp
  rw [h1]
  simp only [enc, join_append a b ha hb]
  simp

theorem take_snoc (L : List UInt8) (k : Nat) (h : k < L.length) : L.take (k + 1) = L.take k ++ [L.getD k 0] := by
  rw [List.take_succ_eq_append_getElem h]
  simp [List.getD, h]
theorem drop_take_snoc (L : List UInt8) (k : Nat) (h : k + 1 < L.length) : (L.drop 1).take (k + 1) = (L.drop 1).take k ++ [L.getD (k + 1) 0] := by
  have h2 : k < (L.drop 1).length := by simp; omega
  rw [take_snoc _ k h2]
  simp [List.getD]

def Goal (w : World) (e : Ending) (w' : World) : Prop := e = .returned (.bool true) ∧ Below w.heap.size w w'

/-- The bytes that encodeArray's row holds. -/
theorem P14.take {ss : List ByteArray} {w w' : World} {e : Ending} (h : P14 ss w e w') : ∃ x c, e = .returned (.slice (some x) (enc (es ss)).length c) ∧ Cells w' (some x) (bc (enc (es ss))) ∧ Below w.heap.size w w' := by
  obtain ⟨x, c, h1, h2, h3⟩ := h
  exact ⟨x, c, h1, owns_cells h2, h3⟩

set_option maxRecDepth 100000 in
set_option maxHeartbeats 8000000 in
theorem walk_in (a b : Option Addr) (cap capb : Nat) (ss tt : List ByteArray) (w : World) (hna : a = none → ss.length = 0 ∧ cap = 0) (hnb : b = none → tt.length = 0 ∧ capb = 0) (hc : Cells w a (ss.map Value.string)) (hd : Cells w b (tt.map Value.string)) :
    Calls Try.prog 4 #[.slice a ss.length cap, .slice b tt.length capb] w (Goal w) := by
  obtain ⟨i0, hi, hz0, hz1, hz2⟩ := info_parts info5
  obtain ⟨j0, hj, hj0, hj1, hj2⟩ := info_parts info9
  have H1 : Hid (a = none → ss.length = 0 ∧ cap = 0) := hna
  have H2 : Hid (b = none → tt.length = 0 ∧ capb = 0) := hnb
  have H3 : Hid (Cells w a (ss.map Value.string)) := hc
  have H4 : Hid (Cells w b (tt.map Value.string)) := hd
  clear hna hnb hc hd
  go_enter Try.func4, Try.ntmps4
  go_wp2_with fail
  refine (bytes10 a b cap capb ss tt _ H3.out H4.out).mono ?_
  rintro e w' ⟨ok, rfl, rfl, hok⟩
  cases ok with
  | false =>
    clear hok
    go_wp2
    go_ret
    exact ⟨rfl, Below.refl _ _⟩
  | true =>
    have hl := hok rfl
    clear hok
    by_cases hl1 : 65536 < ss.length
    · go_wp2
      go_ret
      exact ⟨rfl, Below.refl _ _⟩
    by_cases hl2 : 65536 < tt.length
    · go_wp2
      go_ret
      exact ⟨rfl, Below.refl _ _⟩
    go_wp2_with fail
    refine (pair11 a b cap capb ss tt _ H3.out H4.out hl).mono ?_
    rintro e w' ⟨ok, rfl, rfl⟩
    cases ok with
    | false =>
      go_wp2
      go_ret
      exact ⟨rfl, Below.refl _ _⟩
    | true =>
      go_wp2_with fail
      refine (clone_any a ss.length cap ss _ (by omega) rfl H1.out H3.out).mono ?_
      rintro e w1 ⟨ao, ac, rfl, hown1, hbel1, hni⟩
      clear hni
      go_wp2_with fail
      refine (clone_any b tt.length capb tt _ (by omega) rfl H2.out (H4.out.below hbel1)).mono ?_
      rintro e w2 ⟨bo, bcp, rfl, hown2, hbel2, hni⟩
      clear hni
      have HA : Hid (Cells w2 ao (ss.map Value.string)) := (owns_cells hown1).below hbel2
      have HB : Hid (Cells w2 bo (tt.map Value.string)) := owns_cells hown2
      have HBel : Hid (Below w'.heap.size w' w2) := hbel1.trans (hbel2.mono hbel1.size)
      clear hown1 hown2 hbel1 hbel2 H1 H2 H3 H4
      go_wp2_with (at_make; refine wpList_make_own _ rfl _ _ 22 rfl w2.heap.size 9 j0 (.string ByteArray.empty) 1 Try.underlying22 hj hj0 hj1 _ _ _ (ss.length + tt.length) rfl rfl ?_ ?_ ?_ ?_ ?_)
      case refine_1 => omega
      case refine_2 => rw [hj2]; omega
      case refine_3 => unfold maxLen; omega
      case refine_4 => exact Nat.le_refl _
      intro w3 hown3 hgrow3
      have H3o : Hid (w3.ownsRow w2.heap.size 9 1 (.slice (some ⟨w2.heap.size, 0, none⟩) 0 (ss.length + tt.length)) 0 []) := hown3
      have H3b : Hid (Below w2.heap.size w2 w3) := (Below.refl _ _).grown hgrow3 (Nat.le_refl _) (fun k hk => by cases hk)
      clear hown3 hgrow3
      go_wp2
      go_loopw [5, 6] (fun vc iv wr => ∃ (k : Nat) (x : Addr) (cc : Nat), k ≤ ss.length ∧ iv = .int .i64 k ∧ vc = .slice (some x) k cc ∧ wr.ownsRow w2.heap.size 9 1 (.slice (some x) k cc) k ((ss.take k).map Value.string) ∧ Below w2.heap.size w2 wr) (fun _ iv _ => ss.length - (intOf iv).toNat)
      case atStart => exact ⟨0, _, _, Nat.zero_le _, rfl, rfl, H3o.out, H3b.out⟩
      case round =>
        clear H3o H3b
        obtain ⟨k, x, cc, hk, rfl, rfl, hown, hbel⟩ := hrel
        have hbs := hbel.size
        by_cases hlt : k < ss.length
        · obtain ⟨xb, xo, rfl, _, hxc⟩ := (HA.out.below hbel).str hlt
          have hx := hxc k hlt
          have HT : Hid ((ss.take (k + 1)).map Value.string = (ss.take k).map Value.string ++ [.string (ss.getD k ByteArray.empty)]) := by
            show _ = _
            rw [List.take_succ_eq_append_getElem hlt, List.map_append]
            simp [List.getD, hlt]
          clear hxc
          generalize ss.getD k ByteArray.empty = s at *
          go_wp2_with (at_builtin; refine wpList_push _ rfl _ _ 22 rfl w2.heap.size 9 j0 (.string ByteArray.empty) 16 Try.underlying22 hj hj0 hj1 hj2 rfl _ _ _ ((ss.take k).map Value.string) (.string s) rfl rfl rfl hown hbs (by omega) (by omega) ?_)
          intro bo5 bcap5 w5 hown5 hg5
          have hbel5 := hbel.trans (push_below hown hbs hg5)
          rw [← List.map_take, ← HT.out] at hown5
          obtain ⟨g, hsh, _, _⟩ := owns_shape hown5
          obtain ⟨hbo, _, _⟩ := hsh (by omega)
          subst hbo
          have H5 : Hid (w5.ownsRow w2.heap.size 9 1 (.slice (some ⟨g, 0, none⟩) (k + 1) bcap5) (k + 1) ((ss.take (k + 1)).map Value.string)) := hown5
          have H5b : Hid (Below w2.heap.size w2 w5) := hbel5
          clear hg5 hown5 hbel5 hown hsh
          go_wp2
          go_roundw
          case rel => first | exact ⟨k + 1, _, bcap5, by omega, by go_num, rfl, H5.out, H5b.out⟩ | ((repeat apply Exists.intro); exact ⟨⟨k + 1, _, bcap5, by omega, by go_num, rfl, H5.out, H5b.out⟩, rfl⟩)
          case measure => simp [intOf]; omega
        · obtain rfl : k = ss.length := by omega
          rw [List.take_length] at hown
          have H3o : Hid (wr.ownsRow w2.heap.size 9 1 (.slice (some x) ss.length cc) ss.length (ss.map Value.string)) := hown
          have H3b : Hid (Below w2.heap.size w2 wr) := hbel
          clear hown hbel hbs
          go_wp2
          go_loopw [5, 7] (fun vc iv wr => ∃ (k : Nat) (x : Addr) (cc : Nat), k ≤ tt.length ∧ iv = .int .i64 k ∧ vc = .slice (some x) (ss.length + k) cc ∧ wr.ownsRow w2.heap.size 9 1 (.slice (some x) (ss.length + k) cc) (ss.length + k) ((ss ++ tt.take k).map Value.string) ∧ Below w2.heap.size w2 wr) (fun _ iv _ => tt.length - (intOf iv).toNat)
          case atStart => exact ⟨0, _, _, Nat.zero_le _, rfl, rfl, by rw [List.take_zero, List.append_nil]; exact H3o.out, H3b.out⟩
          case round =>
            clear H3o H3b
            obtain ⟨k, x, cc, hk, rfl, rfl, hown, hbel⟩ := hrel
            have hbs := hbel.size
            by_cases hlt : k < tt.length
            · obtain ⟨xb, xo, rfl, _, hxc⟩ := (HB.out.below hbel).str hlt
              have hx := hxc k hlt
              have HT : Hid ((ss ++ tt.take (k + 1)).map Value.string = (ss ++ tt.take k).map Value.string ++ [.string (tt.getD k ByteArray.empty)]) := by
                show _ = _
                rw [List.take_succ_eq_append_getElem hlt, ← List.append_assoc, List.map_append (l₁ := ss ++ tt.take k)]
                simp [List.getD, hlt]
              clear hxc
              generalize tt.getD k ByteArray.empty = s at *
              generalize (ss ++ tt.take k).map Value.string = ys at *
              go_wp2_with (at_builtin; refine wpList_push _ rfl _ _ 22 rfl w2.heap.size 9 j0 (.string ByteArray.empty) 16 Try.underlying22 hj hj0 hj1 hj2 rfl _ _ _ ys (.string s) rfl rfl rfl hown hbs (by omega) (by omega) ?_)
              intro bo5 bcap5 w5 hown5 hg5
              have hbel5 := hbel.trans (push_below hown hbs hg5)
              rw [← HT.out] at hown5
              obtain ⟨g, hsh, _, _⟩ := owns_shape hown5
              obtain ⟨hbo, _, _⟩ := hsh (by omega)
              subst hbo
              have H5 : Hid (w5.ownsRow w2.heap.size 9 1 (.slice (some ⟨g, 0, none⟩) (ss.length + (k + 1)) bcap5) (ss.length + (k + 1)) ((ss ++ tt.take (k + 1)).map Value.string)) := hown5
              have H5b : Hid (Below w2.heap.size w2 w5) := hbel5
              clear hg5 hown5 hbel5 hown hsh
              go_wp2
              go_roundw
              case rel => first | exact ⟨k + 1, _, bcap5, by omega, by go_num, rfl, H5.out, H5b.out⟩ | ((repeat apply Exists.intro); exact ⟨⟨k + 1, _, bcap5, by omega, by go_num, rfl, H5.out, H5b.out⟩, rfl⟩)
              case measure => simp [intOf]; omega
            · obtain rfl : k = tt.length := by omega
              rw [List.take_length, ← List.length_append] at hown
              have HCc : Hid (Cells wr (some x) ((ss ++ tt).map Value.string)) := owns_cells hown
              have hl5 : (ss ++ tt).length + tot (ss ++ tt) ≤ 1048576 := by rw [List.length_append, tot_app]; omega
              have HZ : Hid (Calls Try.prog 8 #[.slice (some x) (ss.length + tt.length) cc] wr (P14 (ss ++ tt) wr)) := by
                have h := zzenc x cc (ss ++ tt) wr hl5 HCc.out
                rw [List.length_append] at h
                exact h
              have HA3 : Hid (Cells wr ao (ss.map Value.string)) := HA.out.below hbel
              have HB3 : Hid (Cells wr bo (tt.map Value.string)) := HB.out.below hbel
              have HBel3 : Hid (Below w'.heap.size w' wr) := HBel.out.trans (hbel.mono HBel.out.size)
              clear hown hbel hbs HA HB HBel HCc
              go_wp2_with fail
              refine HZ.out.mono ?_
              intro e w4 h4
              obtain ⟨gx, gc, rfl, hgot, hbel4⟩ := P14.take h4
              clear h4 HZ
              have HA4 : Hid (Cells w4 ao (ss.map Value.string)) := HA3.out.below hbel4
              have HB4 : Hid (Cells w4 bo (tt.map Value.string)) := HB3.out.below hbel4
              have HBel4 : Hid (Below w'.heap.size w' w4) := HBel3.out.trans (hbel4.mono HBel3.out.size)
              have hgl : (enc (es (ss ++ tt))).length ≤ 16777216 := by
                have h1 := (enc_len (ss ++ tt)).1
                omega
              obtain ⟨G, hG⟩ : ∃ G, G = enc (es (ss ++ tt)) := ⟨_, rfl⟩
              rw [← hG] at hgot hgl ⊢
              have HGo : Hid (Cells w4 (some gx) (bc G)) := hgot
              have HG : Hid (G = enc (es (ss ++ tt))) := hG
              clear HA3 HB3 HBel3 hbel4 hgot hG
              by_cases hs0 : ss.length = 0
              · have hb1 : ((ss.length : Int) == 0) = true := by rw [hs0]; rfl
                have hss : ss = [] := List.length_eq_zero_iff.1 hs0
                by_cases ht0 : tt.length = 0
                · have hb2 : ((tt.length : Int) == 0) = true := by rw [ht0]; rfl
                  have htt : tt = [] := List.length_eq_zero_iff.1 ht0
                  have hGe : G = [123, 125] := by rw [HG.out, hss, htt]; rfl
                  subst hGe
                  clear HG
                  go_wp2_with fail
                  refine (eqs12 gx gc w4 HGo.out).mono ?_
                  rintro e w5 ⟨rfl, hb5⟩
                  go_wp2
                  go_ret
                  exact ⟨rfl, HBel4.out.trans (hb5.mono HBel4.out.size)⟩
                · have hb2 : ((tt.length : Int) == 0) = false := by rw [beq_eq_false_iff_ne]; omega
                  obtain ⟨xb, xo, hbo, _, _⟩ := HB4.out.str (Nat.pos_of_ne_zero ht0)
                  subst hbo
                  have hGe : G = enc (es tt) := by rw [HG.out, hss]; rfl
                  clear HG HA4
                  go_wp2_with fail
                  refine (zzenc _ bcp tt w4 (by omega) HB4.out).mono ?_
                  intro e w5 h5
                  obtain ⟨ex, ec, rfl, hcell, hbel5⟩ := P14.take h5
                  clear h5
                  rw [← hGe] at hcell ⊢
                  have HC : Hid (Cells w5 (some ex) (bc G)) := hcell
                  have HC2 : Hid (Cells w5 (some gx) (bc G)) := HGo.out.below hbel5
                  have HBel5 : Hid (Below w'.heap.size w' w5) := HBel4.out.trans (hbel5.mono HBel4.out.size)
                  clear hcell hbel5 hGe
                  go_wp2_with fail
                  refine (eq13 _ _ gc ec G w5 hgl HC2.out HC.out).mono ?_
                  rintro e w6 ⟨rfl, hb6⟩
                  go_wp2
                  go_ret
                  exact ⟨rfl, HBel5.out.trans (hb6.mono HBel5.out.size)⟩
              · have hb1 : ((ss.length : Int) == 0) = false := by rw [beq_eq_false_iff_ne]; omega
                obtain ⟨xa, xo, hao, _, _⟩ := HA4.out.str (Nat.pos_of_ne_zero hs0)
                subst hao
                by_cases ht0 : tt.length = 0
                · have hb2 : ((tt.length : Int) == 0) = true := by rw [ht0]; rfl
                  have htt : tt = [] := List.length_eq_zero_iff.1 ht0
                  have hGe : G = enc (es ss) := by rw [HG.out, htt, List.append_nil]
                  clear HG HB4
                  go_wp2_with fail
                  refine (zzenc _ ac ss w4 (by omega) HA4.out).mono ?_
                  intro e w5 h5
                  obtain ⟨ex, ec, rfl, hcell, hbel5⟩ := P14.take h5
                  clear h5
                  rw [← hGe] at hcell ⊢
                  have HC : Hid (Cells w5 (some ex) (bc G)) := hcell
                  have HC2 : Hid (Cells w5 (some gx) (bc G)) := HGo.out.below hbel5
                  have HBel5 : Hid (Below w'.heap.size w' w5) := HBel4.out.trans (hbel5.mono HBel4.out.size)
                  clear hcell hbel5 hGe
                  go_wp2_with fail
                  refine (eq13 _ _ gc ec G w5 hgl HC2.out HC.out).mono ?_
                  rintro e w6 ⟨rfl, hb6⟩
                  go_wp2
                  go_ret
                  exact ⟨rfl, HBel5.out.trans (hb6.mono HBel5.out.size)⟩
                · have hb2 : ((tt.length : Int) == 0) = false := by rw [beq_eq_false_iff_ne]; omega
                  obtain ⟨xb, xbo, hbo, _, _⟩ := HB4.out.str (Nat.pos_of_ne_zero ht0)
                  subst hbo
                  go_wp2_with fail
                  refine (zzenc _ ac ss w4 (by omega) HA4.out).mono ?_
                  intro e w5 h5
                  obtain ⟨ex, ec, rfl, hcell, hbel5⟩ := P14.take h5
                  clear h5
                  obtain ⟨E, hE⟩ : ∃ E, E = enc (es ss) := ⟨_, rfl⟩
                  have hEl : (enc (es ss)).length ≤ 16777216 ∧ 2 ≤ (enc (es ss)).length := ⟨by have h1 := (enc_len ss).1; omega, (enc_len ss).2⟩
                  rw [← hE] at hcell hEl ⊢
                  have HE : Hid (E = enc (es ss)) := hE
                  have HEc5 : Hid (Cells w5 (some ex) (bc E)) := hcell
                  have HGo5 : Hid (Cells w5 (some gx) (bc G)) := HGo.out.below hbel5
                  have HB5 : Hid (Cells w5 (some ⟨xb, xbo, none⟩) (tt.map Value.string)) := HB4.out.below hbel5
                  have HBel5 : Hid (Below w'.heap.size w' w5) := HBel4.out.trans (hbel5.mono HBel4.out.size)
                  clear hcell hbel5 hE HGo HB4 HA4 HBel4
                  go_wp2_with fail
                  refine (zzenc _ bcp tt w5 (by omega) HB5.out).mono ?_
                  intro e w6 h6
                  obtain ⟨fx, fc, rfl, hcell, hbel6⟩ := P14.take h6
                  clear h6
                  obtain ⟨F, hF⟩ : ∃ F, F = enc (es tt) := ⟨_, rfl⟩
                  have hFl : (enc (es tt)).length ≤ 16777216 ∧ 2 ≤ (enc (es tt)).length := ⟨by have h1 := (enc_len tt).1; omega, (enc_len tt).2⟩
                  rw [← hF] at hcell hFl ⊢
                  obtain ⟨hEl1, hEl2⟩ := hEl
                  obtain ⟨hFl1, hFl2⟩ := hFl
                  have hfin : E.take (E.length - 1) ++ [44] ++ F.drop 1 = G := by
                    rw [HE.out, hF, HG.out, es_app]
                    refine splice _ _ ?_ ?_
                    · intro h; have := congrArg List.length h; simp [es] at this; subst this; exact hs0 rfl
                    · intro h; have := congrArg List.length h; simp [es] at this; subst this; exact ht0 rfl
                  have HFin : Hid (E.take (E.length - 1) ++ [44] ++ F.drop 1 = G) := hfin
                  have HFc6 : Hid (Cells w6 (some fx) (bc F)) := hcell
                  have HEc6 : Hid (Cells w6 (some ex) (bc E)) := HEc5.out.below hbel6
                  have HGo6 : Hid (Cells w6 (some gx) (bc G)) := HGo5.out.below hbel6
                  have HBel6 : Hid (Below w'.heap.size w' w6) := HBel5.out.trans (hbel6.mono HBel5.out.size)
                  clear hcell hbel6 hF hfin HE HG HGo5 HB5 HEc5 HBel5 hl5
                  have hm1 : (decide (E.length < 2)) = false := by simp; omega
                  have hm2 : (decide (F.length < 2)) = false := by simp; omega
                  go_wp2_with (at_make; refine wpList_make_own _ rfl _ _ 25 rfl w6.heap.size 5 i0 (.int .u8 0) 1 Try.underlying25 hi hz0 hz1 _ _ _ (E.length + F.length) rfl rfl ?_ ?_ ?_ ?_ ?_)
                  case refine_1 => omega
                  case refine_2 => rw [hz2]; omega
                  case refine_3 => unfold maxLen; omega
                  case refine_4 => exact Nat.le_refl _
                  intro w7 hown7 hgrow7
                  have H7o : Hid (w7.ownsRow w6.heap.size 5 1 (.slice (some ⟨w6.heap.size, 0, none⟩) 0 (E.length + F.length)) 0 (bc [])) := hown7
                  have H7b : Hid (Below w6.heap.size w6 w7) := (Below.refl _ _).grown hgrow7 (Nat.le_refl _) (fun k hk => by cases hk)
                  clear hown7 hgrow7
                  go_wp2
                  have hmeas : Hid (∀ n m : Nat, n < m → m - (n + 1) < m - n) := fun n m h => by omega
                  go_loopw [11, 12] (fun vc iv wr => ∃ (k : Nat) (y : Addr) (cc : Nat), k ≤ E.length - 1 ∧ iv = .int .i64 k ∧ vc = .slice (some y) k cc ∧ wr.ownsRow w6.heap.size 5 1 (.slice (some y) k cc) k (bc (E.take k)) ∧ Below w6.heap.size w6 wr) (fun _ iv _ => E.length - 1 - (intOf iv).toNat)
                  case atStart => exact ⟨0, _, _, Nat.zero_le _, rfl, rfl, H7o.out, H7b.out⟩
                  case round =>
                    clear H7o H7b
                    obtain ⟨k, y, cc, hk, rfl, rfl, hown, hbel⟩ := hrel
                    have hbs := hbel.size
                    by_cases hlt : k < E.length - 1
                    · obtain ⟨pb, po, hp, _, hpc⟩ := Cells.byte (HEc6.out.below hbel) (j := k) (by omega)
                      simp only [Option.some.injEq] at hp
                      subst hp
                      have hx := hpc k (by omega)
                      have HT : Hid (E.take (k + 1) = E.take k ++ [E.getD k 0]) := take_snoc E k (by omega)
                      clear hpc
                      have hlt2 : (k : Int) < (E.length : Int) - 1 := by omega
                      generalize E.getD k 0 = z at *
                      generalize E.take k = L0 at *
                      go_wp2_with (at_builtin; refine wpList_push _ rfl _ _ 25 rfl w6.heap.size 5 i0 (.int .u8 0) 1 Try.underlying25 hi hz0 hz1 hz2 rfl _ _ _ (bc L0) (.int .u8 (z.toNat : Int)) rfl rfl rfl hown hbs (by omega) (by omega) ?_)
                      intro bo5 bcap5 w8 hown5 hg5
                      have hbel5 := hbel.trans (push_below hown hbs hg5)
                      rw [bc_snoc L0 z, ← HT.out] at hown5
                      obtain ⟨g, hsh, _, _⟩ := owns_shape hown5
                      obtain ⟨hbo, _, _⟩ := hsh (by omega)
                      subst hbo
                      have H5 : Hid (w8.ownsRow w6.heap.size 5 1 (.slice (some ⟨g, 0, none⟩) (k + 1) bcap5) (k + 1) (bc (E.take (k + 1)))) := hown5
                      have H5b : Hid (Below w6.heap.size w6 w8) := hbel5
                      clear hg5 hown5 hbel5 hown hsh
                      go_wp2
                      go_roundw
                      case rel => first | exact ⟨k + 1, _, bcap5, by omega, by go_num, rfl, H5.out, H5b.out⟩ | ((repeat apply Exists.intro); exact ⟨⟨k + 1, _, bcap5, by omega, by go_num, rfl, H5.out, H5b.out⟩, rfl⟩)
                      case measure => simp [intOf]; omega
                    · obtain rfl : k = E.length - 1 := by omega
                      have hlt2 : ¬ (((E.length - 1 : Nat) : Int) < (E.length : Int) - 1) := by omega
                      have hnl : (E.length - 1) + 1 + (F.length - 1) = G.length := by
                        have := congrArg List.length HFin.out
                        simp at this
                        omega
                      have hxl : (E.take (E.length - 1)).length = E.length - 1 := by simp
                      generalize hX : E.take (E.length - 1) = X at *
                      clear hX
                      have hEn : (E.length - 1 : Nat) < E.length := by omega
                      generalize hN : E.length - 1 = N at *
                      go_wp2_with (at_builtin; refine wpList_push _ rfl _ _ 25 rfl w6.heap.size 5 i0 (.int .u8 0) 1 Try.underlying25 hi hz0 hz1 hz2 rfl _ _ _ (bc X) (.int .u8 44) rfl rfl rfl hown hbs (by omega) (by omega) ?_)
                      intro bo5 bcap5 w8 hown5 hg5
                      have hbel5 := hbel.trans (push_below hown hbs hg5)
                      rw [bc_lit X 44 44 rfl] at hown5
                      obtain ⟨g, hsh, _, _⟩ := owns_shape hown5
                      obtain ⟨hbo, _, _⟩ := hsh (by omega)
                      subst hbo
                      have H8o : Hid (w8.ownsRow w6.heap.size 5 1 (.slice (some ⟨g, 0, none⟩) (N + 1) bcap5) (N + 1) (bc (X ++ [44]))) := hown5
                      have H8b : Hid (Below w6.heap.size w6 w8) := hbel5
                      clear hg5 hown5 hbel5 hown hsh hbel hbs
                      go_wp2
                      go_loopw [11, 13] (fun vc iv wr => ∃ (k : Nat) (y : Addr) (cc : Nat), k ≤ F.length - 1 ∧ iv = .int .i64 ((k + 1 : Nat) : Int) ∧ vc = .slice (some y) (N + 1 + k) cc ∧ wr.ownsRow w6.heap.size 5 1 (.slice (some y) (N + 1 + k) cc) (N + 1 + k) (bc (X ++ [44] ++ (F.drop 1).take k)) ∧ Below w6.heap.size w6 wr) (fun _ iv _ => F.length - (intOf iv).toNat)
                      case atStart => exact ⟨0, _, _, Nat.zero_le _, rfl, rfl, by rw [List.take_zero, List.append_nil]; exact H8o.out, H8b.out⟩
                      case round =>
                        clear H8o H8b
                        obtain ⟨k, y, cc, hk, rfl, rfl, hown, hbel⟩ := hrel
                        have hbs := hbel.size
                        by_cases hlt3 : k + 1 < F.length
                        · obtain ⟨pb, po, hp, _, hpc⟩ := Cells.byte (HFc6.out.below hbel) (j := k + 1) hlt3
                          simp only [Option.some.injEq] at hp
                          subst hp
                          have hx := hpc (k + 1) hlt3
                          have HT : Hid (X ++ [44] ++ (F.drop 1).take (k + 1) = (X ++ [44] ++ (F.drop 1).take k) ++ [F.getD (k + 1) 0]) := by
                            show _ = _
                            rw [drop_take_snoc F k hlt3, ← List.append_assoc]
                          clear hpc
                          generalize F.getD (k + 1) 0 = z at *
                          generalize X ++ [44] ++ (F.drop 1).take k = L0 at *
                          go_wp2_with (at_builtin; refine wpList_push _ rfl _ _ 25 rfl w6.heap.size 5 i0 (.int .u8 0) 1 Try.underlying25 hi hz0 hz1 hz2 rfl _ _ _ (bc L0) (.int .u8 (z.toNat : Int)) rfl rfl rfl hown hbs (by omega) (by omega) ?_)
                          intro bo5 bcap5 w8 hown5 hg5
                          have hbel5 := hbel.trans (push_below hown hbs hg5)
                          rw [bc_snoc L0 z, ← HT.out] at hown5
                          obtain ⟨g, hsh, _, _⟩ := owns_shape hown5
                          obtain ⟨hbo, _, _⟩ := hsh (by omega)
                          subst hbo
                          have H5 : Hid (w8.ownsRow w6.heap.size 5 1 (.slice (some ⟨g, 0, none⟩) (N + 1 + (k + 1)) bcap5) (N + 1 + (k + 1)) (bc (X ++ [44] ++ (F.drop 1).take (k + 1)))) := hown5
                          have H5b : Hid (Below w6.heap.size w6 w8) := hbel5
                          clear hg5 hown5 hbel5 hown hsh
                          go_wp2
                          go_roundw
                          case rel => first | exact ⟨k + 1, _, bcap5, by omega, by go_num, rfl, H5.out, H5b.out⟩ | ((repeat apply Exists.intro); exact ⟨⟨k + 1, _, bcap5, by omega, by go_num, rfl, H5.out, H5b.out⟩, rfl⟩)
                          case measure => simp [intOf]; omega
                        · obtain rfl : k = F.length - 1 := by omega
                          rw [List.take_of_length_le (by simp), HFin.out, hnl] at hown
                          rw [hnl]
                          have HXc : Hid (Cells wr (some y) (bc G)) := owns_cells hown
                          have HGo7 : Hid (Cells wr (some gx) (bc G)) := HGo6.out.below hbel
                          have HBel7 : Hid (Below w'.heap.size w' wr) := HBel6.out.trans (hbel.mono HBel6.out.size)
                          clear hown hbel hbs
                          go_wp2_with fail
                          refine (eq13 _ _ gc cc G wr hgl HGo7.out HXc.out).mono ?_
                          rintro e w9 ⟨rfl, hb9⟩
                          go_wp2
                          go_ret
                          exact ⟨rfl, HBel7.out.trans (hb9.mono HBel7.out.size)⟩
end Go.Proofs.Qxb6601057a.Pair
