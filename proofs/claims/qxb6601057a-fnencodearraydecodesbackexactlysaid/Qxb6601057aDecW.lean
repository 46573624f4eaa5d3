/-
  zzDecodeStrictArray's contract, at a text that encodeArray writes.
-/
import Derived.Test.Qxb6601057aEncW
namespace Go.Proofs.Qxb6601057a.DecW
open Go.RowKit Strs Push Enc EncW
set_option linter.unusedVariables false

/-- 'string(b)' of a row of bytes that the call owns. -/
theorem conv_own {base n bcap : Nat} {bo : Option Addr} {s : ByteArray} {W : World} (h : W.ownsRow base 5 1 (.slice bo n bcap) n (bc (bl s))) : (convert 25 9 (.slice bo n bcap)).run Try.prog W = .ok (.string s) W := by
  have hn : n = s.size := by have := h.1; rw [bc_length, bl_length] at this; omega
  have hcells := owns_cells h
  rcases h.2 with ⟨hv, h0⟩ | ⟨g, cap, cur, hv, _, hgg, _⟩
  · simp only [Value.slice.injEq] at hv
    obtain ⟨rfl, rfl, rfl⟩ := hv
    rw [Lib.run_convert_nil_bytes W 25 9 5 0 Try.underlying25 Try.underlying5 Try.underlying9]
    have : s = ⟨#[]⟩ := by
      cases s with
      | mk d =>
        have hd : d.size = 0 := hn.symm
        have : d = #[] := Array.eq_empty_of_size_eq_zero hd
        rw [this]
    rw [this]
  · simp only [Value.slice.injEq] at hv
    obtain ⟨rfl, _, rfl⟩ := hv
    have hl : s.data.toList.length = n := by rw [hn, Array.length_toList]; rfl
    have hr := run_convert_bytes_back (P := Try.prog) W 25 9 5 ⟨g, 0, none⟩ bcap s.data.toList Try.underlying25 Try.underlying5 Try.underlying9 (fun j hj => by
      rcases hcells with h1 | ⟨b', off', ha, _, hc⟩
      · have h2 := congrArg List.length h1
        rw [bc_length, bl_length] at h2
        have h3 : s.size = 0 := h2
        omega
      · simp only [Option.some.injEq, Addr.mk.injEq] at ha
        obtain ⟨rfl, rfl, _⟩ := ha
        rw [Go.WideShapes.add_plain]
        refine hc j _ ?_
        rw [bc, bl, List.getElem?_map, List.getElem?_eq_getElem hj]
        rfl)
    rw [hl] at hr
    rw [hr]

theorem get_at (P T : List UInt8) (x : UInt8) : (P ++ x :: T).getD P.length 0 = x := by simp [List.getD]
theorem get_at1 (P T : List UInt8) (x y : UInt8) : (P ++ x :: y :: T).getD (P.length + 1) 0 = y := by
  rw [show P ++ x :: y :: T = (P ++ [x]) ++ y :: T from by simp, show P.length + 1 = (P ++ [x]).length from by simp]
  exact get_at _ _ _

/-- What stands behind an element's closing quote. -/
def restOf (E : List (List UInt8)) : List UInt8 := (if E = [] then [] else 44 :: join E) ++ [125]

theorem join_drop (ss : List ByteArray) (k : Nat) (hk : k < ss.length) : join ((es ss).drop k) ++ [125] = 34 :: (escL (bl (ss.getD k ByteArray.empty)) ++ 34 :: restOf ((es ss).drop (k + 1))) := by
  have h : k < (es ss).length := by rw [es_length]; exact hk
  have hg : (es ss)[k] = bl (ss.getD k ByteArray.empty) := by simp [es, List.getD, hk]
  rw [List.drop_eq_getElem_cons h, join_cons, hg, restOf, elem]
  simp

def P9 (ss : List ByteArray) (w : World) (e : Ending) (w' : World) : Prop :=
  ∃ ao c', e = .returned (.tuple #[.slice ao ss.length c', .bool true]) ∧ w'.ownsRow w.heap.size 9 1 (.slice ao ss.length c') ss.length (ss.map Value.string) ∧ Below w.heap.size w w'

theorem enc_split (ss : List ByteArray) : ∃ m, (enc (es ss)).length = m + 1 ∧ 1 ≤ m ∧ (enc (es ss)).getD 0 0 = 123 ∧ (enc (es ss)).getD m 0 = 125 ∧ m = 1 + (join (es ss)).length := by
  refine ⟨1 + (join (es ss)).length, ?_, by omega, rfl, ?_, rfl⟩
  · simp [enc]; omega
  · have : enc (es ss) = (123 :: join (es ss)) ++ 125 :: [] := by simp [enc]
    rw [this, show 1 + (join (es ss)).length = (123 :: join (es ss)).length from by simp; omega]
    exact get_at _ _ _

set_option maxRecDepth 100000 in
set_option maxHeartbeats 8000000 in
theorem dec9 (g cap : Nat) (ss : List ByteArray) (w : World) (hl : ss.length + tot ss ≤ 1048576) (hg : g < w.heap.size) (hcap : (enc (es ss)).length ≤ cap)
    (hc : ∀ i, i < (enc (es ss)).length → w.cell? ⟨g, i, none⟩ = some (.int .u8 (((enc (es ss)).getD i 0).toNat : Int))) :
    Calls Try.prog 9 #[.slice (some ⟨g, 0, none⟩) (enc (es ss)).length cap] w (P9 ss w) := by
  obtain ⟨i0, hi, hz0, hz1, hz2⟩ := info_parts info5
  obtain ⟨j0, hj, hj0, hj1, hj2⟩ := info_parts info9
  obtain ⟨m, hm, hm1, hd0, hdm, hmj⟩ := enc_split ss
  have hub := upTo_len ss ss.length
  have hue : (enc (es ss)).length = (upTo ss ss.length).length + 1 := by rw [← upTo_full]; simp
  have hmb : m ≤ 8388608 := by omega
  have hc0 := hc 0 (by omega)
  have hcm := hc m (by omega)
  rw [hd0] at hc0
  rw [hdm] at hcm
  have hc0' : w.cell? ⟨g, 0, none⟩ = some (.int .u8 123) := hc0
  have hcm' : w.cell? ⟨g, m, none⟩ = some (.int .u8 125) := hcm
  have HC : Hid _ := hc
  have HM : Hid ((enc (es ss)).length = m + 1) := hm
  have HMJ : Hid (m = 1 + (join (es ss)).length) := hmj
  rw [HM.out]
  rw [HM.out] at hcap
  clear hc hc0 hcm hd0 hdm hub hue hm hmj
  by_cases hs0 : ss = []
  · subst hs0
    have hm2 : m = 1 := by rw [HMJ.out]; rfl
    subst hm2
    go_enter Try.func9, Try.ntmps9
    go_wp2_with (at_make; refine wpList_make_own _ rfl _ _ 22 rfl w.heap.size 9 j0 (.string ByteArray.empty) 1 Try.underlying22 hj hj0 hj1 _ _ _ 0 rfl rfl ?_ ?_ ?_ ?_ ?_)
    case refine_1 => rfl
    case refine_2 => omega
    case refine_3 => omega
    case refine_4 => exact Nat.le_refl _
    intro w1 hown1 hgrow1
    have hbel1 : Below w.heap.size w w1 := (Below.refl _ _).grown hgrow1 (Nat.le_refl _) (fun k hk => by cases hk)
    have H1 : Hid (w1.ownsRow w.heap.size 9 1 (.slice (some ⟨w.heap.size, 0, none⟩) 0 0) 0 []) := hown1
    have H1b : Hid _ := hbel1
    clear hown1 hgrow1 hbel1
    go_wp2
    go_ret2
    exact ⟨_, 0, rfl, H1.out, H1b.out⟩
  · have hsl : 0 < ss.length := by cases ss with | nil => exact absurd rfl hs0 | cons a l => simp
    have hm2 : 2 ≤ m := by
      have h := HMJ.out
      have h1 := congrArg List.length (join_drop ss 0 hsl)
      simp only [List.drop_zero, List.length_append, List.length_cons, List.length_nil] at h1
      omega
    have hq : ((1 : Int) == (m : Int)) = false := by rw [beq_eq_false_iff_ne]; omega
    clear hs0
    go_enter Try.func9, Try.ntmps9
    go_wp2_with (at_make; refine wpList_make_own _ rfl _ _ 22 rfl w.heap.size 9 j0 (.string ByteArray.empty) 1 Try.underlying22 hj hj0 hj1 _ _ _ 0 rfl rfl ?_ ?_ ?_ ?_ ?_)
    case refine_1 => rfl
    case refine_2 => omega
    case refine_3 => omega
    case refine_4 => exact Nat.le_refl _
    intro w1 hown1 hgrow1
    have hbel1 : Below w.heap.size w w1 := (Below.refl _ _).grown hgrow1 (Nat.le_refl _) (fun k hk => by cases hk)
    have H1 : Hid (w1.ownsRow w.heap.size 9 1 (.slice (some ⟨w.heap.size, 0, none⟩) 0 0) 0 []) := hown1
    have H1b : Hid _ := hbel1
    have HD0 : Hid (enc (es ss) = [123] ++ (join ((es ss).drop 0) ++ [125])) := rfl
    clear hown1 hgrow1 hbel1 hc0' hcm'
    go_wp2
    go_loopw [6, 7] (fun ov iv wr => ∃ (k : Nat) (P : List UInt8) (oo : Option Addr) (oc : Nat), k < ss.length ∧ enc (es ss) = P ++ (join ((es ss).drop k) ++ [125]) ∧ iv = .int .i64 P.length ∧ ov = .slice oo k oc ∧ wr.ownsRow w.heap.size 9 1 (.slice oo k oc) k ((ss.take k).map Value.string) ∧ Below w.heap.size w wr) (fun _ iv _ => m - (intOf iv).toNat)
    case atStart => exact ⟨0, [123], _, 0, hsl, HD0.out, rfl, rfl, H1.out, H1b.out⟩
    case round =>
      clear H1 H1b HD0
      obtain ⟨k, P, oo, oc, hk, hD, rfl, rfl, hout, hbel⟩ := hrel
      obtain ⟨wo, rfl⟩ : ∃ wo : World, wo = wr := ⟨_, rfl⟩
      rw [join_drop ss k hk] at hD
      have HT : Hid ((ss.take (k + 1)).map Value.string = (ss.take k).map Value.string ++ [.string (ss.getD k ByteArray.empty)]) := by
        show _ = _
        rw [List.take_succ_eq_append_getElem hk, List.map_append]
        simp [List.getD, hk]
      have hlen := congrArg List.length hD
      rw [HM.out] at hlen
      simp only [List.length_append, List.length_cons] at hlen
      have hrl : 1 ≤ (restOf ((es ss).drop (k + 1))).length := by simp [restOf]
      have hcP : wo.cell? ⟨g, P.length, none⟩ = some (.int .u8 34) := by
        rw [hbel.cell (by exact hg), HC.out P.length (by rw [HM.out]; omega), hD, get_at]
        rfl
      have hbs := hbel.size
      have HD : Hid (enc (es ss) = P ++ 34 :: (escL (bl (ss.getD k ByteArray.empty)) ++ 34 :: restOf ((es ss).drop (k + 1)))) := hD
      clear hD
      have hP1 : P.length < m := by omega
      generalize hR : restOf ((es ss).drop (k + 1)) = R at *
      generalize hS : ss.getD k ByteArray.empty = s at *
      have HR : Hid _ := hR
      have HS : Hid _ := hS
      clear hR hS hlen
      have Hout : Hid (wo.ownsRow w.heap.size 9 1 (.slice oo k oc) k ((ss.take k).map Value.string)) := hout
      clear hout
      go_wp2_with (at_make; refine wpList_make_own _ rfl _ _ 25 rfl w.heap.size 5 i0 (.int .u8 0) 1 Try.underlying25 hi hz0 hz1 _ _ _ 0 rfl rfl ?_ ?_ ?_ ?_ ?_)
      case refine_1 => rfl
      case refine_2 => omega
      case refine_3 => omega
      case refine_4 => exact hbs
      intro w2 hown2 hgrow2
      have hbel2 : Below w.heap.size w w2 := hbel.grown hgrow2 hbs (fun k hk => by cases hk)
      have hout2 : w2.ownsRow w.heap.size 9 1 (.slice oo k oc) k ((ss.take k).map Value.string) := Hout.out.kept hgrow2 (by cases oo <;> simp [Value.ownBlock])
      have H2 : Hid (w2.ownsRow w.heap.size 5 1 (.slice (some ⟨wo.heap.size, 0, none⟩) 0 0) 0 []) := hown2
      have H2b : Hid _ := hbel2
      have H2o : Hid _ := hout2
      clear hown2 hgrow2 hbel2 hout2 Hout hbel hcP hbs
      go_wp2
      go_loopw [7, 8, 9] (fun iv cv fv wk => ∃ (P' l' dn : List UInt8) (co : Option Addr) (cc : Nat), bl s = dn ++ l' ∧ P.length < P'.length ∧ iv = .int .i64 P'.length ∧ cv = .slice co dn.length cc ∧ wk.ownsRow w.heap.size 5 1 (.slice co dn.length cc) dn.length (bc dn) ∧ wk.ownsRow w.heap.size 9 1 (.slice oo k oc) k ((ss.take k).map Value.string) ∧ Below w.heap.size w wk ∧
        ((fv = .bool false ∧ enc (es ss) = P' ++ (escL l' ++ 34 :: R)) ∨ (fv = .bool true ∧ l' = [] ∧ enc (es ss) = P' ++ R))) (fun iv _ _ _ => m + 1 - (intOf iv).toNat)
      case atStart => exact ⟨P ++ [34], bl s, [], _, 0, rfl, by simp, by simp, rfl, H2.out, H2o.out, H2b.out, .inl ⟨rfl, by rw [HD.out]; simp⟩⟩
      case round =>
        clear H2 H2o H2b
        obtain ⟨P', l', dn, co, cc, hsd, hPP, rfl, rfl, hcur, hout, hbel, hst⟩ := hrel
        have hbs := hbel.size
        have hdl : dn.length ≤ 1048576 := by
          have h1 := congrArg List.length hsd
          rw [bl_length, List.length_append] at h1
          have h2 := size_le_tot ss k hk
          rw [HS.out] at h2
          omega
        have HSD : Hid (bl s = dn ++ l') := hsd
        have Hout : Hid (wr.ownsRow w.heap.size 9 1 (.slice oo k oc) k ((ss.take k).map Value.string)) := hout
        clear hsd hout
        rcases hst with ⟨rfl, hD⟩ | ⟨rfl, rfl, hD⟩
        · have hlen := congrArg List.length hD
          rw [HM.out] at hlen
          cases l' with
          | nil =>
            simp only [show escL [] = [] from rfl, List.nil_append, List.length_append, List.length_cons] at hD hlen
            have hcz : wr.cell? ⟨g, P'.length, none⟩ = some (.int .u8 34) := by
              rw [hbel.cell (by exact hg), HC.out P'.length (by rw [HM.out]; omega), hD, get_at]
              rfl
            have hlt : P'.length < m := by omega
            have HD2 : Hid (enc (es ss) = (P' ++ [34]) ++ R) := by show _ = _; rw [hD]; simp
            clear hD hlen
            go_wp2
            go_roundw
            case rel => exact ⟨P' ++ [34], [], dn, co, cc, HSD.out, by simp; omega, by simp, rfl, hcur, Hout.out, hbel, .inr ⟨rfl, rfl, HD2.out⟩⟩
            case measure => simp [intOf]; omega
          | cons z l'' =>
            rw [escL_cons] at hD hlen
            have HSD2 : Hid (bl s = (dn ++ [z]) ++ l'') := by show _ = _; rw [HSD.out]; simp
            by_cases hz : z = 34 ∨ z = 92
            · rw [escB, if_pos hz] at hD hlen
              simp only [List.length_append, List.length_cons, List.cons_append, List.nil_append] at hD hlen
              have hcz : wr.cell? ⟨g, P'.length, none⟩ = some (.int .u8 92) := by
                rw [hbel.cell (by exact hg), HC.out P'.length (by rw [HM.out]; omega), hD, get_at]
                rfl
              have hcz1 : wr.cell? ⟨g, P'.length + 1, none⟩ = some (.int .u8 (z.toNat : Int)) := by
                rw [hbel.cell (by exact hg), HC.out (P'.length + 1) (by rw [HM.out]; omega), hD, get_at1]
              have hlt : P'.length + 1 < m := by omega
              have HD2 : Hid (enc (es ss) = (P' ++ [92, z]) ++ (escL l'' ++ 34 :: R)) := by show _ = _; rw [hD]; simp
              clear hD hlen
              rcases (show (((z.toNat : Int) != 34) = false) ∨ (((z.toNat : Int) != 34) = true ∧ ((z.toNat : Int) != 92) = false) from by rcases hz with rfl | rfl <;> decide) with h34 | ⟨h34, h92⟩
              all_goals
                clear hz
                go_wp2_with (at_builtin; refine wpList_push _ rfl _ _ 25 rfl w.heap.size 5 i0 (.int .u8 0) 1 Try.underlying25 hi hz0 hz1 hz2 rfl _ _ _ (bc dn) (.int .u8 (z.toNat : Int)) rfl rfl rfl hcur hbs (by omega) (by omega) ?_)
                intro bo5 bcap5 w5 hown5 hg5
                have hbel5 := hbel.trans (push_below hcur hbs hg5)
                have hout5 := push_other hcur Hout.out (by decide) hg5
                rw [bc_snoc dn z] at hown5
                have hlen5 : (dn ++ [z]).length = dn.length + 1 := by simp
                rw [← hlen5] at hown5 ⊢
                have H5 : Hid (w5.ownsRow w.heap.size 5 1 (.slice bo5 (dn ++ [z]).length bcap5) (dn ++ [z]).length (bc (dn ++ [z]))) := hown5
                have H5b : Hid _ := hbel5
                have H5o : Hid (w5.ownsRow w.heap.size 9 1 (.slice oo k oc) k ((ss.take k).map Value.string)) := hout5
                clear hg5 hcur hlen5 hown5 hbel5 hout5
                go_wp2
                go_roundw
                case rel => first | exact ⟨P' ++ [92, z], l'', dn ++ [z], bo5, bcap5, HSD2.out, by simp; omega, by simp, rfl, H5.out, H5o.out, H5b.out, .inl ⟨rfl, HD2.out⟩⟩ | ((repeat apply Exists.intro); exact ⟨⟨P' ++ [92, z], l'', dn ++ [z], bo5, bcap5, HSD2.out, by simp; omega, by simp, rfl, H5.out, H5o.out, H5b.out, .inl ⟨rfl, HD2.out⟩⟩, rfl⟩)
                case measure => simp [intOf]; omega
            · rw [escB, if_neg hz] at hD hlen
              simp only [List.length_append, List.length_cons, List.cons_append, List.nil_append] at hD hlen
              have hcz : wr.cell? ⟨g, P'.length, none⟩ = some (.int .u8 (z.toNat : Int)) := by
                rw [hbel.cell (by exact hg), HC.out P'.length (by rw [HM.out]; omega), hD, get_at]
              have hlt : P'.length < m := by omega
              have HD2 : Hid (enc (es ss) = (P' ++ [z]) ++ (escL l'' ++ 34 :: R)) := by show _ = _; rw [hD]; simp
              clear hD hlen
              have h34 : ((z.toNat : Int) == 34) = false := by
                rw [beq_eq_false_iff_ne]
                intro h
                exact hz (.inl (UInt8.toNat_inj.1 (by show z.toNat = 34; omega)))
              have h92 : ((z.toNat : Int) == 92) = false := by
                rw [beq_eq_false_iff_ne]
                intro h
                exact hz (.inr (UInt8.toNat_inj.1 (by show z.toNat = 92; omega)))
              clear hz
              go_wp2_with (at_builtin; refine wpList_push _ rfl _ _ 25 rfl w.heap.size 5 i0 (.int .u8 0) 1 Try.underlying25 hi hz0 hz1 hz2 rfl _ _ _ (bc dn) (.int .u8 (z.toNat : Int)) rfl rfl rfl hcur hbs (by omega) (by omega) ?_)
              intro bo5 bcap5 w5 hown5 hg5
              have hbel5 := hbel.trans (push_below hcur hbs hg5)
              have hout5 := push_other hcur Hout.out (by decide) hg5
              rw [bc_snoc dn z] at hown5
              have hlen5 : (dn ++ [z]).length = dn.length + 1 := by simp
              rw [← hlen5] at hown5 ⊢
              have H5 : Hid (w5.ownsRow w.heap.size 5 1 (.slice bo5 (dn ++ [z]).length bcap5) (dn ++ [z]).length (bc (dn ++ [z]))) := hown5
              have H5b : Hid _ := hbel5
              have H5o : Hid (w5.ownsRow w.heap.size 9 1 (.slice oo k oc) k ((ss.take k).map Value.string)) := hout5
              clear hg5 hcur hlen5 hown5 hbel5 hout5
              go_wp2
              go_roundw
              case rel => first | exact ⟨P' ++ [z], l'', dn ++ [z], bo5, bcap5, HSD2.out, by simp; omega, by simp, rfl, H5.out, H5o.out, H5b.out, .inl ⟨rfl, HD2.out⟩⟩ | ((repeat apply Exists.intro); exact ⟨⟨P' ++ [z], l'', dn ++ [z], bo5, bcap5, HSD2.out, by simp; omega, by simp, rfl, H5.out, H5o.out, H5b.out, .inl ⟨rfl, HD2.out⟩⟩, rfl⟩)
              case measure => simp [intOf]; omega
        · have hdn : dn = bl s := by rw [HSD.out, List.append_nil]
          have hcv : (convert 25 9 (.slice co dn.length cc)).run Try.prog wr = .ok (.string s) wr := conv_own (by rw [hdn] at hcur ⊢; exact hcur)
          have hlen := congrArg List.length hD
          rw [HM.out] at hlen
          simp only [List.length_append] at hlen
          clear hdn hcur HSD
          have hesl := es_length ss
          by_cases hlast : (es ss).drop (k + 1) = []
          · have hkl : k + 1 = ss.length := by
              have h1 := congrArg List.length hlast
              rw [List.length_drop, hesl] at h1
              simp at h1
              omega
            have hR1 : R.length = 1 := by rw [← HR.out, restOf, if_pos hlast]; rfl
            have hPm : m = P'.length := by omega
            have HK : Hid (k + 1 = ss.length) := hkl
            clear hesl hlast hR1 hlen hD hkl
            have hq2 : ((P'.length : Int) == (m : Int)) = true := by rw [beq_iff_eq]; omega
            have hge : m ≤ P'.length := by omega
            clear hPm
            go_wp2_with (at_builtin; refine wpList_push _ rfl _ _ 22 rfl w.heap.size 9 j0 (.string ByteArray.empty) 16 Try.underlying22 hj hj0 hj1 hj2 rfl _ _ _ ((ss.take k).map Value.string) (.string s) rfl rfl rfl Hout.out hbs (by omega) (by omega) ?_)
            intro bo5 bcap5 w5 hown5 hg5
            have hbel5 := hbel.trans (push_below Hout.out hbs hg5)
            rw [← List.map_take, ← HT.out, HK.out, List.take_length] at hown5
            rw [HK.out]
            have H5 : Hid (w5.ownsRow w.heap.size 9 1 (.slice bo5 ss.length bcap5) ss.length (ss.map Value.string)) := hown5
            have H5b : Hid _ := hbel5
            clear hg5 hown5 hbel5 hcv
            go_wp2
            go_ret2
            exact ⟨bo5, bcap5, rfl, H5.out, H5b.out⟩
          · have hkl : k + 1 < ss.length := by
              rcases Nat.lt_or_ge (k + 1) ss.length with h | h
              · exact h
              · exact absurd (List.drop_of_length_le (by rw [hesl]; exact h)) hlast
            have hR1 : R = 44 :: (join ((es ss).drop (k + 1)) ++ [125]) := by rw [← HR.out, restOf, if_neg hlast]; rfl
            rw [hR1] at hD hlen
            simp only [List.length_append, List.length_cons] at hlen
            have hlt : P'.length < m := by omega
            have hcz : wr.cell? ⟨g, P'.length, none⟩ = some (.int .u8 44) := by
              rw [hbel.cell (by exact hg), HC.out P'.length (by rw [HM.out]; omega), hD, get_at]
              rfl
            have HD2 : Hid (enc (es ss) = (P' ++ [44]) ++ (join ((es ss).drop (k + 1)) ++ [125])) := by show _ = _; rw [hD]; simp
            have hq2 : ((P'.length : Int) == (m : Int)) = false := by rw [beq_eq_false_iff_ne]; omega
            clear hesl hlast hR1 hlen hD
            go_wp2_with (at_builtin; refine wpList_push _ rfl _ _ 22 rfl w.heap.size 9 j0 (.string ByteArray.empty) 16 Try.underlying22 hj hj0 hj1 hj2 rfl _ _ _ ((ss.take k).map Value.string) (.string s) rfl rfl rfl Hout.out hbs (by omega) (by omega) ?_)
            intro bo5 bcap5 w5 hown5 hg5
            have hbel5 := hbel.trans (push_below Hout.out hbs hg5)
            rw [← List.map_take, ← HT.out] at hown5
            have hcz5 : w5.cell? ⟨g, P'.length, none⟩ = some (.int .u8 44) := ((push_below Hout.out hbs hg5).cell (by exact hg)).trans hcz
            have H5 : Hid (w5.ownsRow w.heap.size 9 1 (.slice bo5 (k + 1) bcap5) (k + 1) ((ss.take (k + 1)).map Value.string)) := hown5
            have H5b : Hid _ := hbel5
            clear hg5 hown5 hbel5 hcv hcz
            go_wp2
            go_roundw
            case rel => first | exact ⟨k + 1, P' ++ [44], bo5, bcap5, hkl, HD2.out, by simp, rfl, H5.out, H5b.out⟩ | ((repeat apply Exists.intro); exact ⟨⟨k + 1, P' ++ [44], bo5, bcap5, hkl, HD2.out, by simp, rfl, H5.out, H5b.out⟩, rfl⟩)
            case measure => simp [intOf]; omega
end Go.Proofs.Qxb6601057a.DecW
