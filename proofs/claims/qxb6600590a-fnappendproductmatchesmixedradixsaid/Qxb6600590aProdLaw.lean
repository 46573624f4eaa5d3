/-
  FnAppendProductMatchesMixedRadix' walk.
-/
import Derived.Test.Qxb6600590aProd5
namespace Go.Proofs.Qxb6600590a.Prod
open Go.RowKit Strs Radix
set_option linter.unusedVariables false

def Goal (w : World) (e : Ending) (w' : World) : Prop := e = .returned (.bool true) ∧ Below w.heap.size w w'

theorem info2 : (Try.prog.info? 2).map (fun i => (i.zero, i.size, i.bytes)) = some (some (.int .i64 0), 1, 8) := by kernel_rfl

/-- The law's own digits and buffer, beside memory that stands. -/
structure St (B Dg n : Nat) (w4 wr : World) (dd : List Nat) (bo : Option Addr) (bn bc : Nat) (bs : List Value) : Prop where
  len : dd.length = n
  dig : wr.ownsRow B 2 1 (.slice (some ⟨Dg, 0, none⟩) n n) n (pts dd)
  buf : wr.ownsRow B 5 1 (.slice bo bn bc) bn bs
  below : Below B w4 wr
  size : B ≤ wr.heap.size

section
variable {B Dg n : Nat} {w4 wr wr' : World} {dd : List Nat} {bo : Option Addr} {bn bc : Nat} {bs : List Value}
theorem St.cut (h : St B Dg n w4 wr dd bo bn bc bs) : St B Dg n w4 wr dd bo 0 bc [] := ⟨h.len, h.dig, trunc_own h.buf, h.below, h.size⟩
theorem St.drewN (h : St B Dg n w4 wr dd bo bn bc bs) (m : Nat) : St B Dg n w4 (wr.drewN m) dd bo bn bc bs := ⟨h.len, h.dig, h.buf, below_drewN h.below m, h.size⟩
theorem St.drew (h : St B Dg n w4 wr dd bo bn bc bs) : St B Dg n w4 wr.drew dd bo bn bc bs := ⟨h.len, h.dig, h.buf, h.below.drew, h.size⟩
theorem St.set (h : St B Dg n w4 wr dd bo bn bc bs) (k x : Nat) : St B Dg n w4 (wr.setCell ⟨Dg, k, none⟩ (.int .i64 (x : Int))) (dd.set k x) bo bn bc bs := by
  obtain ⟨h1, h2⟩ := h.dig.stored k (.int .i64 (x : Int))
  rw [pts_set] at h1
  exact ⟨by rw [List.length_set]; exact h.len, h1, owns_other h.buf h.dig (by decide) h2, h.below.trans (Below.grow h.dig h.size h2), Nat.le_trans h.size h2.size⟩
theorem St.push {bo' : Option Addr} {bn' bc' : Nat} {bs' : List Value} (h : St B Dg n w4 wr dd bo bn bc bs) (hb : wr'.ownsRow B 5 1 (.slice bo' bn' bc') bn' bs') (hg : wr.grownBy wr' (Value.slice bo bn bc).ownBlock) : St B Dg n w4 wr' dd bo' bn' bc' bs' :=
  ⟨h.len, owns_other h.dig h.buf (by decide) hg, hb, h.below.trans (Below.grow h.buf h.size hg), Nat.le_trans h.size hg.size⟩
end

theorem pos_of_prod (l : List Nat) (h : 0 < l.prod) : ∀ x, x ∈ l → 0 < x := by
  induction l with
  | nil => intro x hx; cases hx
  | cons a l ih =>
    rw [List.prod_cons] at h
    intro x hx
    rcases List.mem_cons.1 hx with rfl | hx
    · exact Nat.pos_of_mul_pos_right h
    · exact ih (Nat.pos_of_mul_pos_left h) x hx

theorem drop_set_eq (dd : List Nat) (k x : Nat) (hk : k < dd.length) : (dd.set k x).drop k = x :: dd.drop (k + 1) := by
  rw [List.drop_eq_getElem_cons (by simpa using hk), List.getElem_set_self, List.drop_set_of_lt (by omega)]

theorem pts_replicate (n : Nat) : (madeCells #[Value.int .i64 0] n).toList = pts (List.replicate n 0) := by
  have h1 := fill_zero [] (.int .i64 0) n
  simp only [fill, List.take_nil, List.nil_append, Nat.sub_zero] at h1
  rw [← h1]
  simp [pts]

theorem outs_at (ss : List ByteArray) (R : List SRow) (t : Nat) (ht : t < pr R) : (ss ++ outsTo R (pr R)).getD (ss.length + t) ByteArray.empty = text (R.map SRow.ss) (digs (lens R) t) := by
  rw [List.getD, List.getElem?_append_right (by omega)]
  simp [outsTo, ht]

set_option maxRecDepth 100000 in
set_option maxHeartbeats 8000000 in
theorem walk_in (a b : Option Addr) (cap capb : Nat) (ss : List ByteArray) (rows : List SRow) (w : World) (hnil : a = none → ss.length = 0 ∧ cap = 0) (hc : Cells w a (ss.map Value.string))
    (hnil0 : b = none → rows.length = 0 ∧ capb = 0) (hG : Grid w.heap.size w b rows) (hnilR : ∀ r, r ∈ rows → (r.a = none → r.ss.length = 0 ∧ r.cap = 0)) :
    Calls Try.prog 7 #[.slice a ss.length cap, .slice b rows.length capb] w (Goal w) := by
  obtain ⟨i0, hi, hi0, hi1, hi2⟩ := info_parts info2
  obtain ⟨k0, hk0, hk1, hk2, hk3⟩ := info_parts info5
  have H1 : Hid (a = none → ss.length = 0 ∧ cap = 0) := hnil
  have H2 : Hid (b = none → rows.length = 0 ∧ capb = 0) := hnil0
  have H3 : Hid (∀ r, r ∈ rows → (r.a = none → r.ss.length = 0 ∧ r.cap = 0)) := hnilR
  have H4 : Hid (Grid w.heap.size w b rows) := hG
  have H5 : Hid (Cells w a (ss.map Value.string)) := hc
  clear hnil hnil0 hnilR hG hc
  go_enter Try.func7, Try.ntmps7
  go_wp2_with fail
  refine (bytes21 a b cap capb ss rows _ _ H5.out H4.out).mono ?_
  rintro e w' ⟨ok, rfl, rfl⟩
  cases ok with
  | false =>
    go_wp2
    go_ret
    exact ⟨rfl, Below.refl _ _⟩
  | true =>
    go_wp2_with fail
    refine (bytes14 a cap ss _ H5.out).mono ?_
    rintro e w' ⟨t1, rfl, rfl, ht0, ht1, ht2⟩
    by_cases hA : t1 ≤ 1048576
    · have hA2 := ht2 hA
      have hss : ss.length ≤ 65536 := by omega
      clear ht2 hA2
      go_wp2_with fail
      refine (bytes22 b capb rows _ _ H4.out).mono ?_
      rintro e w' ⟨t2, rfl, rfl, hu0, hu1, hu2⟩
      by_cases hB : t2 ≤ 1048576
      · have hsz := hu2 hB
        clear hu2
        by_cases hC : t1 + t2 ≤ 1048576
        · go_wp2_with fail
          refine (psize b capb rows _ _ H4.out hsz).mono ?_
          rintro e w' ⟨cnt, ok, rfl, rfl, hok⟩
          cases ok with
          | false =>
            clear hok
            go_wp2
            go_ret
            exact ⟨rfl, Below.refl _ _⟩
          | true =>
            obtain ⟨hcnt, hpr⟩ := hok rfl
            subst hcnt
            clear hok
            go_wp2_with fail
            refine (clone24_any b capb rows _ (by omega) (fun r hr => ?_) H4.out H2.out H3.out).mono ?_
            · obtain ⟨i, hi, rfl⟩ := List.getElem_of_mem hr
              have h3 : rows.getD i SRow.zero = rows[i] := by simp [List.getD, hi]
              have h4 := gtotTo_succ rows i hi
              have h5 := gtotTo_le rows (i + 1)
              rw [h3] at h4
              unfold gw at h4
              omega
            rintro e w1 ⟨bo, bc, R, rfl, hRl, hRss, hGR, hRn, hbel1⟩
            have HPR : Hid (pr rows = pr R) := (pr_eq R rows hRss).symm
            have hszR : 24 * R.length + gtot R ≤ 1048576 := by rw [gtot_eq R rows hRss, hRl]; exact hsz
            have HRL : Hid (rows.length = R.length) := hRl.symm
            have HGR : Hid (Grid w1.heap.size w1 bo R) := hGR
            have HRn : Hid (∀ r, r ∈ R → (r.a = none → r.ss.length = 0 ∧ r.cap = 0)) := hRn
            rw [HRL.out, HPR.out]
            rw [HPR.out] at hpr
            clear hRl hRss hGR hRn
            go_wp2_with fail
            refine (clone_any a ss.length cap ss _ (by omega) rfl H1.out (H5.out.below hbel1)).mono ?_
            rintro e w2 ⟨ko, kc, rfl, hkeep, hbel2, _⟩
            have hbel12 : Below w'.heap.size w' w2 := hbel1.trans (hbel2.mono hbel1.size)
            go_wp2_with fail
            refine (clone_any a ss.length cap ss _ (by omega) rfl H1.out (H5.out.below hbel12)).mono ?_
            rintro e w3 ⟨io, ic, rfl, hitems, hbel3, _⟩
            have hs12 := hbel2.size
            have hs23 := hbel3.size
            have hGR3 : Grid w1.heap.size w3 bo R := HGR.out.below (hbel2.trans (hbel3.mono hs12))
            go_wp2_with fail
            refine (zzprod w2.heap.size w1.heap.size io bo ic bc R ss w3 hs12 hs23 (by omega) hszR hitems hGR3 HRn.out hpr).mono ?_
            rintro e w4 ⟨oo, oc, rfl, hout, hbel4⟩
            have hs34 := hbel4.size
            have HKeep : Hid (Lies w4.heap.size w4 ko (ss.map Value.string)) := ((owns_cells hkeep).lies.below (hbel3.trans hbel4)).mono (by omega)
            have HOut : Hid (Lies w4.heap.size w4 oo ((ss ++ outsTo R (pr R)).map Value.string)) := (owns_cells hout).lies
            have HG4 : Hid (Grid w4.heap.size w4 bo R) := (hGR3.below (hbel4.mono hs12)).mono (by omega)
            have HBel : Hid (Below w'.heap.size w' w4) := hbel12.trans ((hbel3.trans hbel4).mono hbel12.size)
            clear hout hkeep hitems hGR3 hbel1 hbel2 hbel12 hbel3 hbel4 H1 H2 H3 H4 H5 HGR HRn HRL hsz
            go_wp2
            go_loopw [12] (fun iv wr => ∃ j : Nat, j ≤ ss.length ∧ iv = .int .i64 j ∧ Below w4.heap.size w4 wr) (fun iv _ => ss.length - (intOf iv).toNat)
            case atStart => exact ⟨0, Nat.zero_le _, rfl, Below.refl _ _⟩
            case round =>
              obtain ⟨j, hj, rfl, hbr⟩ := hrel
              by_cases hlt : j < ss.length
              · obtain ⟨ob, ooff, rfl, _, _, hoc⟩ := (HOut.out.below hbr).str (j := j) (by simp; omega)
                obtain ⟨kb, koff, rfl, _, _, hkc⟩ := (HKeep.out.below hbr).str (j := j) hlt
                have ho := hoc j (by simp; omega)
                have hk := hkc j hlt
                have he : (ss ++ outsTo R (pr R)).getD j ByteArray.empty = ss.getD j ByteArray.empty := by rw [List.getD, List.getElem?_append_left hlt]; rfl
                rw [he] at ho
                clear hoc hkc he
                generalize ss.getD j ByteArray.empty = x at ho hk
                go_wp2
                go_quiet (fail)
                go_wp2
                go_roundw
                case rel => exact ⟨j + 1, by omega, by go_num, below_drewN hbr _⟩
                case measure => simp [intOf]; omega
              · clear HKeep
                obtain ⟨wo, rfl⟩ : ∃ wo : World, wo = wr := ⟨_, rfl⟩
                go_wp2_with (at_make; refine wpList_make_full _ rfl _ _ 43 rfl w4.heap.size 2 i0 (.int .i64 0) 1 Try.underlying43 hi hi0 hi1 _ _ _ _ R.length rfl rfl ?_ ?_ ?_ ?_ ?_ ?_)
                case refine_1 => rfl
                case refine_2 => rfl
                case refine_3 => rw [hi2]; omega
                case refine_4 => unfold maxLen; omega
                case refine_5 => exact hbr.size
                intro w5 hown5 hgrow5
                rw [pts_replicate] at hown5
                have hst : St w4.heap.size wo.heap.size R.length w4 w5 (List.replicate R.length 0) none 0 0 [] :=
                  ⟨by simp, hown5, World.ownsRow_nil _ _ _ _, hbr.grown hgrow5 hbr.size (fun k hk => by cases hk), Nat.le_trans hbr.size hgrow5.size⟩
                have HSt : Hid _ := hst
                clear hst hown5 hgrow5
                go_wp2
                go_loopw [14, 15] (fun vb iv wr => ∃ (t : Nat) (dd : List Nat) (bo' : Option Addr) (bn bc' : Nat) (bs : List Value), t ≤ pr R ∧ iv = .int .i64 t ∧ vb = .slice bo' bn bc' ∧ St w4.heap.size wo.heap.size R.length w4 wr dd bo' bn bc' bs) (fun _ iv _ => pr R - (intOf iv).toNat)
                case atStart => exact ⟨0, _, none, 0, 0, [], Nat.zero_le _, rfl, rfl, HSt.out⟩
                case round =>
                  clear HSt
                  obtain ⟨t, dd, bo', bn, bc', bs, ht, rfl, rfl, hst⟩ := hrel
                  obtain ⟨wt, rfl⟩ : ∃ wt : World, wt = wr := ⟨_, rfl⟩
                  by_cases htl : t < pr R
                  · have HLp : Hid (∀ l, l ∈ lens R → 0 < l) := pos_of_prod (lens R) (by have : (lens R).prod = pr R := rfl; omega)
                    have HSt : Hid _ := hst
                    clear hst
                    have HLL : Hid ((lens R).length = R.length) := lens_length R
                    have hr0 : (rad ((lens R).drop R.length) t) = ([], t) := by rw [List.drop_of_length_le (by rw [HLL.out]; omega)]; rfl
                    have HR0 : Hid _ := hr0
                    clear hr0
                    go_wp2
                    go_loopw [16, 17] (fun rv kv wk => ∃ (k : Nat) (dd' : List Nat), k ≤ R.length ∧ kv = .int .i64 ((k : Int) - 1) ∧ rv = .int .i64 ((rad ((lens R).drop k) t).2 : Nat) ∧ (rad ((lens R).drop k) t).2 ≤ t ∧ dd'.drop k = (rad ((lens R).drop k) t).1 ∧ St w4.heap.size wo.heap.size R.length w4 wk dd' bo' bn bc' bs) (fun _ kv _ => (intOf kv + 1).toNat)
                    case atStart => exact ⟨R.length, dd, Nat.le_refl _, rfl, by rw [HR0.out], by rw [HR0.out]; exact Nat.le_refl _, by rw [HR0.out, List.drop_of_length_le (by rw [HSt.out.len]; omega)], HSt.out⟩
                    case round =>
                      clear HSt HR0
                      obtain ⟨k, dd', hk, rfl, rfl, hrt, hdr, hst⟩ := hrel
                      have HDr : Hid (dd'.drop k = (rad ((lens R).drop k) t).1) := hdr
                      clear hdr
                      cases k with
                      | zero =>
                        have hds : dd' = digs (lens R) t := by
                          have h := HDr.out
                          simp only [List.drop_zero] at h
                          exact h
                        rw [hds] at hst
                        clear hds HDr
                        have HDL : Hid ((digs (lens R) t).length = R.length) := by show _ = _; rw [digs_length, lens_length]
                        have HDlt : Hid (∀ k, k < R.length → (digs (lens R) t).getD k 0 < (R.getD k SRow.zero).ss.length) := fun k hk => by
                          have h := digs_lt (lens R) t HLp.out k (by rw [lens_length]; exact hk)
                          rwa [lens_at R k hk] at h
                        have HTx : Hid (textTo (R.map SRow.ss) (digs (lens R) t) R.length = text (R.map SRow.ss) (digs (lens R) t)) := by
                          have h := textTo_full (R.map SRow.ss) (digs (lens R) t) (by rw [HDL.out]; simp)
                          rw [List.length_map] at h
                          exact h
                        have HOA : Hid ((ss ++ outsTo R (pr R)).getD (ss.length + t) ByteArray.empty = text (R.map SRow.ss) (digs (lens R) t)) := outs_at ss R t htl
                        have HSt : Hid _ := hst.cut
                        clear hst
                        generalize digs (lens R) t = ds at *
                        go_wp2
                        go_loopw [14, 19] (fun vb kv wk => ∃ (k : Nat) (b2 : Option Addr) (c2 : Nat), k ≤ R.length ∧ kv = .int .i64 k ∧ vb = .slice b2 (textTo (R.map SRow.ss) ds k).size c2 ∧ (textTo (R.map SRow.ss) ds k).size ≤ gtotTo R k ∧
                          St w4.heap.size wo.heap.size R.length w4 wk ds b2 (textTo (R.map SRow.ss) ds k).size c2 (Lib.strCells (textTo (R.map SRow.ss) ds k))) (fun _ kv _ => R.length - (intOf kv).toNat)
                        case atStart => exact ⟨0, bo', bc', Nat.zero_le _, rfl, rfl, Nat.zero_le _, HSt.out⟩
                        case round =>
                          clear HSt
                          obtain ⟨k, b2, c2, hk, rfl, rfl, hts, hst⟩ := hrel
                          have hgl := gtotTo_le R k
                          by_cases hlt : k < R.length
                          · obtain ⟨bb, boff, rfl, _, hbw, hrow, hLs⟩ := (HG4.out.below hst.below).row hlt
                            have hcr := hrow k hlt
                            have hdl := HDlt.out k hlt
                            obtain ⟨cb, coff, hra, _, _, hstr⟩ := hLs.str hdl
                            have hcs := hstr _ hdl
                            have hpt := (hst.dig.cellAt k (by omega)).trans (pts_at ds k (by rw [HDL.out]; exact hlt))
                            have HTS : Hid (Lib.strCells (textTo (R.map SRow.ss) ds (k + 1)) = Lib.strCells (textTo (R.map SRow.ss) ds k) ++ Lib.strCells (((R.map SRow.ss).getD k []).getD (ds.getD k 0) ByteArray.empty)) := textTo_succ _ _ k (by simpa using hlt) (by rw [HDL.out]; simp)
                            have HTZ : Hid ((textTo (R.map SRow.ss) ds (k + 1)).size = (textTo (R.map SRow.ss) ds k).size + (((R.map SRow.ss).getD k []).getD (ds.getD k 0) ByteArray.empty).size) := textTo_size _ _ k (by simpa using hlt) (by rw [HDL.out]; simp)
                            have hxs := size_le_gw R k _ hlt hdl
                            have HGS : Hid (gtotTo R (k + 1) = gtotTo R k + gw (R.getD k SRow.zero)) := gtotTo_succ R k hlt
                            have hgl2 := gtotTo_le R (k + 1)
                            rw [HGS.out] at hgl2
                            rw [ss_at R k hlt] at HTS HTZ hxs
                            have hbuf := hst.drew.buf
                            have hks := hst.drew.size
                            have HI : Hid _ := hst
                            clear hst hrow hstr hLs
                            generalize R.getD k SRow.zero = r at *
                            obtain ⟨ra, rc, rs⟩ := r
                            simp only [SRow.val] at hcr hcs hdl hra hxs HTS HTZ
                            subst hra
                            generalize ds.getD k 0 = d at *
                            generalize rs.getD d ByteArray.empty = x at *
                            generalize textTo (R.map SRow.ss) ds k = T at *
                            generalize gw ⟨some ⟨cb, coff, none⟩, rc, rs⟩ = G at *
                            have hmx : T.size + x.size ≤ maxLen := by unfold maxLen; omega
                            go_wp2
                            go_region_law ((refine step_append_str _ (by rfl) _ _ 22 9 (by rfl) w4.heap.size 5 k0 Try.underlying22 Try.underlying9 hk0 hk1 hk2 hk3 _ _ _ (by rfl) hbuf _ (by rfl) hmx (by omega) hks ?_; intro b3 c3 w6 hown6 hgrow6))
                            all_goals
                              have HI2 : Hid _ := HI.out.drew.push hown6 hgrow6
                              clear hown6 hgrow6 hbuf
                              go_wp2
                              go_roundw
                              case rel => first | exact ⟨k + 1, b3, c3, by omega, by go_num, by rw [HTZ.out], by rw [HTZ.out, HGS.out]; omega, by rw [HTZ.out, HTS.out]; exact HI2.out⟩ | ((repeat apply Exists.intro); exact ⟨⟨k + 1, b3, c3, by omega, by go_num, by rw [HTZ.out], by rw [HTZ.out, HGS.out]; omega, by rw [HTZ.out, HTS.out]; exact HI2.out⟩, rfl⟩)
                              case measure => simp [intOf]; omega
                          · obtain rfl : k = R.length := by omega
                            rw [HTx.out] at hts hst ⊢
                            clear HTx
                            generalize text (R.map SRow.ss) ds = x at *
                            have hcv : ∀ m, (convert 22 9 (.slice b2 x.size c2)).run Try.prog (wr.drewN m) = .ok (.string x) (wr.drewN m) := fun m => conv_own (hst.drewN m).buf
                            obtain ⟨ob, ooff, rfl, _, _, hoc⟩ := (HOut.out.below hst.below).str (j := ss.length + t) (by simp [outsTo_length]; omega)
                            have ho := hoc (ss.length + t) (by simp [outsTo_length]; omega)
                            rw [HOA.out] at ho
                            have HI : Hid _ := hst
                            clear hoc hst
                            go_wp2
                            go_quiet (fail)
                            clear hcv ho
                            go_wp2
                            go_roundw
                            case rel => exact ⟨t + 1, ds, b2, _, c2, _, by omega, by go_num, rfl, HI.out.drewN _⟩
                            case measure => simp [intOf]; omega
                      | succ k =>
                        rw [show ((k + 1 : Nat) : Int) - 1 = (k : Int) from by omega]
                        obtain ⟨bb, boff, rfl, _, _, hrow, _⟩ := (HG4.out.below hst.below).row (k := k) (by omega)
                        have hcr := hrow k (by omega)
                        have HRD : Hid (rad ((lens R).drop k) t = (((rad ((lens R).drop (k + 1)) t).2 % (R.getD k SRow.zero).ss.length) :: (rad ((lens R).drop (k + 1)) t).1, (rad ((lens R).drop (k + 1)) t).2 / (R.getD k SRow.zero).ss.length)) := by
                          have h := rad_drop (lens R) t k (by rw [HLL.out]; omega)
                          rw [lens_at R k (by omega)] at h
                          exact h
                        have hlp : 0 < (R.getD k SRow.zero).ss.length := by
                          rw [← lens_at R k (by omega)]
                          refine HLp.out _ ?_
                          have : k < (lens R).length := by rw [HLL.out]; omega
                          simp [List.getD, this]
                        have hkd : k < dd'.length := by rw [hst.len]; omega
                        have HDS : Hid (∀ x, (dd'.set k x).drop k = x :: dd'.drop (k + 1)) := fun x => drop_set_eq dd' k x hkd
                        have hcell := (hst.dig.cellAt k (by omega)).trans (pts_at _ k hkd)
                        have hfr := hst.dig.frozenAt k
                        have HSS : Hid (∀ x : Nat, St w4.heap.size wo.heap.size R.length w4 (wr.setCell ⟨wo.heap.size, k, none⟩ (.int .i64 (x : Int))) (dd'.set k x) bo' bn bc' bs) := fun x => hst.set k x
                        clear hrow hst hkd
                        generalize R.getD k SRow.zero = r at *
                        obtain ⟨ra, rc, rs⟩ := r
                        simp only [SRow.val] at hcr hlp HRD
                        generalize (rad ((lens R).drop (k + 1)) t).2 = q at *
                        have hq0 := Nat.div_le_self q rs.length
                        have hq1 : (0 : Int) ≤ (q : Int) / (rs.length : Int) := Int.ediv_nonneg (by omega) (by omega)
                        have hq2 : (q : Int) / (rs.length : Int) ≤ 65536 := by rw [← Int.natCast_ediv]; omega
                        have HS1 : Hid (St w4.heap.size wo.heap.size R.length w4 (wr.setCell ⟨wo.heap.size, k, none⟩ (.int .i64 ((q : Int) % (rs.length : Int)))) (dd'.set k (q % rs.length)) bo' bn bc' bs) := by
                          have h := HSS.out (q % rs.length)
                          rwa [Int.natCast_emod] at h
                        clear HSS
                        go_wp2
                        go_roundw
                        case rel => exact ⟨k, dd'.set k (q % rs.length), by omega, rfl, by rw [HRD.out]; simp, by rw [HRD.out]; exact Nat.le_trans hq0 hrt, by rw [HDS.out, HRD.out, HDr.out], HS1.out⟩
                        case measure => simp [intOf]
                  · go_wp2
                    go_ret
                    exact ⟨rfl, HBel.out.trans (hst.below.mono HBel.out.size)⟩
        · go_wp2
          go_ret
          exact ⟨rfl, Below.refl _ _⟩
      · clear hu2
        go_wp2
        go_ret
        exact ⟨rfl, Below.refl _ _⟩
    · clear ht2
      go_wp2
      go_ret
      exact ⟨rfl, Below.refl _ _⟩
end Go.Proofs.Qxb6600590a.Prod
