/-
  FnLevelsAreBreadthFirstDistances' walk.
-/
import Derived.Test.Qxb6605245aZz
namespace Go.Proofs.Qxb6605245a.Bfs
open Go.RowKit Strs Go.Proofs.Qxb6605245a.Prod
set_option linter.unusedVariables false

def Goal (w : World) (e : Ending) (w' : World) : Prop := e = .returned (.bool true) ∧ Below w.heap.size w w'

/-- The edges of the vertices before U, and the first j of U's. -/
def Sound (rows : List IRow) (hd rm : List Int) (n : Nat) (e : Int) : Prop := 0 ≤ e ∧ e < hd.length ∧ e < rm.length ∧ 0 ≤ lk hd e ∧ lk hd e < n
def Okay (rows : List IRow) (hd rm : List Int) (n U : Nat) : Prop := ∀ u, u < U → ∀ e ∈ (rows.getD u IRow.zero).ss, Sound rows hd rm n e
def OkayJ (rs : List Int) (rows : List IRow) (hd rm : List Int) (n j : Nat) : Prop := ∀ e ∈ rs.take j, Sound rows hd rm n e

theorem Okay.ok {rows : List IRow} {hd rm : List Int} {n : Nat} (h : Okay rows hd rm n n) : (gr n rows hd rm).Ok := fun u hu e he => by
  have hu1 := hu.1
  have hu2 : u < (n : Int) := hu.2
  obtain ⟨h1, h2, h3, h4, h5⟩ := h u.toNat (by omega) e he
  exact ⟨h1, h2, h3, h4, h5⟩

theorem gr_same {rows rows' : List IRow} (n : Nat) (hd rm : List Int) (h : rows'.map IRow.ss = rows.map IRow.ss) : gr n rows' hd rm = gr n rows hd rm := by
  unfold gr
  congr 1
  funext u
  have h2 : ∀ l : List IRow, (l.getD u.toNat IRow.zero).ss = (l.map IRow.ss).getD u.toNat [] := fun l => by
    by_cases hu : u.toNat < l.length
    · simp [List.getD, hu]
    · simp [List.getD, hu, IRow.zero]
  rw [h2, h2, h]

theorem Okay.next {rows : List IRow} {hd rm : List Int} {n U : Nat} (h : Okay rows hd rm n U) (h2 : OkayJ (rows.getD U IRow.zero).ss rows hd rm n (rows.getD U IRow.zero).ss.length) : Okay rows hd rm n (U + 1) := fun u hu e he => by
  by_cases hU : u = U
  · subst hU
    exact h2 e (by rw [List.take_length]; exact he)
  · exact h u (by omega) e he
theorem OkayJ.next {rs : List Int} {rows : List IRow} {hd rm : List Int} {n j : Nat} (h : OkayJ rs rows hd rm n j) (hj : j < rs.length) (h2 : Sound rows hd rm n (rs.getD j 0)) : OkayJ rs rows hd rm n (j + 1) := fun e he => by
  rcases take_mem hj he with h1 | h1
  · exact h e h1
  · subst h1; exact h2

theorem info4 : (Try.prog.info? 4).map (fun i => (i.zero, i.size, i.bytes)) = some (some (.bool false), 1, 1) := by kernel_rfl

/-- The witnesses' row, in block wb. -/
def Wrow (wb n : Nat) (w : World) (wi : List Bool) : Prop := w.ownsRow wb 4 1 (.slice (some ⟨wb, 0, none⟩) n n) n (wi.map Value.bool)
theorem Wrow.len {wb n : Nat} {w : World} {wi : List Bool} (h : Wrow wb n w wi) : wi.length = n := by simpa using h.1
theorem Wrow.at {wb n : Nat} {w : World} {wi : List Bool} (h : Wrow wb n w wi) {k : Nat} (hk : k < n) : w.cell? ⟨wb, k, none⟩ = some (.bool (wi.getD k false)) := by
  rw [World.ownsRow.cellAt h k (by omega)]
  have : k < wi.length := by rw [h.len]; exact hk
  simp [List.getD, this]
theorem Wrow.fz {wb n : Nat} {w : World} {wi : List Bool} (h : Wrow wb n w wi) (k : Nat) : w.frozen? ⟨wb, k, none⟩ = false := World.ownsRow.frozenAt h k
theorem Wrow.put {wb n : Nat} {w : World} {wi : List Bool} (h : Wrow wb n w wi) (k : Nat) (z : Bool) : Wrow wb n (w.setCell ⟨wb, k, none⟩ (.bool z)) (wi.set k z) := by
  have := (World.ownsRow.stored h k (.bool z)).1
  unfold Wrow
  rw [List.map_set]
  exact this
theorem Wrow.drewN {wb n : Nat} {w : World} {wi : List Bool} (h : Wrow wb n w wi) (m : Nat) : Wrow wb n (w.drewN m) wi := h

set_option maxRecDepth 100000 in
set_option maxHeartbeats 8000000 in
theorem walk_in (a b c d : Option Addr) (ca cb cc cd : Nat) (rows : List IRow) (hd rm lv : List Int) (s t : Int) (w : World) (hna : a = none → rows.length = 0 ∧ ca = 0) (hnb : b = none → hd.length = 0 ∧ cb = 0) (hnc : c = none → rm.length = 0 ∧ cc = 0) (hnd : d = none → lv.length = 0 ∧ cd = 0)
    (hG : Grid w.heap.size w a rows) (hGn : ∀ r, r ∈ rows → (r.a = none → r.ss.length = 0 ∧ r.cap = 0)) (hH : Cells w b (hd.map (Value.int .i64))) (hR : Cells w c (rm.map (Value.int .i64))) (hL : Cells w d (lv.map (Value.int .i64))) :
    Calls Try.prog 3 #[.slice a rows.length ca, .slice b hd.length cb, .slice c rm.length cc, .int .i64 s, .int .i64 t, .slice d lv.length cd] w (Goal w) := by
  have HNa : Hid (a = none → rows.length = 0 ∧ ca = 0) := hna
  have HNb : Hid (b = none → hd.length = 0 ∧ cb = 0) := hnb
  have HNc : Hid (c = none → rm.length = 0 ∧ cc = 0) := hnc
  have HG : Hid (Grid w.heap.size w a rows) := hG
  have HGn : Hid (∀ r, r ∈ rows → (r.a = none → r.ss.length = 0 ∧ r.cap = 0)) := hGn
  have HH : Hid (Cells w b (hd.map (Value.int .i64))) := hH
  have HR : Hid (Cells w c (rm.map (Value.int .i64))) := hR
  have HL : Hid (Cells w d (lv.map (Value.int .i64))) := hL
  clear hna hnb hnc hnd hG hGn hH hR hL
  go_enter Try.func3, Try.ntmps3
  go_wp2_with fail
  refine (bytes5 a b c d ca cb cc cd hd.length rm.length lv.length s t rows _ HG.out).mono ?_
  rintro e w' ⟨ok, rfl, rfl, hok⟩
  cases ok with
  | false =>
    clear hok
    go_wp2
    go_ret
    exact ⟨rfl, Below.refl _ _⟩
  | true =>
    have HSm : Hid (∀ r ∈ rows, r.ss.length ≤ 1048576) := hok rfl
    clear hok
    by_cases h1 : 131072 < rows.length
    · go_wp2
      go_ret
      exact ⟨rfl, Below.refl _ _⟩
    by_cases h2 : 131072 < hd.length
    · go_wp2
      go_ret
      exact ⟨rfl, Below.refl _ _⟩
    by_cases h3 : 131072 < rm.length
    · go_wp2
      go_ret
      exact ⟨rfl, Below.refl _ _⟩
    by_cases h4 : 131072 < lv.length
    · go_wp2
      go_ret
      exact ⟨rfl, Below.refl _ _⟩
    by_cases h5 : 131072 < 3 * rows.length + hd.length + rm.length + lv.length
    · go_wp2
      go_ret
      exact ⟨rfl, Below.refl _ _⟩
    go_wp2
    go_loop [13, 14] (fun tv iv => ∃ k T : Nat, k ≤ rows.length ∧ iv = .int .i64 k ∧ tv = .int .i64 T ∧ T ≤ 131072 ∧ ∀ r ∈ rows.take k, r.ss.length ≤ 131072) (fun _ iv => rows.length - (intOf iv).toNat)
    case atStart => exact ⟨0, 3 * rows.length + hd.length + rm.length + lv.length, Nat.zero_le _, rfl, by simp, by omega, fun r hr => by simp at hr⟩
    case round =>
      obtain ⟨k, T, hk, rfl, rfl, hT, hsh⟩ := hrel
      have HSh : Hid (∀ r ∈ rows.take k, r.ss.length ≤ 131072) := hsh
      clear hsh
      by_cases hlt : k < rows.length
      · obtain ⟨ab, ao, ha, _, _, hrow, _⟩ := HG.out.row hlt
        subst ha
        have hcx := hrow k hlt
        have HT : Hid ((rows.getD k IRow.zero).ss.length ≤ 131072 → ∀ r ∈ rows.take (k + 1), r.ss.length ≤ 131072) := fun h => short_step _ rows k hlt HSh.out h
        have h7 := HSm.out (rows.getD k IRow.zero) (by simp [List.getD, hlt])
        clear hrow
        generalize rows.getD k IRow.zero = r at *
        obtain ⟨ra, rc, rs⟩ := r
        simp only [IRow.val] at hcx HT h7
        by_cases h6 : 131072 < T + rs.length
        · go_wp2
          go_ret
          exact ⟨rfl, Below.refl _ _⟩
        · go_wp2
          go_round
          case rel => exact ⟨k + 1, T + rs.length, by omega, by go_num, by go_num, by omega, HT.out (by omega)⟩
          case measure => simp [intOf]; omega
      · obtain rfl : k = rows.length := by omega
        have HSh2 : Hid (∀ r ∈ rows, r.ss.length ≤ 131072) := by
          have := HSh.out
          rwa [List.take_length] at this
        clear HSh
        clear HSm
        have HSm : Hid (∀ r ∈ rows, r.ss.length ≤ 1048576) := fun r hr => Nat.le_trans (HSh2.out r hr) (by decide)
        by_cases hn0 : lv.length = 0
        · have hb0 : ((lv.length : Int) == 0) = true := by rw [hn0]; rfl
          go_wp2
          go_ret
          exact ⟨rfl, Below.refl _ _⟩
        have hb0 : ((lv.length : Int) == 0) = false := by rw [beq_eq_false_iff_ne]; omega
        by_cases g1 : rows.length < lv.length
        · go_wp2
          go_ret
          exact ⟨rfl, Below.refl _ _⟩
        by_cases g2 : s < 0
        · go_wp2
          go_ret
          exact ⟨rfl, Below.refl _ _⟩
        by_cases g3 : (lv.length : Int) ≤ s
        · go_wp2
          go_ret
          exact ⟨rfl, Below.refl _ _⟩
        by_cases g4 : t < 0
        · go_wp2
          go_ret
          exact ⟨rfl, Below.refl _ _⟩
        by_cases g5 : (lv.length : Int) ≤ t
        · go_wp2
          go_ret
          exact ⟨rfl, Below.refl _ _⟩
        obtain ⟨sn, rfl⟩ : ∃ m : Nat, s = m := ⟨s.toNat, by omega⟩
        obtain ⟨tn, rfl⟩ : ∃ m : Nat, t = m := ⟨t.toNat, by omega⟩
        have hsn : sn < lv.length := by omega
        have htn : tn < lv.length := by omega
        go_wp2
        go_loop [16] (fun uv => ∃ U : Nat, U ≤ lv.length ∧ uv = .int .i64 U ∧ Okay rows hd rm lv.length U) (fun uv => lv.length - (intOf uv).toNat)
        case atStart => exact ⟨0, Nat.zero_le _, rfl, fun u hu => by omega⟩
        case round =>
          obtain ⟨U, hU, rfl, hokU⟩ := hrel
          have HOk : Hid (Okay rows hd rm lv.length U) := hokU
          clear hokU
          by_cases hUl : U < lv.length
          · obtain ⟨ab, ao, ha, _, _, hrow, hLs⟩ := HG.out.row (k := U) (by omega)
            subst ha
            have hcx := hrow U (by omega)
            have hrs := HSh2.out (rows.getD U IRow.zero) (by have : U < rows.length := by omega
                                                             simp [List.getD, this])
            have HT : Hid (OkayJ (rows.getD U IRow.zero).ss rows hd rm lv.length (rows.getD U IRow.zero).ss.length → Okay rows hd rm lv.length (U + 1)) := fun h => HOk.out.next h
            have HLs : Hid (Lies w'.heap.size w' (rows.getD U IRow.zero).a ((rows.getD U IRow.zero).ss.map (Value.int .i64))) := hLs
            clear hrow hLs
            generalize rows.getD U IRow.zero = r at *
            obtain ⟨ra, rc, rs⟩ := r
            simp only [IRow.val] at hcx HT HLs hrs
            go_wp2
            go_loop [17] (fun jv => ∃ j : Nat, j ≤ rs.length ∧ jv = .int .i64 j ∧ OkayJ rs rows hd rm lv.length j) (fun jv => rs.length - (intOf jv).toNat)
            case atStart => exact ⟨0, Nat.zero_le _, rfl, fun e he => by simp at he⟩
            case round =>
              obtain ⟨j, hj, rfl, hokj⟩ := hrel
              have HOj : Hid (OkayJ rs rows hd rm lv.length j) := hokj
              clear hokj
              by_cases hjl : j < rs.length
              · obtain ⟨eb, eo, hra, _, _, hec⟩ := HLs.out.num hjl
                subst hra
                have hce := hec j hjl
                have HN : Hid (Sound rows hd rm lv.length (rs.getD j 0) → OkayJ rs rows hd rm lv.length (j + 1)) := fun h => HOj.out.next hjl h
                clear hec
                generalize rs.getD j 0 = e at *
                by_cases e1 : e < 0
                · go_wp2
                  go_ret
                  exact ⟨rfl, Below.refl _ _⟩
                by_cases e2 : (hd.length : Int) ≤ e
                · go_wp2
                  go_ret
                  exact ⟨rfl, Below.refl _ _⟩
                by_cases e3 : (rm.length : Int) ≤ e
                · go_wp2
                  go_ret
                  exact ⟨rfl, Below.refl _ _⟩
                obtain ⟨en, rfl⟩ : ∃ m : Nat, e = m := ⟨e.toNat, by omega⟩
                have hen1 : en < hd.length := by omega
                obtain ⟨yb, yo, hy, _, hyc⟩ := HH.out.int hen1
                subst hy
                have hch : w'.cell? ⟨yb, yo + en, none⟩ = some (.int .i64 (lk hd (en : Int))) := by
                  rw [hyc en hen1]
                  simp [lk]
                have HSd : Hid (0 ≤ lk hd (en : Int) → lk hd (en : Int) < lv.length → Sound rows hd rm lv.length (en : Int)) := fun h1 h2 => ⟨by omega, by omega, by omega, h1, h2⟩
                clear hyc
                generalize lk hd (en : Int) = v at *
                by_cases e4 : v < 0
                · go_wp2
                  go_ret
                  exact ⟨rfl, Below.refl _ _⟩
                by_cases e5 : (lv.length : Int) ≤ v
                · go_wp2
                  go_ret
                  exact ⟨rfl, Below.refl _ _⟩
                go_wp2
                go_round
                case rel => exact ⟨j + 1, by omega, by go_num, HN.out (HSd.out (by omega) (by omega))⟩
                case measure => simp [intOf]; omega
              · obtain rfl : j = rs.length := by omega
                go_wp2
                go_round
                case rel => exact ⟨U + 1, by omega, by go_num, HT.out HOj.out⟩
                case measure => simp [intOf]; omega
          · obtain rfl : U = lv.length := by omega
            have HOk2 : Hid ((gr lv.length rows hd rm).Ok) := HOk.out.ok
            clear HOk
            go_wp2_with fail
            refine (clone6_any a ca rows _ (by omega) HSm.out HG.out HNa.out HGn.out).mono ?_
            rintro e w1 ⟨ao, ac, rows', rfl, hrl', hss, hG1, hGn1, hbel1⟩
            have HG1 : Hid (Grid w1.heap.size w1 ao rows') := hG1
            have HSs : Hid (rows'.map IRow.ss = rows.map IRow.ss) := hss
            have HRl : Hid (rows'.length = rows.length) := hrl'
            have HB1 : Hid (Below w'.heap.size w' w1) := hbel1
            clear hG1 hss hGn1 hbel1 hrl'
            go_wp2_with fail
            refine (clone_any b hd.length cb hd w1 (by omega) rfl HNb.out (HH.out.below HB1.out)).mono ?_
            rintro e w2 ⟨bo, bc2, rfl, hown2, hbel2, hni⟩
            have HO2 : Hid (Cells w2 bo (hd.map (Value.int .i64))) := owns_cells hown2
            have HB2 : Hid (Below w1.heap.size w1 w2) := hbel2
            clear hni hown2 hbel2
            go_wp2_with fail
            refine (clone_any c rm.length cc rm w2 (by omega) rfl HNc.out ((HR.out.below HB1.out).below HB2.out)).mono ?_
            rintro e w3 ⟨co, cc2, rfl, hown3, hbel3, hni⟩
            have HO3 : Hid (Cells w3 co (rm.map (Value.int .i64))) := owns_cells hown3
            have HB3 : Hid (Below w2.heap.size w2 w3) := hbel3
            clear hni hown3 hbel3
            obtain ⟨db, dof, hd', _, _⟩ := HL.out.int (j := 0) (by omega)
            subst hd'
            go_wp2_with fail
            refine (clone_some ⟨db, dof, none⟩ lv.length cd lv w3 (by omega) rfl (((HL.out.below HB1.out).below HB2.out).below HB3.out)).mono ?_
            rintro e w4 ⟨rfl, hown4, hbel4⟩
            have HK : Hid (Grid w3.heap.size w4 ao rows' ∧ Lies w3.heap.size w4 bo (hd.map (Value.int .i64)) ∧ Lies w3.heap.size w4 co (rm.map (Value.int .i64)) ∧ (gr lv.length rows' hd rm).Ok ∧ (∀ r ∈ rows', r.ss.length ≤ 131072) ∧ Below w'.heap.size w' w4 ∧ w'.heap.size ≤ w3.heap.size) := by
              refine ⟨((HG1.out.below (HB2.out.trans (HB3.out.mono HB2.out.size))).mono (Nat.le_trans HB2.out.size HB3.out.size)).below hbel4, ((HO2.out.lies.below HB3.out).mono HB3.out.size).below hbel4, HO3.out.lies.below hbel4, ?_, ?_, ?_, Nat.le_trans HB1.out.size (Nat.le_trans HB2.out.size HB3.out.size)⟩
              · rw [gr_same lv.length hd rm HSs.out]; exact HOk2.out
              · intro r hr
                have : r.ss ∈ rows'.map IRow.ss := List.mem_map_of_mem hr
                rw [HSs.out] at this
                obtain ⟨r2, h2, h3⟩ := List.mem_map.1 this
                rw [← h3]; exact HSh2.out r2 h2
              · exact ((HB1.out.trans (HB2.out.mono HB1.out.size)).trans (HB3.out.mono (Nat.le_trans HB1.out.size HB2.out.size))).trans (hbel4.mono (Nat.le_trans HB1.out.size (Nat.le_trans HB2.out.size HB3.out.size)))
            have HZ : Hid (Calls Try.prog 8 #[.slice ao rows.length ac, .slice bo hd.length bc2, .slice co rm.length cc2, .int .i64 (sn : Int), .int .i64 (tn : Int), .slice (some ⟨w3.heap.size, 0, none⟩) lv.length lv.length] w4 (P13 w3.heap.size w3.heap.size lv.length lv.length rows' hd rm sn tn w4)) := by
              obtain ⟨k1, k2, k3, k4, k5, k6, k7⟩ := HK.out
              have h := zz8 w3.heap.size lv.length lv.length w3.heap.size ao bo co ac bc2 cc2 rows' hd rm lv sn tn w4 k1 k2 k3 hown4 (Nat.le_refl _) k4 hsn htn (by rw [HRl.out]; omega) (by omega) (by omega) (by omega) k5
              rw [HRl.out] at h
              exact h
            have hrl5 : rows'.length = rows.length := HRl.out
            have HRl5 : Hid (lv.length ≤ rows'.length) := by show _ ≤ _; omega
            clear hrl5 hown4 hbel4 HG1 HSs HRl HB1 HO2 HB2 HO3 HB3 HL HG HGn HH HR HNa HNb HNc HOk2 HSh2 HSm
            go_wp2_with fail
            refine HZ.out.mono ?_
            rintro e w5 ⟨lv5, hcert, rfl, hlv5, hbel5⟩
            have HC : Hid (Cert (gr lv.length rows' hd rm) sn lv5) := hcert
            have hcs : w5.cell? ⟨w3.heap.size, sn, none⟩ = some (.int .i64 0) := by
              rw [hlv5.at hsn, hcert.base.at0]
            have HLv : Hid (Lev w3.heap.size w3.heap.size lv.length lv.length w5 lv5) := hlv5
            have HK5 : Hid (Grid w3.heap.size w5 ao rows' ∧ Lies w3.heap.size w5 bo (hd.map (Value.int .i64)) ∧ Lies w3.heap.size w5 co (rm.map (Value.int .i64)) ∧ (gr lv.length rows' hd rm).Ok ∧ (∀ r ∈ rows', r.ss.length ≤ 131072) ∧ Below w'.heap.size w' w5 ∧ w'.heap.size ≤ w3.heap.size) := by
              obtain ⟨k1, k2, k3, k4, k5, k6, k7⟩ := HK.out
              exact ⟨k1.below hbel5, k2.below hbel5, k3.below hbel5, k4, k5, k6.trans (hbel5.mono k7), k7⟩
            clear hcert hlv5 hbel5 HZ HK
            have HV : Hid (∀ v : Nat, v < lv.length → (gr lv.length rows' hd rm).V v) := fun v hv => ⟨by omega, by show (v : Int) < (lv.length : Int); omega⟩
            go_wp2
            clear hcs
            go_loop [20] (fun vv => ∃ k : Nat, k ≤ lv.length ∧ vv = .int .i64 k) (fun vv => lv.length - (intOf vv).toNat)
            case atStart => exact ⟨0, Nat.zero_le _, rfl⟩
            case round =>
              obtain ⟨k, hk, rfl⟩ := hrel
              by_cases hkl : k < lv.length
              · have hck := HLv.out.at hkl
                obtain ⟨hL1, hL2⟩ := HC.out.lt (HV.out k hkl)
                have hL2' : lk lv5 (k : Int) < (lv.length : Int) := hL2
                clear hL2
                by_cases hks : k = sn
                · subst hks
                  generalize lk lv5 (k : Int) = L at *
                  go_wp2
                  go_round
                  case rel => exact ⟨k + 1, by omega, by go_num⟩
                  case measure => simp [intOf]; omega
                · have hne := HC.out.base.ne0 k (HV.out k hkl) (by omega)
                  have hb1 : ((k : Int) != (sn : Int)) = true := by rw [bne_iff_ne]; omega
                  have hb2 : (lk lv5 (k : Int) == 0) = false := by rw [beq_eq_false_iff_ne]; exact hne
                  generalize lk lv5 (k : Int) = L at *
                  go_wp2
                  go_round
                  case rel => exact ⟨k + 1, by omega, by go_num⟩
                  case measure => simp [intOf]; omega
              · obtain ⟨j0, hj0, hj1, hj2, hj3⟩ := info_parts info4
                go_wp2_with (at_make; refine wpList_make_full _ rfl _ _ 27 rfl w5.heap.size 4 j0 (.bool false) 1 Try.underlying27 hj0 hj1 hj2 _ _ _ _ lv.length rfl rfl ?_ ?_ ?_ ?_ ?_ ?_)
                case refine_1 => rfl
                case refine_2 => rfl
                case refine_3 => first | (rw [hj3]; omega) | omega
                case refine_4 => first | (unfold maxLen; omega) | omega
                intro w6 hown6 hgrow6
                have H6b : Hid (Below w5.heap.size w5 w6) := (Below.refl _ _).grown hgrow6 (Nat.le_refl _) (fun k hk => by cases hk)
                have H6w : Hid (Wrow w5.heap.size lv.length w6 (List.replicate lv.length false)) := by
                  have h := fill_zero [] (.bool false) lv.length
                  simp only [fill, List.take_nil, List.nil_append, Nat.sub_zero] at h
                  show World.ownsRow _ _ _ _ _ _ _
                  rw [List.map_replicate, h]
                  exact hown6
                clear hown6 hgrow6 hj0 hj1 hj2 hj3
                go_wp2
                have hwl := HLv.out.lt
                go_loopw [22] (fun uv wr => ∃ (U : Nat) (wi : List Bool), U ≤ lv.length ∧ uv = .int .i64 U ∧ Wit (gr lv.length rows' hd rm) lv5 wi U ∧ Wrow w5.heap.size lv.length wr wi ∧ Below w5.heap.size w5 wr) (fun uv _ => lv.length - (intOf uv).toNat)
                case atStart => exact ⟨0, _, Nat.zero_le _, rfl, fun u hu h => by (have := hu.1; omega), H6w.out, H6b.out⟩
                case round =>
                  clear H6w H6b
                  obtain ⟨U, wi, hU, rfl, hwit, hwr, hbel⟩ := hrel
                  have HWit : Hid (Wit (gr lv.length rows' hd rm) lv5 wi U) := hwit
                  have HWr : Hid (Wrow w5.heap.size lv.length wr wi) := hwr
                  have HBe : Hid (Below w5.heap.size w5 wr) := hbel
                  clear hwit hwr hbel
                  by_cases hUl2 : U < lv.length
                  · have hcu : wr.cell? ⟨w3.heap.size, U, none⟩ = some (.int .i64 (lk lv5 (U : Int))) := (HBe.out.cell (p := ⟨w3.heap.size, U, none⟩) hwl).trans (HLv.out.at hUl2)
                    by_cases hneg : lk lv5 (U : Int) < 0
                    · have HN : Hid (Wit (gr lv.length rows' hd rm) lv5 wi ((U : Int) + 1)) := HWit.out.next (fun h => absurd h (by omega))
                      generalize lk lv5 (U : Int) = lvu at *
                      go_wp2
                      go_roundw
                      case rel => exact ⟨U + 1, wi, by omega, by go_num, by rw [Int.natCast_add]; exact HN.out, HWr.out, HBe.out⟩
                      case measure => simp [intOf]; omega
                    · have hlu0 : 0 ≤ lk lv5 (U : Int) := by omega
                      have hlu1 : lk lv5 (U : Int) < (lv.length : Int) := (HC.out.lt (HV.out U hUl2)).2
                      obtain ⟨xb, xo, hx, hxB, hxs, hrow, hLs⟩ := HK5.out.1.row (k := U) (by have := HRl5.out; omega)
                      subst hx
                      have hUr : U < rows'.length := by have := HRl5.out; omega
                      have hmem : rows'.getD U IRow.zero ∈ rows' := by simp [List.getD, hUr]
                      have hrl2 := HK5.out.2.2.2.2.1 _ hmem
                      have HCr : Hid (w5.cell? ⟨xb, xo + U, none⟩ = some (rows'.getD U IRow.zero).val ∧ xb < w5.heap.size) := ⟨hrow U hUr, hxs⟩
                      have HAdj : Hid ((gr lv.length rows' hd rm).adj (U : Int) = (rows'.getD U IRow.zero).ss) := by
                        show (rows'.getD (U : Int).toNat IRow.zero).ss = _
                        simp
                      have HRs : Hid (Lies w3.heap.size w5 (rows'.getD U IRow.zero).a ((rows'.getD U IRow.zero).ss.map (Value.int .i64))) := hLs
                      clear hrow hLs hmem
                      generalize rows'.getD U IRow.zero = r at *
                      obtain ⟨ra, rc, rs⟩ := r
                      simp only [IRow.val] at HCr HAdj HRs hrl2
                      generalize hlvu : lk lv5 (U : Int) = lvu at *
                      have HLu : Hid (lk lv5 (U : Int) = lvu) := hlvu
                      clear hlvu
                      go_wp2
                      clear hcu
                      go_loopw [23] (fun jv wr => ∃ (j : Nat) (wi : List Bool), j ≤ rs.length ∧ jv = .int .i64 j ∧ Wit (gr lv.length rows' hd rm) lv5 wi U ∧ WitJ (gr lv.length rows' hd rm) lv5 wi U j ∧ Wrow w5.heap.size lv.length wr wi ∧ Below w5.heap.size w5 wr) (fun jv _ => rs.length - (intOf jv).toNat)
                      case atStart => exact ⟨0, wi, Nat.zero_le _, rfl, HWit.out, WitJ.zero _ _ _ _, HWr.out, HBe.out⟩
                      case round =>
                        clear HWit HWr HBe
                        obtain ⟨j, wj, hj, rfl, hwit, hwitj, hwr, hbel⟩ := hrel
                        have HWit : Hid (Wit (gr lv.length rows' hd rm) lv5 wj U) := hwit
                        have HWj : Hid (WitJ (gr lv.length rows' hd rm) lv5 wj U j) := hwitj
                        have HWr : Hid (Wrow w5.heap.size lv.length wr wj) := hwr
                        have HBe : Hid (Below w5.heap.size w5 wr) := hbel
                        have hcr : wr.cell? ⟨xb, xo + U, none⟩ = some (.slice ra rs.length rc) := (hbel.cell (p := ⟨xb, xo + U, none⟩) HCr.out.2).trans HCr.out.1
                        clear hwit hwitj hwr hbel
                        by_cases hjl : j < rs.length
                        · have hjl2 : j < ((gr lv.length rows' hd rm).adj (U : Int)).length := by rw [HAdj.out]; exact hjl
                          obtain ⟨eb, eo, hra, _, hes, hec⟩ := HRs.out.num hjl
                          subst hra
                          have hce := (HBe.out.cell (p := ⟨eb, eo + j, none⟩) hes).trans (hec j hjl)
                          have hmem : rs.getD j 0 ∈ (gr lv.length rows' hd rm).adj (U : Int) := by rw [HAdj.out]; exact getD_mem hjl
                          obtain ⟨he0, heh, her, hvV⟩ := HK5.out.2.2.2.1 _ (HV.out U hUl2) _ hmem
                          have HDn : Hid (0 < lk rm (rs.getD j 0) → 0 ≤ lk lv5 (lk hd (rs.getD j 0)) ∧ lk lv5 (lk hd (rs.getD j 0)) ≤ lvu + 1) := by
                            have := HC.out.done U (HV.out U hUl2) (by rw [HLu.out]; exact hlu0) _ hmem
                            rw [HLu.out] at this
                            exact this
                          have HSk : Hid (∀ wi, WitJ (gr lv.length rows' hd rm) lv5 wi U j → (0 < lk rm (rs.getD j 0) → lk lv5 (lk hd (rs.getD j 0)) = lvu + 1 → wi.getD (lk hd (rs.getD j 0)).toNat false = true) → WitJ (gr lv.length rows' hd rm) lv5 wi U (j + 1)) := by
                            intro wi hw h
                            refine hw.skip hjl2 ?_
                            rw [HAdj.out, HLu.out]
                            exact h
                          have heh2 : rs.getD j 0 < (hd.length : Int) := heh
                          have her2 : rs.getD j 0 < (rm.length : Int) := her
                          have hvV1 : 0 ≤ lk hd (rs.getD j 0) := hvV.1
                          have hvV2 : lk hd (rs.getD j 0) < (lv.length : Int) := hvV.2
                          clear hec hmem heh her hvV
                          generalize rs.getD j 0 = e at *
                          obtain ⟨en, rfl⟩ : ∃ m : Nat, e = m := ⟨e.toNat, by omega⟩
                          have hen1 : en < hd.length := by omega
                          have hen2 : en < rm.length := by omega
                          obtain ⟨yb, yo, hy, _, hys, hyc⟩ := HK5.out.2.1.num hen1
                          subst hy
                          obtain ⟨zb, zo, hz, _, hzs, hzc⟩ := HK5.out.2.2.1.num hen2
                          subst hz
                          have hch : wr.cell? ⟨yb, yo + en, none⟩ = some (.int .i64 (lk hd (en : Int))) := by
                            rw [HBe.out.cell (p := ⟨yb, yo + en, none⟩) hys, hyc en hen1]
                            simp [lk]
                          have hcm : wr.cell? ⟨zb, zo + en, none⟩ = some (.int .i64 (lk rm (en : Int))) := by
                            rw [HBe.out.cell (p := ⟨zb, zo + en, none⟩) hzs, hzc en hen2]
                            simp [lk]
                          clear hyc hzc
                          generalize lk hd (en : Int) = v at *
                          generalize lk rm (en : Int) = r at *
                          by_cases hr : r ≤ 0
                          · have HSk2 : Hid (WitJ (gr lv.length rows' hd rm) lv5 wj U (j + 1)) := HSk.out wj HWj.out (fun h => absurd h (by omega))
                            clear HSk HDn
                            go_wp2
                            go_roundw
                            case rel => exact ⟨j + 1, wj, by omega, by go_num, HWit.out, HSk2.out, HWr.out, HBe.out⟩
                            case measure => simp [intOf]; omega
                          · obtain ⟨hd1, hd2⟩ := HDn.out (by omega)
                            obtain ⟨vn, rfl⟩ : ∃ m : Nat, v = m := ⟨v.toNat, by omega⟩
                            have hvn : vn < lv.length := by omega
                            have hcv : wr.cell? ⟨w3.heap.size, vn, none⟩ = some (.int .i64 (lk lv5 (vn : Int))) := (HBe.out.cell (p := ⟨w3.heap.size, vn, none⟩) hwl).trans (HLv.out.at hvn)
                            have hcu : wr.cell? ⟨w3.heap.size, U, none⟩ = some (.int .i64 lvu) := by
                              have := (HBe.out.cell (p := ⟨w3.heap.size, U, none⟩) hwl).trans (HLv.out.at hUl2)
                              rw [HLu.out] at this
                              exact this
                            have hwv := HWr.out.at hvn
                            have hwf := HWr.out.fz vn
                            generalize hlvv : lk lv5 (vn : Int) = lvv at *
                            have hq1 : decide (lvv < 0) = false := by simp; omega
                            have hq2 : decide (lvu + 1 < lvv) = false := by simp; omega
                            have hq3 : IntKind.i64.wrap (lvu + 1) = lvu + 1 := by rw [IntKind.wrap_i64]; omega
                            clear HDn hlvv
                            by_cases heq : lvv = lvu + 1
                            · have hb3 : (lvv == lvu + 1) = true := by rw [heq]; simp
                              have HSk2 : Hid (WitJ (gr lv.length rows' hd rm) lv5 (wj.set vn true) U (j + 1)) := HSk.out (wj.set vn true) (HWj.out.set vn) (fun _ _ => by
                                rw [Int.toNat_natCast]
                                have : vn < wj.length := by rw [HWr.out.len]; exact hvn
                                simp [List.getD, this])
                              have HWit2 : Hid (Wit (gr lv.length rows' hd rm) lv5 (wj.set vn true) U) := HWit.out.set vn
                              have HW2 : Hid (∀ m, Wrow w5.heap.size lv.length ((wr.drewN m).setCell ⟨w5.heap.size, vn, none⟩ (.bool true)) (wj.set vn true)) := fun m => (HWr.out.drewN m).put vn true
                              have HB2 : Hid (∀ m, Below w5.heap.size w5 ((wr.drewN m).setCell ⟨w5.heap.size, vn, none⟩ (.bool true))) := fun m => (below_drewN HBe.out m).setCell (Nat.le_refl _) _
                              clear HSk heq
                              go_wp2
                              go_quiet (fail)
                              go_wp2
                              go_quiet (fail)
                              go_wp2
                              go_roundw
                              case rel => first | exact ⟨j + 1, _, by omega, by go_num, HWit2.out, HSk2.out, HW2.out _, HB2.out _⟩ | ((repeat apply Exists.intro); exact ⟨⟨j + 1, _, by omega, by go_num, HWit2.out, HSk2.out, HW2.out _, HB2.out _⟩, rfl⟩)
                              case measure => simp [intOf]; omega
                            · have hb3 : (lvv == lvu + 1) = false := by rw [beq_eq_false_iff_ne]; exact heq
                              have HSk2 : Hid (WitJ (gr lv.length rows' hd rm) lv5 wj U (j + 1)) := HSk.out wj HWj.out (fun _ h => absurd h heq)
                              clear HSk heq
                              go_wp2
                              go_quiet (fail)
                              go_wp2
                              go_quiet (fail)
                              go_wp2
                              go_roundw
                              case rel => first | exact ⟨j + 1, wj, by omega, by go_num, HWit.out, HSk2.out, HWr.out.drewN _, below_drewN HBe.out _⟩ | ((repeat apply Exists.intro); exact ⟨⟨j + 1, wj, by omega, by go_num, HWit.out, HSk2.out, HWr.out.drewN _, below_drewN HBe.out _⟩, rfl⟩)
                              case measure => simp [intOf]; omega
                        · obtain rfl : j = rs.length := by omega
                          have HN : Hid (Wit (gr lv.length rows' hd rm) lv5 wj ((U : Int) + 1)) := HWit.out.next (fun _ => by rw [HAdj.out]; exact HWj.out)
                          go_wp2
                          go_roundw
                          case rel => exact ⟨U + 1, wj, by omega, by go_num, by rw [Int.natCast_add]; exact HN.out, HWr.out, HBe.out⟩
                          case measure => simp [intOf]; omega
                  · obtain rfl : U = lv.length := by omega
                    have hct : wr.cell? ⟨w3.heap.size, tn, none⟩ = some (.int .i64 (lk lv5 (tn : Int))) := (HBe.out.cell (p := ⟨w3.heap.size, tn, none⟩) hwl).trans (HLv.out.at htn)
                    have HMk : Hid (∀ k : Nat, k < lv.length → k ≠ sn → 0 ≤ lk lv5 (k : Int) → wi.getD k false = true) := by
                      intro k hk hne h0
                      have := HC.out.marked HWit.out (HV.out k hk) (by omega) h0
                      rwa [Int.toNat_natCast] at this
                    have HFin : Hid (Below w'.heap.size w' wr) := HK5.out.2.2.2.2.2.1.trans (HBe.out.mono HK5.out.2.2.2.2.2.1.size)
                    go_wp2
                    go_loop [26] (fun vv => ∃ k : Nat, k ≤ lv.length ∧ vv = .int .i64 k) (fun vv => lv.length - (intOf vv).toNat)
                    case atStart => exact ⟨0, Nat.zero_le _, rfl⟩
                    case round =>
                      obtain ⟨k, hk, rfl⟩ := hrel
                      by_cases hkl : k < lv.length
                      · have hck : wr.cell? ⟨w3.heap.size, k, none⟩ = some (.int .i64 (lk lv5 (k : Int))) := (HBe.out.cell (p := ⟨w3.heap.size, k, none⟩) hwl).trans (HLv.out.at hkl)
                        have hwk := HWr.out.at hkl
                        clear hct
                        by_cases hks : k = sn
                        · subst hks
                          generalize lk lv5 (k : Int) = L at *
                          go_wp2
                          go_round
                          case rel => exact ⟨k + 1, by omega, by go_num⟩
                          case measure => simp [intOf]; omega
                        · have hb1 : ((k : Int) != (sn : Int)) = true := by rw [bne_iff_ne]; omega
                          by_cases h0 : 0 ≤ lk lv5 (k : Int)
                          · rw [HMk.out k hkl hks h0] at hwk
                            generalize lk lv5 (k : Int) = L at *
                            go_wp2
                            go_round
                            case rel => exact ⟨k + 1, by omega, by go_num⟩
                            case measure => simp [intOf]; omega
                          · generalize lk lv5 (k : Int) = L at *
                            go_wp2
                            go_round
                            case rel => exact ⟨k + 1, by omega, by go_num⟩
                            case measure => simp [intOf]; omega
                      · generalize lk lv5 (tn : Int) = L at *
                        go_wp2
                        go_ret
                        exact ⟨by simp, HFin.out⟩
end Go.Proofs.Qxb6605245a.Bfs
