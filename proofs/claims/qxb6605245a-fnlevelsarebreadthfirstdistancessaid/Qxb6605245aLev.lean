/-
  levels' contract.
-/
import Derived.Test.Qxb6605245aQue
import Derived.Test.Qxb6605245aPlain
namespace Go.Proofs.Qxb6605245a.Bfs
open Go.RowKit Strs
set_option linter.unusedVariables false

/-- level's row, in block lb. -/
def Lev (B lb c n : Nat) (w : World) (lv : List Int) : Prop := w.ownsRow B 3 1 (.slice (some ⟨lb, 0, none⟩) n c) n (lv.map (Value.int .i64))

theorem Lev.len {B lb c n : Nat} {w : World} {lv : List Int} (h : Lev B lb c n w lv) : lv.length = n := by simpa using h.1
theorem Lev.lt {B lb c n : Nat} {w : World} {lv : List Int} (h : Lev B lb c n w lv) : lb < w.heap.size := (World.ownsRow.lt h lb rfl).2
theorem Lev.at {B lb c n : Nat} {w : World} {lv : List Int} (h : Lev B lb c n w lv) {k : Nat} (hk : k < n) : w.cell? ⟨lb, k, none⟩ = some (.int .i64 (lk lv k)) := by
  rw [World.ownsRow.cellAt h k (by omega)]
  have := getD_int .i64 lv k (by rw [h.len]; exact hk)
  rw [this]
  simp [lk]
theorem Lev.fz {B lb c n : Nat} {w : World} {lv : List Int} (h : Lev B lb c n w lv) (k : Nat) : w.frozen? ⟨lb, k, none⟩ = false := World.ownsRow.frozenAt h k
theorem Lev.put {B lb c n : Nat} {w : World} {lv : List Int} (h : Lev B lb c n w lv) (k : Nat) (z : Int) : Lev B lb c n (w.setCell ⟨lb, k, none⟩ (.int .i64 z)) (lv.set k z) := by
  have := (World.ownsRow.stored h k (.int .i64 z)).1
  unfold Lev
  rw [List.map_set]
  exact this
/-- Blocks below Q stand, and lb is one of them. -/
theorem Lev.below {B lb c n Q : Nat} {w w' : World} {lv : List Int} (h : Lev B lb c n w lv) (hb : Below Q w w') (hQ : lb < Q) : Lev B lb c n w' lv := by
  refine ⟨h.1, ?_⟩
  rcases h.2 with ⟨hv, h0⟩ | ⟨g, cap, cur, hv, hbg, hgg, rest⟩
  · exact .inl ⟨hv, h0⟩
  · have hg : lb = g := by simp only [Value.slice.injEq, Option.some.injEq, Addr.mk.injEq] at hv; exact hv.1.1
    subst hg
    exact .inr ⟨lb, cap, cur, hv, hbg, (hb.block lb hQ).trans hgg, rest⟩

/-- The network's three fields. -/
def Net (pb : Nat) (w : World) (a b c : Value) : Prop := w.cell? ⟨pb, 0, none⟩ = some a ∧ w.cell? ⟨pb, 1, none⟩ = some b ∧ w.cell? ⟨pb, 2, none⟩ = some c
theorem Net.below {pb Q : Nat} {w w' : World} {a b c : Value} (h : Net pb w a b c) (hb : Below Q w w') (hQ : pb < Q) : Net pb w' a b c :=
  ⟨(hb.cell (p := ⟨pb, 0, none⟩) hQ).trans h.1, (hb.cell (p := ⟨pb, 1, none⟩) hQ).trans h.2.1, (hb.cell (p := ⟨pb, 2, none⟩) hQ).trans h.2.2⟩
theorem Net.put {pb : Nat} {w : World} {a b c : Value} (h : Net pb w a b c) {p : Addr} (hp : pb ≠ p.block) (u : Value) : Net pb (w.setCell p u) a b c :=
  ⟨(World.cell?_of_block (Below.heap_setCell w p u pb hp)).trans h.1, (World.cell?_of_block (Below.heap_setCell w p u pb hp)).trans h.2.1, (World.cell?_of_block (Below.heap_setCell w p u pb hp)).trans h.2.2⟩

/-- The first k cells -1. -/
def neg (lv : List Int) (k : Nat) : List Int := List.replicate k (-1) ++ lv.drop k
theorem neg_step (lv : List Int) (k : Nat) (h : k < lv.length) : (neg lv k).set k (-1) = neg lv (k + 1) := by
  unfold neg
  rw [List.set_append_right _ _ (by simp), List.replicate_succ', List.append_assoc]
  simp only [List.length_replicate, Nat.sub_self]
  rw [List.drop_eq_getElem_cons h]
  rfl
theorem neg_full (lv : List Int) : neg lv lv.length = List.replicate lv.length (-1) := by simp [neg]

theorem Que.fresh (w : World) (z : Int) : Que w.heap.size (w.alloc (.cells #[.int .i64 z] 3)) (.slice (some ⟨w.heap.size, 0, none⟩) 1 1) [z] := by
  have hg : (w.alloc (.cells #[.int .i64 z] 3)).heap[w.heap.size]? = some (.cells #[.int .i64 z] 3) := heap_alloc_new w _
  refine ⟨w.heap.size, 0, 1, rfl, Nat.le_refl _, by simp, Nat.le_refl _, by unfold maxLen; omega, fun j hj => ?_, fun j hj => ?_⟩
  · have : j = 0 := by simpa using hj
    subst this
    rw [cell_of_row _ _ _ _ _ _ hg]; rfl
  · have : j = 0 := by omega
    subst this
    refine ⟨by rw [cell_of_row _ _ _ _ _ _ hg]; rfl, by unfold World.frozen?; rw [hg]; rfl⟩

/-- The graph that the three fields hold. -/
def gr (n : Nat) (rows : List IRow) (hd rm : List Int) : Gr := ⟨n, fun u => (rows.getD u.toNat IRow.zero).ss, hd, rm⟩

/-- What holds of the memory in the search. -/
def Mem (B lb c n pb Q : Nat) (a b d : Value) (w wr : World) (qv : Value) (lv qs : List Int) : Prop := Que Q wr qv qs ∧ Lev B lb c n wr lv ∧ Net pb wr a b d ∧ Below B w wr ∧ Q ≤ wr.heap.size

def P13 (B lb c n : Nat) (rows : List IRow) (hd rm : List Int) (s t : Nat) (w : World) (e : Ending) (w' : World) : Prop :=
  ∃ lv, Cert (gr n rows hd rm) s lv ∧ e = .returned (.bool (decide (0 ≤ lk lv t))) ∧ Lev B lb c n w' lv ∧ Below B w w'

set_option maxRecDepth 100000 in
set_option maxHeartbeats 4000000 in
theorem lev13 (pb lb c n B : Nat) (x y z : Option Addr) (cx cy cz : Nat) (rows : List IRow) (hd rm lv : List Int) (s t : Nat) (w : World) (hG : Grid B w x rows) (hH : Lies B w y (hd.map (Value.int .i64))) (hR : Lies B w z (rm.map (Value.int .i64)))
    (hP : Net pb w (.slice x rows.length cx) (.slice y hd.length cy) (.slice z rm.length cz)) (hL : Lev B lb c n w lv) (hB : B ≤ lb) (hlp : lb < pb) (hps : pb < w.heap.size) (hok : (gr n rows hd rm).Ok) (hs : s < n) (ht : t < n) (hnr : n ≤ rows.length) (hn : n ≤ 131072) (hhl : hd.length ≤ 131072) (hrl : rm.length ≤ 131072) (hll : ∀ r, r ∈ rows → r.ss.length ≤ 131072) :
    Calls Try.prog 13 #[.pointer (some ⟨pb, 0, none⟩), .int .i64 s, .int .i64 t, .slice (some ⟨lb, 0, none⟩) n c] w (P13 B lb c n rows hd rm s t w) := by
  obtain ⟨i0, hi, hz0, hz1, hz2⟩ := info_parts info3
  have HG : Hid (Grid B w x rows) := hG
  have HH : Hid (Lies B w y (hd.map (Value.int .i64))) := hH
  have HR : Hid (Lies B w z (rm.map (Value.int .i64))) := hR
  have HP : Hid (Net pb w (.slice x rows.length cx) (.slice y hd.length cy) (.slice z rm.length cz)) := hP
  have HL : Hid (Lev B lb c n w lv) := hL
  have HO : Hid ((gr n rows hd rm).Ok) := hok
  have HLL : Hid (∀ r, r ∈ rows → r.ss.length ≤ 131072) := hll
  have hlen := hL.len
  clear hG hH hR hP hL hok hll
  go_enter Try.func13, Try.ntmps13
  go_wp2
  go_loopw [17] (fun iv wr => ∃ k : Nat, k ≤ n ∧ iv = .int .i64 k ∧ Lev B lb c n wr (neg lv k) ∧ Net pb wr (.slice x rows.length cx) (.slice y hd.length cy) (.slice z rm.length cz) ∧ Below B w wr) (fun iv _ => n - (intOf iv).toNat)
  case atStart => exact ⟨0, Nat.zero_le _, rfl, HL.out, HP.out, Below.refl _ _⟩
  case round =>
    obtain ⟨k, hk, rfl, hlv, hnet, hbel⟩ := hrel
    by_cases hlt : k < n
    · have hcd := hlv.at hlt
      have hfd := hlv.fz k
      have H1 : Hid (Lev B lb c n (wr.setCell ⟨lb, k, none⟩ (.int .i64 (-1))) (neg lv (k + 1))) := by
        have := hlv.put k (-1)
        rw [neg_step lv k (by omega)] at this
        exact this
      have H2 : Hid (Net pb (wr.setCell ⟨lb, k, none⟩ (.int .i64 (-1))) (.slice x rows.length cx) (.slice y hd.length cy) (.slice z rm.length cz)) := hnet.put (by show pb ≠ lb; omega) _
      have H3 : Hid (Below B w (wr.setCell ⟨lb, k, none⟩ (.int .i64 (-1)))) := hbel.setCell hB _
      clear hlv hnet hbel
      go_wp2
      go_roundw
      case rel => exact ⟨k + 1, by omega, by go_num, H1.out, H2.out, H3.out⟩
      case measure => simp [intOf]; omega
    · obtain rfl : k = n := by omega
      have hcd := hlv.at hs
      have hfd := hlv.fz s
      have H1 : Hid (Lev B lb c k (wr.setCell ⟨lb, s, none⟩ (.int .i64 0)) (lv0 k s)) := by
        have := hlv.put s 0
        rw [← hlen, neg_full, hlen] at this
        exact this
      have H2 : Hid (Net pb (wr.setCell ⟨lb, s, none⟩ (.int .i64 0)) (.slice x rows.length cx) (.slice y hd.length cy) (.slice z rm.length cz)) := hnet.put (by show pb ≠ lb; omega) _
      have H3 : Hid (Below B w (wr.setCell ⟨lb, s, none⟩ (.int .i64 0))) := hbel.setCell hB _
      have hsz := hbel.size
      have hss : wr.heap.size = (wr.setCell ⟨lb, s, none⟩ (.int .i64 0)).heap.size := by simp [World.setCell]
      have H4 : Hid (wr.heap.size = (wr.setCell ⟨lb, s, none⟩ (.int .i64 0)).heap.size) := hss
      clear hss hlv hnet hbel
      have HM : Hid (Mem B lb c k pb wr.heap.size (.slice x rows.length cx) (.slice y hd.length cy) (.slice z rm.length cz) w ((wr.setCell ⟨lb, s, none⟩ (.int .i64 0)).alloc (.cells #[.int .i64 (s : Int)] 3)) (.slice (some ⟨wr.heap.size, 0, none⟩) 1 1) (lv0 k s) [(s : Int)]) := by
        have hq := Que.fresh (wr.setCell ⟨lb, s, none⟩ (.int .i64 0)) (s : Int)
        rw [← H4.out] at hq
        have hb2 : Below wr.heap.size (wr.setCell ⟨lb, s, none⟩ (.int .i64 0)) ((wr.setCell ⟨lb, s, none⟩ (.int .i64 0)).alloc (.cells #[.int .i64 (s : Int)] 3)) := (Below.refl _ _).alloc (by rw [← H4.out]; exact Nat.le_refl _) _
        refine ⟨hq, H1.out.below hb2 (by omega), H2.out.below hb2 (by omega), H3.out.trans (hb2.mono (by omega)), ?_⟩
        rw [H4.out]; exact hb2.size
      clear H1 H2 H3 H4
      have hgl : ∀ v : Nat, v < k → (gr k rows hd rm).V v := fun v hv => ⟨by omega, by show (v : Int) < (k : Int); omega⟩
      have HI : Hid (Inv (gr k rows hd rm) s (lv0 k s) [(s : Int)]) := Inv.start (gr k rows hd rm) s (hgl s hs)
      have HV : Hid (∀ v : Nat, v < k → (gr k rows hd rm).V v) := hgl
      clear hgl
      go_wp2
      clear hcd hfd
      obtain ⟨Q, hQ⟩ : ∃ Q, Q = wr.heap.size := ⟨_, rfl⟩
      have hlQ : lb < Q := by omega
      have hpQ : pb < Q := by omega
      have hBQ : B ≤ Q := by omega
      have HQe : Hid (Q = wr.heap.size) := hQ
      clear hQ
      go_loopg [10] (k + 1) (fun K qv wr2 => ∃ lv qs, Inv (gr k rows hd rm) s lv qs ∧ (k - cnt lv) + qs.length ≤ K ∧ K ≤ k + 1 ∧ Mem B lb c k pb Q (.slice x rows.length cx) (.slice y hd.length cy) (.slice z rm.length cz) w wr2 qv lv qs)
      case atStart => exact ⟨_, _, HI.out, by simp, Nat.le_refl _, by rw [HQe.out]; exact HM.out⟩
      case round =>
        clear HI HM HQe
        obtain ⟨lv2, qs, hinv, hms, hgk, hq, hlv, hnet, hbel, hQs⟩ := hrel
        have HInv : Hid (Inv (gr k rows hd rm) s lv2 qs) := hinv
        clear hinv
        cases qs with
        | nil =>
          obtain ⟨g0, off, cap, rfl, _, _, _, _, _, _⟩ := hq
          have hct := hlv.at ht
          have HF : Hid (Cert (gr k rows hd rm) s lv2) := HInv.out.fin
          have HLv : Hid (Lev B lb c k _ lv2) := hlv
          have HBl : Hid (Below B w _) := hbel
          clear hlv hbel hnet HInv
          go_wp2
          go_ret
          exact ⟨lv2, HF.out, rfl, HLv.out, HBl.out⟩
        | cons u tl =>
          have HMs : Hid ((k - cnt lv2) + (u :: tl).length ≤ gk) := hms
          clear hms
          obtain ⟨huV, hu0⟩ := HInv.out.inq u (by simp)
          have huV1 := huV.1
          have huV2 : u < (k : Int) := huV.2
          obtain ⟨un, rfl⟩ : ∃ m : Nat, u = m := ⟨u.toNat, by omega⟩
          have hun : un < k := by omega
          have hq' := hq
          obtain ⟨g0, off, cap, hqv, hg1, hg2, hg3, hg4, hg5, hg6⟩ := hq'
          subst hqv
          have hc0 : wr.cell? ⟨g0, off, none⟩ = some (.int .i64 (un : Int)) := by simpa [List.getD] using hg5 0 (by simp)
          clear hg5 hg6
          obtain ⟨hn0, hn1, hn2⟩ := hnet
          obtain ⟨xb, xo, hx, hxB, hxs, hrow, hLs⟩ := HG.out.row (k := un) (by omega)
          have hmem : rows.getD un IRow.zero ∈ rows := by
            have : un < rows.length := by omega
            simp [List.getD, this]
          have hrl2 := HLL.out _ hmem
          have hcr : wr.cell? ⟨xb, xo + un, none⟩ = some (rows.getD un IRow.zero).val := (hbel.cell (p := ⟨xb, xo + un, none⟩) hxB).trans (hrow un (by omega))
          have HAdj : Hid ((gr k rows hd rm).adj (un : Int) = (rows.getD un IRow.zero).ss) := by
            show (rows.getD (un : Int).toNat IRow.zero).ss = _
            simp
          have HRs : Hid (Lies B w (rows.getD un IRow.zero).a ((rows.getD un IRow.zero).ss.map (Value.int .i64))) := hLs
          clear hrow hLs hmem
          generalize rows.getD un IRow.zero = r at *
          obtain ⟨ra, rc, rs⟩ := r
          simp only [IRow.val] at hcr HAdj HRs hrl2
          subst hx
          have HM0 : Hid (Mem B lb c k pb Q (.slice (some ⟨xb, xo, none⟩) rows.length cx) (.slice y hd.length cy) (.slice z rm.length cz) w wr (.slice (some ⟨g0, off, none⟩) (tl.length + 1) cap) lv2 ((un : Int) :: tl)) := ⟨hq, hlv, ⟨hn0, hn1, hn2⟩, hbel, hQs⟩
          clear hq hlv hn1 hn2 hbel
          go_wp2
          clear hn0 hcr hc0
          go_loopw [10, 45] (fun qv jv wr3 => ∃ (j : Nat) (lv tl : List Int), Mid (gr k rows hd rm) s lv un tl j ∧ j ≤ rs.length ∧ jv = .int .i64 j ∧ (k - cnt lv) + (tl.length + 1) ≤ gk ∧ Mem B lb c k pb Q (.slice (some ⟨xb, xo, none⟩) rows.length cx) (.slice y hd.length cy) (.slice z rm.length cz) w wr3 qv lv ((un : Int) :: tl)) (fun _ jv _ => rs.length - (intOf jv).toNat)
          case atStart => exact ⟨0, lv2, tl, Mid.start HInv.out, Nat.zero_le _, rfl, HMs.out, HM0.out⟩
          case round =>
            clear HMs HM0 HInv
            obtain ⟨j, lv3, tl3, hmid, hj, rfl, hms3, hq, hlv, hnet, hbel, hQs3⟩ := hrel
            have HMid : Hid (Mid (gr k rows hd rm) s lv3 un tl3 j) := hmid
            have HMs : Hid ((k - cnt lv3) + (tl3.length + 1) ≤ gk) := hms3
            clear hmid hms3
            by_cases hlt3 : j < rs.length
            · have hjl : j < ((gr k rows hd rm).adj (un : Int)).length := by rw [HAdj.out]; exact hlt3
              obtain ⟨eb, eo, hra, heB, _, hec⟩ := HRs.out.num hlt3
              subst hra
              have hce : _ := (hbel.cell (p := ⟨eb, eo + j, none⟩) heB).trans (hec j hlt3)
              have hmem : rs.getD j 0 ∈ (gr k rows hd rm).adj (un : Int) := by rw [HAdj.out]; exact getD_mem hlt3
              obtain ⟨he0, heh, her, hvV⟩ := HO.out _ (HV.out un hun) _ hmem
              have HSk : Hid ((0 < lk rm (rs.getD j 0) → 0 ≤ lk lv3 (lk hd (rs.getD j 0))) → Mid (gr k rows hd rm) s lv3 un tl3 (j + 1)) := by
                intro h
                refine HMid.out.skip HO.out hjl ?_
                rw [HAdj.out]
                exact h
              have HPu : Hid (0 < lk rm (rs.getD j 0) → lk lv3 (lk hd (rs.getD j 0)) < 0 → Mid (gr k rows hd rm) s (lv3.set (lk hd (rs.getD j 0)).toNat (lk lv3 un + 1)) un (tl3 ++ [lk hd (rs.getD j 0)]) (j + 1) ∧ cnt (lv3.set (lk hd (rs.getD j 0)).toNat (lk lv3 un + 1)) = cnt lv3 + 1) := by
                intro h1 h2
                have := HMid.out.push HO.out hjl (by rw [HAdj.out]; exact h1) (by rw [HAdj.out]; exact h2)
                rw [HAdj.out] at this
                exact this
              have heh2 : rs.getD j 0 < (hd.length : Int) := heh
              have her2 : rs.getD j 0 < (rm.length : Int) := her
              have hvV1 : 0 ≤ lk hd (rs.getD j 0) := hvV.1
              have hvV2 : lk hd (rs.getD j 0) < (k : Int) := hvV.2
              clear hec hmem heh her hvV
              generalize rs.getD j 0 = e at *
              obtain ⟨en, rfl⟩ : ∃ m : Nat, e = m := ⟨e.toNat, by omega⟩
              have hen1 : en < hd.length := by omega
              have hen2 : en < rm.length := by omega
              obtain ⟨yb, yo, hy, hyB, _, hyc⟩ := HH.out.num hen1
              subst hy
              obtain ⟨zb, zo, hz, hzB, _, hzc⟩ := HR.out.num hen2
              subst hz
              have hch : wr.cell? ⟨yb, yo + en, none⟩ = some (.int .i64 (lk hd (en : Int))) := by
                rw [hbel.cell (p := ⟨yb, yo + en, none⟩) hyB, hyc en hen1]
                simp [lk]
              have hcm : wr.cell? ⟨zb, zo + en, none⟩ = some (.int .i64 (lk rm (en : Int))) := by
                rw [hbel.cell (p := ⟨zb, zo + en, none⟩) hzB, hzc en hen2]
                simp [lk]
              clear hyc hzc
              generalize lk hd (en : Int) = v at *
              generalize lk rm (en : Int) = r at *
              obtain ⟨vn, rfl⟩ : ∃ m : Nat, v = m := ⟨v.toNat, by omega⟩
              have hvn : vn < k := by omega
              have hlu0 := (HMid.out.inv.inq un (by simp)).2
              have hlu1 := (HMid.out.inv.base.rng un (HV.out un hun)).2
              have hcn := cnt_le lv3
              rw [hlv.len] at hcn
              have hcv := hlv.at hvn
              have hcu := hlv.at hun
              have hfv := hlv.fz vn
              obtain ⟨hn0, hn1, hn2⟩ := hnet
              obtain ⟨g0', off', cap', hqv, hg1', hg2', hg3', hg4', hg5', hg6'⟩ := id hq
              subst hqv
              clear hg5' hg6'
              by_cases hr : 0 < r
              · by_cases hneg : lk lv3 (vn : Int) < 0
                · obtain ⟨hM1, hM2⟩ := HPu.out hr hneg
                  rw [Int.toNat_natCast] at hM1 hM2
                  have hcn2 := cnt_le (lv3.set vn (lk lv3 (un : Int) + 1))
                  rw [List.length_set, hlv.len] at hcn2
                  have HMs2 : Hid ((k - cnt (lv3.set vn (lk lv3 (un : Int) + 1))) + ((tl3 ++ [(vn : Int)]).length + 1) ≤ gk) := by
                    have := HMs.out
                    show _ ≤ _
                    rw [List.length_append, List.length_singleton]
                    omega
                  have hql : tl3.length + 1 ≤ 131073 := by
                    have := HMs.out
                    omega
                  have HM1 : Hid (Mid (gr k rows hd rm) s (lv3.set vn (lk lv3 (un : Int) + 1)) un (tl3 ++ [(vn : Int)]) (j + 1)) := hM1
                  have HL1 : Hid (Lev B lb c k (wr.setCell ⟨lb, vn, none⟩ (.int .i64 (lk lv3 (un : Int) + 1))) (lv3.set vn (lk lv3 (un : Int) + 1))) := hlv.put vn _
                  have HN1 : Hid (Net pb (wr.setCell ⟨lb, vn, none⟩ (.int .i64 (lk lv3 (un : Int) + 1))) (.slice (some ⟨xb, xo, none⟩) rows.length cx) (.slice (some ⟨yb, yo, none⟩) hd.length cy) (.slice (some ⟨zb, zo, none⟩) rm.length cz)) := Net.put ⟨hn0, hn1, hn2⟩ (by show pb ≠ lb; omega) _
                  have HB1 : Hid (Below B w (wr.setCell ⟨lb, vn, none⟩ (.int .i64 (lk lv3 (un : Int) + 1)))) := hbel.setCell hB _
                  have HQ1 : Hid (Que Q (wr.setCell ⟨lb, vn, none⟩ (.int .i64 (lk lv3 (un : Int) + 1))) (.slice (some ⟨g0', off', none⟩) (tl3.length + 1) cap') ((un : Int) :: tl3)) := hq.set hlQ _
                  have HW1 : Hid (wr.heap.size = (wr.setCell ⟨lb, vn, none⟩ (.int .i64 (lk lv3 (un : Int) + 1))).heap.size) := by
                    show _ = _
                    simp [World.setCell]
                  clear hq hlv hbel HSk HPu hM1 hM2 hcn2 HMs
                  have hlu2 : lk lv3 (un : Int) < 131072 := by omega
                  clear hlu1 hcn
                  generalize lk lv3 (vn : Int) = lvv at *
                  generalize lk lv3 (un : Int) = lvu at *
                  go_wp2_with (at_builtin; (refine wpList_qpush _ rfl _ _ rfl Q i0 hi hz0 hz1 hz2 (.slice (some ⟨g0', off', none⟩) (tl3.length + 1) cap') ((un : Int) :: tl3) (vn : Int) rfl wr.heap.size HW1.out rfl HQ1.out ?_ ?_ ?_))
                  case refine_1 => rw [← HW1.out]; exact hQs3
                  case refine_2 => show tl3.length + 1 ≤ _; omega
                  intro qv5 w5 hq5 hb5
                  have HM5 : Hid (Mem B lb c k pb Q (.slice (some ⟨xb, xo, none⟩) rows.length cx) (.slice (some ⟨yb, yo, none⟩) hd.length cy) (.slice (some ⟨zb, zo, none⟩) rm.length cz) w w5 qv5 (lv3.set vn (lvu + 1)) ((un : Int) :: (tl3 ++ [(vn : Int)]))) :=
                    ⟨hq5, HL1.out.below hb5 hlQ, HN1.out.below hb5 hpQ, HB1.out.trans (hb5.mono hBQ), Nat.le_trans (by rw [← HW1.out]; exact hQs3) hb5.size⟩
                  clear hq5 hb5 HL1 HN1 HB1 HQ1
                  go_wp2
                  go_roundw
                  case rel => first | exact ⟨j + 1, _, _, HM1.out, by omega, by go_num, HMs2.out, HM5.out⟩ | ((repeat apply Exists.intro); exact ⟨⟨j + 1, _, _, HM1.out, by omega, by go_num, HMs2.out, HM5.out⟩, rfl⟩)
                  case measure => simp [intOf]; omega
                · have HSk2 : Hid (Mid (gr k rows hd rm) s lv3 un tl3 (j + 1)) := HSk.out (fun _ => by omega)
                  have HM0 : Hid (Mem B lb c k pb Q (.slice (some ⟨xb, xo, none⟩) rows.length cx) (.slice (some ⟨yb, yo, none⟩) hd.length cy) (.slice (some ⟨zb, zo, none⟩) rm.length cz) w wr (.slice (some ⟨g0', off', none⟩) (tl3.length + 1) cap') lv3 ((un : Int) :: tl3)) := ⟨hq, hlv, ⟨hn0, hn1, hn2⟩, hbel, hQs3⟩
                  clear hq hlv hbel HSk HPu
                  generalize lk lv3 (vn : Int) = lvv at *
                  generalize lk lv3 (un : Int) = lvu at *
                  go_wp2
                  go_roundw
                  case rel => exact ⟨j + 1, lv3, tl3, HSk2.out, by omega, by go_num, HMs.out, HM0.out⟩
                  case measure => simp [intOf]; omega
              · have HSk2 : Hid (Mid (gr k rows hd rm) s lv3 un tl3 (j + 1)) := HSk.out (fun h => absurd h hr)
                have HM0 : Hid (Mem B lb c k pb Q (.slice (some ⟨xb, xo, none⟩) rows.length cx) (.slice (some ⟨yb, yo, none⟩) hd.length cy) (.slice (some ⟨zb, zo, none⟩) rm.length cz) w wr (.slice (some ⟨g0', off', none⟩) (tl3.length + 1) cap') lv3 ((un : Int) :: tl3)) := ⟨hq, hlv, ⟨hn0, hn1, hn2⟩, hbel, hQs3⟩
                clear hq hlv hbel HSk HPu
                generalize lk lv3 (vn : Int) = lvv at *
                generalize lk lv3 (un : Int) = lvu at *
                go_wp2
                go_roundw
                case rel => exact ⟨j + 1, lv3, tl3, HSk2.out, by omega, by go_num, HMs.out, HM0.out⟩
                case measure => simp [intOf]; omega
            · obtain rfl : j = rs.length := by omega
              have HInv3 : Hid (Inv (gr k rows hd rm) s lv3 tl3) := by
                have h := HMid.out
                rw [← HAdj.out] at h
                exact h.pop
              have hq' := hq
              obtain ⟨g0', off', cap', hqv, hg1', hg2', hg3', hg4', hg5', hg6'⟩ := hq'
              subst hqv
              clear hg5' hg6'
              have hg3'' : tl3.length + 1 ≤ cap' := hg3'
              have HQ2 : Hid (Que Q wr (.slice (if cap' = 1 then some ⟨g0', off', none⟩ else some ⟨g0', off' + 1, none⟩) tl3.length (cap' - 1)) tl3) := hq.pop
              have HM4 : Hid (Lev B lb c k wr lv3 ∧ Net pb wr (.slice (some ⟨xb, xo, none⟩) rows.length cx) (.slice y hd.length cy) (.slice z rm.length cz) ∧ Below B w wr ∧ Q ≤ wr.heap.size) := ⟨hlv, hnet, hbel, hQs3⟩
              clear hq hlv hnet hbel
              by_cases hc1 : cap' = 1
              · subst hc1
                rw [if_pos rfl] at HQ2
                obtain rfl : tl3 = [] := List.eq_nil_of_length_eq_zero (by omega)
                go_wp2
                go_roundg (gk - 1)
                case measure =>
                  have := HMs.out
                  omega
                case rel =>
                  refine ⟨lv3, _, HInv3.out, ?_, ?_, HQ2.out, HM4.out.1, HM4.out.2.1, HM4.out.2.2.1, HM4.out.2.2.2⟩
                  · have := HMs.out
                    simp only [List.length_nil] at this ⊢
                    omega
                  · omega
              · rw [if_neg hc1] at HQ2
                go_wp2
                go_roundg (gk - 1)
                case measure =>
                  have := HMs.out
                  omega
                case rel =>
                  refine ⟨lv3, _, HInv3.out, ?_, ?_, HQ2.out, HM4.out.1, HM4.out.2.1, HM4.out.2.2.1, HM4.out.2.2.2⟩
                  · have := HMs.out
                    omega
                  · omega
end Go.Proofs.Qxb6605245a.Bfs
