/-
  appendProduct's contract: no stretch, or two and more, none of them empty.
-/
import Derived.Test.Qxb6600590aProd3
import Derived.Deep.AppendLies
namespace Go.Proofs.Qxb6600590a.Prod
open Go.RowKit Strs Radix
set_option linter.unusedVariables false

theorem size_le_gw (rows : List SRow) (k d : Nat) (hk : k < rows.length) (hd : d < (rows.getD k SRow.zero).ss.length) : ((((rows.map SRow.ss).getD k []).getD d ByteArray.empty)).size ≤ gw (rows.getD k SRow.zero) := by
  have e : (rows.map SRow.ss).getD k [] = (rows.getD k SRow.zero).ss := by simp [List.getD, hk]
  rw [e]
  have := size_le_tot _ d hd
  unfold gw
  omega

theorem ss_at (rows : List SRow) (k : Nat) (hk : k < rows.length) : (rows.map SRow.ss).getD k [] = (rows.getD k SRow.zero).ss := by simp [List.getD, hk]

set_option maxHeartbeats 8000000 in
theorem prod_many (base B : Nat) (ao b : Option Addr) (c capb : Nat) (rows : List SRow) (its : List ByteArray) (w : World) (hB : B ≤ base) (hbs : base ≤ w.heap.size) (hm : its.length ≤ 1048576) (hsz : 24 * rows.length + gtot rows ≤ 1048576)
    (hI : w.ownsRow base 9 1 (.slice ao its.length c) its.length (its.map Value.string)) (hG : Grid B w b rows) (h1 : rows.length ≠ 1) (hpos : ∀ r, r ∈ rows → 0 < r.ss.length) (hpr : pr rows ≤ 65536) :
    Calls Try.prog 31 #[.slice ao its.length c, .slice b rows.length capb] w (P31 base rows its w) := by
  obtain ⟨i0, hi, hi0, hi1, hi2⟩ := info_parts info3
  obtain ⟨j0, hj, hj0, hj1, hj2⟩ := info_parts info9
  obtain ⟨k0, hk0, hk1, hk2, hk3⟩ := info_parts info5
  have hne : ((rows.length : Int) == 1) = false := by simp; omega
  have HPos : Hid (∀ r, r ∈ rows → 0 < r.ss.length) := hpos
  have HLp : Hid (∀ l, l ∈ lens rows → 0 < l) := fun l hl => by
    obtain ⟨r, hr, rfl⟩ := List.mem_map.1 hl
    exact hpos r hr
  have HG0 : Hid (Grid B w b rows) := hG
  have HG : Hid (Grid B (w.alloc (.cells #[.slice b rows.length capb] 36)) b rows) := hG.below ((Below.refl B w).alloc (by omega) _)
  have hmf : ∀ (fn : Fn) (first cap : Array Value) (w : World), (Instr.makeFunc fn first cap).run Try.prog w = .ok (.func fn first cap) w := fun _ _ _ _ => rfl
  clear hpos hG
  go_enter Try.func31, Try.ntmps31
  go_wp2
  go_loop [5, 23] (fun cv iv => ∃ (k : Nat), k ≤ rows.length ∧ iv = .int .i64 k ∧ cv = .int .i64 (prTo rows k : Nat)) (fun _ iv => rows.length - (intOf iv).toNat)
  case atStart => exact ⟨0, Nat.zero_le _, rfl, rfl⟩
  case round =>
    obtain ⟨k, hk, rfl, rfl⟩ := hrel
    by_cases hlt : k < rows.length
    · obtain ⟨bb, boff, rfl, _, hbw, hrow, _⟩ := HG.out.row hlt
      have hcr := hrow k hlt
      have HS : Hid (prTo rows (k + 1) = prTo rows k * (rows.getD k SRow.zero).ss.length) := prTo_succ rows k hlt
      have hle1 := Nat.le_trans (prTo_le rows (k + 1) HPos.out) hpr
      rw [HS.out] at hle1
      clear hrow HG
      generalize rows.getD k SRow.zero = r at *
      obtain ⟨ra, rc, rs⟩ := r
      simp only [SRow.val] at hcr HS hle1
      generalize prTo rows k = C at *
      have hm1 : (0 : Int) ≤ (C : Int) * (rs.length : Int) := by rw [← Int.natCast_mul]; omega
      have hm2 : (C : Int) * (rs.length : Int) ≤ 65536 := by rw [← Int.natCast_mul]; omega
      clear hle1
      go_wp2
      go_round
      case rel => exact ⟨k + 1, by omega, by go_num, by rw [HS.out]; go_num⟩
      case measure => simp [intOf]; omega
    · obtain rfl : k = rows.length := by omega
      rw [prTo_full]
      clear HG
      go_wp2_with (at_make; refine wpList_make_full _ rfl _ _ 52 rfl base 3 i0 (.int .i64 0) 1 Try.underlying52 hi hi0 hi1 _ _ _ _ rows.length rfl rfl ?_ ?_ ?_ ?_ ?_ ?_)
      case refine_1 => rfl
      case refine_2 => rfl
      case refine_3 => omega
      case refine_4 => unfold maxLen; omega
      case refine_5 => omega
      intro w1 hown1 hgrow1
      rw [pts_zero (lens rows) rows.length (lens_length rows)] at hown1
      have hInv : Inv base w.heap.size (w.heap.size + 1) b capb rows its w w1 ao c 0 (digs (lens rows) 0) none 0 0 [] := by
        refine ⟨?_, hown1, (box_own w _ base hbs).kept hgrow1 (.inr (by simp [Value.ownBlock])), World.ownsRow_nil _ _ _ _, ((Below.refl base w).alloc hbs (.cells #[.slice b rows.length capb] 36)).grown hgrow1 (by simp; omega) (fun k hk => by cases hk), ?_⟩
        · have h := (hI.alloc (.cells #[.slice b rows.length capb] 36)).kept hgrow1 (by cases ao <;> simp [Value.ownBlock])
          show w1.ownsRow base 9 1 (.slice ao its.length c) its.length ((its ++ []).map Value.string)
          rw [List.append_nil]
          exact h
        · have := hgrow1.size
          simp at this
          omega
      have HInv : Hid _ := hInv
      clear hInv hown1 hgrow1 hI
      go_wp2
      go_loopw [0, 10, 37] (fun vi vb iv wr => ∃ (t : Nat) (ao' : Option Addr) (c' : Nat) (bo : Option Addr) (bn bc : Nat) (bs : List Value), t ≤ pr rows ∧ iv = .int .i64 t ∧ vi = .slice ao' (its.length + t) c' ∧ vb = .slice bo bn bc ∧
        Inv base w.heap.size (w.heap.size + 1) b capb rows its w wr ao' c' t (digs (lens rows) t) bo bn bc bs) (fun _ _ iv _ => pr rows - (intOf iv).toNat)
      case atStart => exact ⟨0, ao, c, none, 0, 0, [], Nat.zero_le _, rfl, rfl, rfl, HInv.out⟩
      case round =>
        clear HInv
        obtain ⟨t, ao', c', bo, bn, bc, bs, ht, rfl, rfl, rfl, hinv⟩ := hrel
        obtain ⟨wo, rfl⟩ : ∃ wo : World, wo = wr := ⟨_, rfl⟩
        by_cases htl : t < pr rows
        · have hbox := hinv.box.cellAt 0 (by omega)
          simp only [List.getElem?_cons_zero] at hbox
          have HInv : Hid _ := hinv.cut
          have hbo : base ≤ wo.heap.size := hinv.size
          have HDL : Hid ((digs (lens rows) t).length = rows.length) := by show _ = _; rw [digs_length, lens_length]
          have HDlt : Hid (∀ k, k < rows.length → (digs (lens rows) t).getD k 0 < (rows.getD k SRow.zero).ss.length) := fun k hk => by
            have h := digs_lt (lens rows) t HLp.out k (by rw [lens_length]; exact hk)
            rwa [lens_at rows k hk] at h
          have HNx : Hid ((nxt (lens rows) (digs (lens rows) t)).1 = digs (lens rows) (t + 1)) := nxt_digs _ _ HLp.out
          have HTx : Hid (textTo (rows.map SRow.ss) (digs (lens rows) t) rows.length = text (rows.map SRow.ss) (digs (lens rows) t)) := by
            have h := textTo_full (rows.map SRow.ss) (digs (lens rows) t) (by rw [HDL.out]; simp)
            rw [List.length_map] at h
            exact h
          clear hinv
          generalize hdsE : digs (lens rows) t = ds at *
          have HdsE : Hid (digs (lens rows) t = ds) := hdsE
          clear hdsE
          go_wp2
          go_loopw [10, 43] (fun vb kv wk => ∃ (k : Nat) (bo' : Option Addr) (bc' : Nat), k ≤ rows.length ∧ kv = .int .i64 k ∧ vb = .slice bo' (textTo (rows.map SRow.ss) ds k).size bc' ∧ (textTo (rows.map SRow.ss) ds k).size ≤ gtotTo rows k ∧
            Inv base w.heap.size (w.heap.size + 1) b capb rows its w wk ao' c' t ds bo' (textTo (rows.map SRow.ss) ds k).size bc' (Lib.strCells (textTo (rows.map SRow.ss) ds k))) (fun _ kv _ => rows.length - (intOf kv).toNat)
          case atStart => exact ⟨0, bo, bc, Nat.zero_le _, rfl, rfl, Nat.zero_le _, HInv.out⟩
          case round =>
            clear HInv
            obtain ⟨k, bo', bc', hk, rfl, rfl, hts, hinv⟩ := hrel
            have hgl := gtotTo_le rows k
            by_cases hlt : k < rows.length
            · have hGk := HG0.out.below (hinv.below.mono hB)
              obtain ⟨bb, boff, rfl, _, hbw, hrow, hLs⟩ := hGk.row hlt
              have hcr := hrow k hlt
              have hdl := HDlt.out k hlt
              obtain ⟨cb, coff, hra, _, _, hstr⟩ := hLs.str hdl
              have hcs := hstr _ hdl
              have hpt := (hinv.point.cellAt k (by omega)).trans (pts_at ds k (by rw [HDL.out]; exact hlt))
              have HTS : Hid (Lib.strCells (textTo (rows.map SRow.ss) ds (k + 1)) = Lib.strCells (textTo (rows.map SRow.ss) ds k) ++ Lib.strCells (((rows.map SRow.ss).getD k []).getD (ds.getD k 0) ByteArray.empty)) := textTo_succ _ _ k (by simpa using hlt) (by rw [HDL.out]; simp)
              have HTZ : Hid ((textTo (rows.map SRow.ss) ds (k + 1)).size = (textTo (rows.map SRow.ss) ds k).size + (((rows.map SRow.ss).getD k []).getD (ds.getD k 0) ByteArray.empty).size) := textTo_size _ _ k (by simpa using hlt) (by rw [HDL.out]; simp)
              have hxs := size_le_gw rows k _ hlt hdl
              have HGS : Hid (gtotTo rows (k + 1) = gtotTo rows k + gw (rows.getD k SRow.zero)) := gtotTo_succ rows k hlt
              have hgl2 := gtotTo_le rows (k + 1)
              rw [HGS.out] at hgl2
              rw [ss_at rows k hlt] at HTS HTZ hxs
              have hbuf := hinv.buf
              have hks := hinv.size
              have HI : Hid _ := hinv
              clear hinv hrow hstr hLs hGk
              generalize rows.getD k SRow.zero = r at *
              obtain ⟨ra, rc, rs⟩ := r
              simp only [SRow.val] at hcr hcs hdl hra hxs HTS HTZ
              subst hra
              generalize ds.getD k 0 = d at *
              generalize rs.getD d ByteArray.empty = x at *
              generalize textTo (rows.map SRow.ss) ds k = T at *
              generalize gw ⟨some ⟨cb, coff, none⟩, rc, rs⟩ = G at *
              go_wp2_with (at_builtin; refine Lib.wpList_append_own_string _ rfl _ _ 22 9 rfl base 5 k0 Try.underlying22 Try.underlying9 hk0 hk1 hk2 hk3 _ _ _ rfl hbuf _ rfl ?_ ?_ hks ?_)
              case refine_1 => unfold maxLen; omega
              case refine_2 => omega
              intro v' w2 hown2 hgrow2 _
              obtain ⟨bo2, bc2, hv⟩ := own_form hown2
              rw [hv] at hown2 ⊢
              have HI2 : Hid _ := HI.out.push hown2 hgrow2
              clear hown2 hgrow2 hbuf HI
              go_wp2
              go_roundw
              case rel => exact ⟨k + 1, bo2, bc2, by omega, by go_num, by rw [HTZ.out], by rw [HTZ.out, HGS.out]; omega, by rw [HTZ.out, HTS.out]; exact HI2.out⟩
              case measure => simp [intOf]; omega
            · obtain rfl : k = rows.length := by omega
              rw [HTx.out] at hts hinv ⊢
              have HX : Hid (text (rows.map SRow.ss) ds = text (rows.map SRow.ss) (digs (lens rows) t)) := by show _ = _; rw [HdsE.out]
              clear HTx
              generalize text (rows.map SRow.ss) ds = x at *
              have hcv := conv_own hinv.buf
              have hItm := hinv.items
              have hks := hinv.size
              have HI : Hid _ := hinv
              clear hinv
              go_wp2_with (at_builtin; refine wpList_append_own _ rfl _ _ 28 rfl base 9 j0 (.string ByteArray.empty) 1 16 Try.underlying28 hj hj0 hj1 hj2 rfl (by decide) _ _ _ rfl (hItm.alloc _) ⟨wr.heap.size, 0, none⟩ 1 1 [.string x] rfl rfl ?_ ?_ ?_ ?_ ?_ ?_)
              case refine_1 => exact World.news_of_block (cs := #[.string x]) (heap_alloc_new wr _)
              case refine_2 => intro u hu; simp at hu; subst hu; rfl
              case refine_3 => unfold maxLen; omega
              case refine_4 => omega
              case refine_5 => simp; omega
              intro v' w2 hown2 hgrow2 _
              obtain ⟨ao2, c2, hv⟩ := own_form hown2
              rw [hv] at hown2 ⊢
              have hI2 := HI.out.item HX.out (by rw [List.map_append, List.append_assoc]; exact hown2) hgrow2
              have HC : Hid (Calls Try.prog 34 #[.slice (some ⟨w.heap.size + 1, 0, none⟩) rows.length rows.length, .func (.func 33) #[] #[.pointer (some ⟨w.heap.size, 0, none⟩)]] w2 (P34 base (w.heap.size + 1) rows.length (lens rows) ds w2)) :=
                next34 base (w.heap.size + 1) w.heap.size b capb B rows ds w2 HDL.out (fun k hk => by have h1 := HDlt.out k (by rw [← HDL.out]; exact hk); have h2 := gtotTo_succ rows k (by rw [← HDL.out]; exact hk); have h3 := gtotTo_le rows (k + 1); unfold gw at h2; omega) (by omega) hI2.point hI2.box hB hI2.size (HG0.out.below (hI2.below.mono hB))
              have HI2 : Hid _ := hI2
              clear hown2 hgrow2 HI hItm hcv hI2
              go_wp2_with fail
              refine HC.out.mono ?_
              rintro e w3 ⟨bb, rfl, hown3, hgrow3⟩
              rw [HNx.out] at hown3
              have HI3 : Hid _ := HI2.out.next hown3 hgrow3
              clear hown3 hgrow3 HI2 HC
              go_wp2
              go_roundw
              case rel => exact ⟨t + 1, ao2, c2, _, _, _, _, by omega, by go_num, rfl, rfl, HI3.out⟩
              case measure => simp [intOf]; omega
        · obtain rfl : t = pr rows := by omega
          go_wp2
          go_ret
          exact ⟨ao', c', rfl, hinv.items, hinv.below⟩
end Go.Proofs.Qxb6600590a.Prod
