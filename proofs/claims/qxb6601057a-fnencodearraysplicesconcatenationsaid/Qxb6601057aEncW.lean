/-
  encodeArray's contract.
-/
import Derived.Test.Qxb6601057aPush
namespace Go.Proofs.Qxb6601057a.EncW
open Go.RowKit Strs Push Enc
set_option linter.unusedVariables false

/-- The strings as lists of bytes. -/
def es (ss : List ByteArray) : List (List UInt8) := ss.map bl
theorem es_length (ss : List ByteArray) : (es ss).length = ss.length := by simp [es]
theorem es_take (ss : List ByteArray) (k : Nat) (hk : k < ss.length) : (es ss).take (k + 1) = (es ss).take k ++ [bl (ss.getD k ByteArray.empty)] := by
  have h : k < (es ss).length := by rw [es_length]; exact hk
  rw [List.take_succ_eq_append_getElem h]
  simp [es, List.getD, hk]

theorem sz_es (ss : List ByteArray) : sz (es ss) = 2 * tot ss + 3 * ss.length := by
  induction ss with
  | nil => rfl
  | cons s ss ih =>
    have h1 : es (s :: ss) = bl s :: es ss := rfl
    have h2 : tot (s :: ss) = s.size + tot ss := by simp [tot]
    rw [h1, sz_cons, ih, h2, bl_length, List.length_cons]
    omega

/-- The text behind k elements. -/
def upTo (ss : List ByteArray) (k : Nat) : List UInt8 := 123 :: join ((es ss).take k)
theorem upTo_zero (ss : List ByteArray) : upTo ss 0 = [123] := rfl
theorem upTo_full (ss : List ByteArray) : upTo ss ss.length ++ [125] = enc (es ss) := by
  unfold upTo enc
  rw [← es_length, List.take_length]
  rfl
theorem upTo_succ (ss : List ByteArray) (k : Nat) (hk : k < ss.length) : upTo ss (k + 1) = (if k = 0 then upTo ss k else upTo ss k ++ [44]) ++ elem (bl (ss.getD k ByteArray.empty)) := by
  unfold upTo
  rw [es_take ss k hk, join_snoc]
  by_cases h : k = 0
  · simp [h, join]
  · have : ¬ (es ss).take k = [] := by
      intro h2
      have h3 := congrArg List.length h2
      rw [List.length_take, es_length] at h3
      have h4 : min k ss.length = 0 := h3
      omega
    simp [h, this]
theorem upTo_len (ss : List ByteArray) (k : Nat) : (upTo ss k).length ≤ 1 + 2 * tot ss + 3 * ss.length := by
  unfold upTo
  have h1 := join_len ((es ss).take k)
  have h2 := sz_take (es ss) k
  rw [sz_es] at h2
  simp
  omega

def P14 (ss : List ByteArray) (w : World) (e : Ending) (w' : World) : Prop :=
  ∃ bo bcap, e = .returned (.slice (some bo) (enc (es ss)).length bcap) ∧ w'.ownsRow w.heap.size 5 1 (.slice (some bo) (enc (es ss)).length bcap) (enc (es ss)).length (bc (enc (es ss))) ∧ Below w.heap.size w w'

theorem esc_step (l : List UInt8) (j : Nat) (hj : j < l.length) : escL (l.take (j + 1)) = escL (l.take j) ++ escB (l.getD j 0) := by
  rw [List.take_succ_eq_append_getElem hj, escL_snoc]
  simp [List.getD, hj]

/-- What a conversion's row reads. -/
theorem mark_cell {W wk : World} {s : ByteArray} {j : Nat} (hj : j < s.size) (hY : wk.heap[W.heap.size]? = some (.cells (Lib.bytesCells W 5 s) 5 ((Lib.bytesCells W 5 s).size, (Lib.bytesCells W 5 s).size + 1))) : wk.cell? ⟨W.heap.size, j, none⟩ = some (.int .u8 (((bl s).getD j 0).toNat : Int)) := by
  have h := Lib.bytesWorld_cell W 5 s j hj
  refine Eq.trans ?_ h
  exact World.cell?_of_block (by rw [hY, Lib.bytesWorld_at_new])

theorem bc_lit (l : List UInt8) (z : Int) (b : UInt8) (h : z = (b.toNat : Int)) : bc l ++ [.int .u8 z] = bc (l ++ [b]) := by rw [h, bc_snoc]

set_option maxHeartbeats 4000000 in
theorem enc14 (x : Addr) (cap : Nat) (ss : List ByteArray) (w : World) (hl : ss.length + tot ss ≤ 1048576) (hc : Cells w (some x) (ss.map Value.string)) : Calls Try.prog 14 #[.slice (some x) ss.length cap] w (P14 ss w) := by
  obtain ⟨i0, hi, hz0, hz1, hz2⟩ := info_parts info5
  have q22 : ∀ (w : World) (a : Option Addr) (n c n' c' : Nat), (binOp .eql 22 (.slice a n c) (.slice none n' c')).run Try.prog w = .ok (.bool a.isNone) w := fun w a n c n' c' => Lib.run_eql_slice_nil w 22 9 a n c n' c' Try.underlying22
  have h0 : (w.alloc (.cells #[.int .u8 123] 5)).ownsRow w.heap.size 5 1 (.slice (some ⟨w.heap.size, 0, none⟩) (upTo ss 0).length 1) (upTo ss 0).length (bc (upTo ss 0)) := World.ownsRow_lit w #[.int .u8 123] 1 (Nat.le_refl _) (by unfold maxLen; omega) rfl
  have H0 : Hid _ := h0
  have HC : Hid (Cells w (some x) (ss.map Value.string)) := hc
  clear h0 hc
  go_enter Try.func14, Try.ntmps14
  go_wp2
  go_loopw [3, 13] (fun vb iv wr => ∃ (k : Nat) (bo : Option Addr) (bcap : Nat), k ≤ ss.length ∧ iv = .int .i64 k ∧ vb = .slice bo (upTo ss k).length bcap ∧ wr.ownsRow w.heap.size 5 1 (.slice bo (upTo ss k).length bcap) (upTo ss k).length (bc (upTo ss k)) ∧ Below w.heap.size w wr) (fun _ iv _ => ss.length - (intOf iv).toNat)
  case atStart => exact ⟨0, _, 1, Nat.zero_le _, rfl, rfl, H0.out, (Below.refl _ _).alloc (Nat.le_refl _) _⟩
  case round =>
    clear H0
    obtain ⟨k, bo, bcap, hk, rfl, rfl, hown, hbel⟩ := hrel
    obtain ⟨wo, rfl⟩ : ∃ wo : World, wo = wr := ⟨_, rfl⟩
    have hul := upTo_len ss k
    by_cases hlt : k < ss.length
    · obtain ⟨b, off, hx, hb, hcc⟩ := HC.out.str hlt
      simp only [Option.some.injEq] at hx
      subst hx
      have hcx : wo.cell? ⟨b, off + k, none⟩ = some (.string (ss.getD k ByteArray.empty)) := (hbel.cell (by exact hb)).trans (hcc k hlt)
      have HU : Hid (upTo ss (k + 1) = (if k = 0 then upTo ss k else upTo ss k ++ [44]) ++ elem (bl (ss.getD k ByteArray.empty))) := upTo_succ ss k hlt
      have hxs := size_le_tot ss k hlt
      clear hcc
      generalize ss.getD k ByteArray.empty = s at *
      have hbs := hbel.size
      -- the comma, where one stands
      have hcv : ∀ W : World, (convert 9 25 (.string s)).run Try.prog W = .ok (.slice (some ⟨W.heap.size, 0, none⟩) s.size (grownCap W s.size 0 5)) (Lib.bytesWorld W 5 s) := fun W => Lib.run_convert_string_bytes W 9 25 5 s Try.underlying9 Try.underlying25 Try.underlying5
      by_cases hk0 : k = 0
      all_goals
        first
          | (have HU1 : Hid (upTo ss (k + 1) = upTo ss k ++ elem (bl s)) := by
               have h := HU.out
               rw [if_pos hk0] at h
               exact h
             have hul1 : (upTo ss k).length ≤ 8388609 := by omega
             have hkle : k ≤ 0 := by omega
             clear hk0
             generalize upTo ss k = L1 at *
             have hown1 := hown
             have hbel1 := hbel
             have hbs1 := hbs
             clear hown hbel hbs hul HU)
          | (have HU1 : Hid (upTo ss (k + 1) = (upTo ss k ++ [44]) ++ elem (bl s)) := by
               have h := HU.out
               rw [if_neg hk0] at h
               exact h
             have hul0 : (upTo ss k).length ≤ 8388608 := by omega
             have hkle : 0 < k := by omega
             clear hk0
             generalize upTo ss k = L0 at *
             go_wp2_with (at_builtin; refine wpList_push _ rfl _ _ 25 rfl w.heap.size 5 i0 (.int .u8 0) 1 Try.underlying25 hi hz0 hz1 hz2 rfl _ _ _ (bc L0) (.int .u8 44) rfl rfl rfl hown hbs (by omega) (by omega) ?_)
             intro bo1 bcap1 w1 hown1 hg1
             have hbel1 := hbel.trans (push_below hown hbs hg1)
             have hbs1 := Nat.le_trans hbs (push_size hg1)
             rw [bc_lit L0 44 44 rfl] at hown1
             have hlen1 : (L0 ++ [44]).length = L0.length + 1 := by simp
             rw [← hlen1] at hown1 ⊢
             have hul1 : (L0 ++ [44]).length ≤ 8388609 := by omega
             clear hg1 hown hbel hbs hul HU hlen1 hul0
             generalize L0 ++ [44] = L1 at *)
      all_goals
        go_wp2_with (at_builtin; refine wpList_push _ rfl _ _ 25 rfl w.heap.size 5 i0 (.int .u8 0) 1 Try.underlying25 hi hz0 hz1 hz2 rfl _ _ _ (bc L1) (.int .u8 34) rfl rfl rfl hown1 hbs1 (by omega) (by omega) ?_)
        intro bo2 bcap2 w2 hown2 hg2
        have hbel2 := hbel1.trans (push_below hown1 hbs1 hg2)
        have hbs2 := Nat.le_trans hbs1 (push_size hg2)
        rw [bc_lit L1 34 34 rfl] at hown2
        clear hg2 hown1
        have hlen2 : (L1 ++ [34]).length = L1.length + 1 := by simp
        rw [← hlen2] at hown2 ⊢
        have hul2 : (L1 ++ [34]).length ≤ 8388610 := by omega
        have HU2 : Hid (upTo ss (k + 1) = (L1 ++ [34]) ++ (escL (bl s) ++ [34])) := by
          show upTo ss (k + 1) = _
          rw [HU1.out]
          simp [elem]
        clear HU1 hul1 hlen2 hbs1
        generalize L1 ++ [34] = L2 at *
        have hbel3 : Below w.heap.size w (Lib.bytesWorld w2 5 s) := hbel2.trans ⟨rfl, rfl, rfl, by rw [Lib.bytesWorld_size]; omega, fun i hi => Lib.bytesWorld_at_old w2 5 s i (by omega)⟩
        have hown3 : (Lib.bytesWorld w2 5 s).ownsRow w.heap.size 5 1 (.slice bo2 L2.length bcap2) L2.length (bc L2) := owns_below hown2 ⟨rfl, rfl, rfl, by rw [Lib.bytesWorld_size]; omega, fun i hi => Lib.bytesWorld_at_old w2 5 s i hi⟩
        have HM : Hid _ := Lib.bytesWorld_at_new w2 5 s
        have H3 : Hid _ := hown3
        have H3b : Hid _ := hbel3
        clear hown3 hown2 hbel3
        go_wp2
        go_loopw [3, 29] (fun vb jv wk => ∃ (j : Nat) (bo' : Option Addr) (c' : Nat), j ≤ s.size ∧ jv = .int .i64 j ∧ vb = .slice bo' (L2 ++ escL ((bl s).take j)).length c' ∧ wk.ownsRow w.heap.size 5 1 (.slice bo' (L2 ++ escL ((bl s).take j)).length c') (L2 ++ escL ((bl s).take j)).length (bc (L2 ++ escL ((bl s).take j))) ∧ Below w.heap.size w wk ∧
          wk.heap[w2.heap.size]? = some (.cells (Lib.bytesCells w2 5 s) 5 ((Lib.bytesCells w2 5 s).size, (Lib.bytesCells w2 5 s).size + 1))) (fun _ jv _ => s.size - (intOf jv).toNat)
        case atStart => exact ⟨0, bo2, bcap2, Nat.zero_le _, rfl, by simp [escL], by rw [List.take_zero, show escL [] = [] from rfl, List.append_nil]; exact H3.out, H3b.out, HM.out⟩
        case round =>
          clear H3 H3b HM hcv
          obtain ⟨j, bo', c', hj, rfl, rfl, hown, hbel, hY⟩ := hrel
          have hbs := hbel.size
          have hel := escL_len ((bl s).take j)
          have htl : ((bl s).take j).length ≤ s.size := by rw [List.length_take, bl_length]; omega
          have hl3 : (L2 ++ escL ((bl s).take j)).length ≤ 12582912 := by rw [List.length_append]; omega
          by_cases hjl : j < s.size
          · have hcz := mark_cell hjl hY
            have HS : Hid (L2 ++ escL ((bl s).take (j + 1)) = (L2 ++ escL ((bl s).take j)) ++ escB ((bl s).getD j 0)) := by
              show _ = _
              rw [esc_step (bl s) j (by rw [bl_length]; exact hjl), List.append_assoc]
            have HY : Hid _ := hY
            clear hel htl hY
            generalize (bl s).getD j 0 = z at *
            generalize L2 ++ escL ((bl s).take j) = L3 at *
            by_cases hz : z = 34 ∨ z = 92
            · have HE : Hid (L2 ++ escL ((bl s).take (j + 1)) = (L3 ++ [92]) ++ [z]) := by
                show _ = _
                rw [HS.out, escB, if_pos hz]
                simp
              rcases (show (((z.toNat : Int) == 34) = true) ∨ (((z.toNat : Int) == 34) = false ∧ ((z.toNat : Int) == 92) = true) from by rcases hz with rfl | rfl <;> decide) with h34 | ⟨h34, h92⟩
              all_goals
                clear hz
                go_wp2_with (at_builtin; refine wpList_push _ rfl _ _ 25 rfl w.heap.size 5 i0 (.int .u8 0) 1 Try.underlying25 hi hz0 hz1 hz2 rfl _ _ _ (bc L3) (.int .u8 92) rfl rfl rfl hown hbs (by omega) (by omega) ?_)
                intro bo4 bcap4 w4 hown4 hg4
                have hbel4 := hbel.trans (push_below hown hbs hg4)
                have hbs4 := Nat.le_trans hbs (push_size hg4)
                have hY4 := push_mark hown HY.out hg4
                have HY4 : Hid _ := hY4
                clear hY4
                rw [bc_lit L3 92 92 rfl] at hown4
                have hlen4 : (L3 ++ [92]).length = L3.length + 1 := by simp
                rw [← hlen4] at hown4 ⊢
                have hl4 : (L3 ++ [92]).length ≤ 12582913 := by omega
                clear hg4 hown hlen4
                generalize L3 ++ [92] = L4 at *
                go_wp2_with (at_builtin; refine wpList_push _ rfl _ _ 25 rfl w.heap.size 5 i0 (.int .u8 0) 1 Try.underlying25 hi hz0 hz1 hz2 rfl _ _ _ (bc L4) (.int .u8 (z.toNat : Int)) rfl rfl rfl hown4 hbs4 (by omega) (by omega) ?_)
                intro bo5 bcap5 w5 hown5 hg5
                have hbel5 := hbel4.trans (push_below hown4 hbs4 hg5)
                have hY5 := push_mark hown4 HY4.out hg5
                have HY5 : Hid _ := hY5
                rw [bc_snoc L4 z] at hown5
                have hlen5 : (L4 ++ [z]).length = L4.length + 1 := by simp
                rw [← hlen5] at hown5 ⊢
                have H5 : Hid _ := hown5
                have H5b : Hid _ := hbel5
                clear hg5 hown4 hlen5 hY5 hown5 hbel5
                go_wp2
                go_roundw
                case rel => first | exact ⟨j + 1, bo5, bcap5, by omega, by go_num, by rw [HE.out], by rw [HE.out]; exact H5.out, H5b.out, HY5.out⟩ | ((repeat apply Exists.intro); exact ⟨⟨j + 1, bo5, bcap5, by omega, by go_num, by rw [HE.out], by rw [HE.out]; exact H5.out, H5b.out, HY5.out⟩, rfl⟩)
                case measure => simp [intOf]; omega
            · have HE : Hid (L2 ++ escL ((bl s).take (j + 1)) = L3 ++ [z]) := by
                show _ = _
                rw [HS.out, escB, if_neg hz]
              have h34 : ((z.toNat : Int) == 34) = false := by
                rw [beq_eq_false_iff_ne]
                intro h
                exact hz (.inl (UInt8.toNat_inj.1 (by show z.toNat = 34; omega)))
              have h92 : ((z.toNat : Int) == 92) = false := by
                rw [beq_eq_false_iff_ne]
                intro h
                exact hz (.inr (UInt8.toNat_inj.1 (by show z.toNat = 92; omega)))
              clear hz
              go_wp2_with (at_builtin; refine wpList_push _ rfl _ _ 25 rfl w.heap.size 5 i0 (.int .u8 0) 1 Try.underlying25 hi hz0 hz1 hz2 rfl _ _ _ (bc L3) (.int .u8 (z.toNat : Int)) rfl rfl rfl hown hbs (by omega) (by omega) ?_)
              intro bo5 bcap5 w5 hown5 hg5
              have hbel5 := hbel.trans (push_below hown hbs hg5)
              have hY5 := push_mark hown HY.out hg5
              have HY5 : Hid _ := hY5
              rw [bc_snoc L3 z] at hown5
              have hlen5 : (L3 ++ [z]).length = L3.length + 1 := by simp
              rw [← hlen5] at hown5 ⊢
              have H5 : Hid _ := hown5
              have H5b : Hid _ := hbel5
              clear hg5 hown hlen5 hY5 hown5 hbel5
              go_wp2
              go_roundw
              case rel => first | exact ⟨j + 1, bo5, bcap5, by omega, by go_num, by rw [HE.out], by rw [HE.out]; exact H5.out, H5b.out, HY5.out⟩ | ((repeat apply Exists.intro); exact ⟨⟨j + 1, bo5, bcap5, by omega, by go_num, by rw [HE.out], by rw [HE.out]; exact H5.out, H5b.out, HY5.out⟩, rfl⟩)
              case measure => simp [intOf]; omega
          · obtain rfl : j = s.size := by omega
            have HE : Hid (upTo ss (k + 1) = (L2 ++ escL ((bl s).take s.size)) ++ [34]) := by
              show _ = _
              rw [HU2.out, ← bl_length, List.take_length, List.append_assoc]
            clear hel htl hY
            generalize L2 ++ escL ((bl s).take s.size) = L3 at *
            go_wp2_with (at_builtin; refine wpList_push _ rfl _ _ 25 rfl w.heap.size 5 i0 (.int .u8 0) 1 Try.underlying25 hi hz0 hz1 hz2 rfl _ _ _ (bc L3) (.int .u8 34) rfl rfl rfl hown hbs (by omega) (by omega) ?_)
            intro bo5 bcap5 w5 hown5 hg5
            have hbel5 := hbel.trans (push_below hown hbs hg5)
            rw [bc_lit L3 34 34 rfl] at hown5
            have hlen5 : (L3 ++ [34]).length = L3.length + 1 := by simp
            rw [← hlen5] at hown5 ⊢
            have H5 : Hid _ := hown5
            have H5b : Hid _ := hbel5
            clear hg5 hown hlen5 hown5 hbel5
            go_wp2
            go_roundw
            case rel => first | exact ⟨k + 1, bo5, bcap5, by omega, by go_num, by rw [HE.out], by rw [HE.out]; exact H5.out, H5b.out⟩ | ((repeat apply Exists.intro); exact ⟨⟨k + 1, bo5, bcap5, by omega, by go_num, by rw [HE.out], by rw [HE.out]; exact H5.out, H5b.out⟩, rfl⟩)
            case measure => simp [intOf]; omega
    · obtain rfl : k = ss.length := by omega
      have HE : Hid (upTo ss ss.length ++ [125] = enc (es ss)) := upTo_full ss
      have hbs := hbel.size
      generalize upTo ss ss.length = L at *
      go_wp2_with (at_builtin; refine wpList_push _ rfl _ _ 25 rfl w.heap.size 5 i0 (.int .u8 0) 1 Try.underlying25 hi hz0 hz1 hz2 rfl _ _ _ (bc L) (.int .u8 125) rfl rfl rfl hown hbs (by omega) (by omega) ?_)
      intro bo5 bcap5 w5 hown5 hg5
      have hbel5 := hbel.trans (push_below hown hbs hg5)
      rw [bc_lit L 125 125 rfl] at hown5
      have hlen5 : (L ++ [125]).length = L.length + 1 := by simp
      rw [← hlen5] at hown5 ⊢
      rw [HE.out] at hown5 ⊢
      obtain ⟨g, hsh, _, _⟩ := owns_shape hown5
      obtain ⟨hso, _, _⟩ := hsh (by simp [enc])
      subst hso
      have H5 : Hid _ := hown5
      have H5b : Hid _ := hbel5
      clear hg5 hown hlen5 hown5 hbel5
      go_wp2
      go_ret
      exact ⟨_, bcap5, rfl, H5.out, H5b.out⟩

theorem enc_nil (w : World) : Calls Try.prog 14 #[.slice none 0 0] w fun e w' => e = .returned (.slice none 0 0) ∧ w' = w := by
  have q22 : ∀ (w : World) (a : Option Addr) (n c n' c' : Nat), (binOp .eql 22 (.slice a n c) (.slice none n' c')).run Try.prog w = .ok (.bool a.isNone) w := fun w a n c n' c' => Lib.run_eql_slice_nil w 22 9 a n c n' c' Try.underlying22
  go_enter Try.func14, Try.ntmps14
  go_wp2
  go_ret
  exact ⟨rfl, rfl⟩

theorem zzenc (x : Addr) (cap : Nat) (ss : List ByteArray) (w : World) (hl : ss.length + tot ss ≤ 1048576) (hc : Cells w (some x) (ss.map Value.string)) : Calls Try.prog 8 #[.slice (some x) ss.length cap] w (P14 ss w) := by
  have HC : Hid (Calls Try.prog 14 #[.slice (some x) ss.length cap] w (P14 ss w)) := enc14 x cap ss w hl hc
  clear hc
  go_enter Try.func8, Try.ntmps8
  go_wp2_with fail
  refine HC.out.mono ?_
  rintro e w' ⟨bo, bcap, rfl, h1, h2⟩
  have H1 : Hid _ := h1
  have H2 : Hid _ := h2
  clear h1 h2 HC
  go_wp2
  go_ret
  exact ⟨bo, bcap, rfl, H1.out, H2.out⟩

theorem zzenc_nil (w : World) : Calls Try.prog 8 #[.slice none 0 0] w fun e w' => e = .returned (.slice none 0 0) ∧ w' = w := by
  go_enter Try.func8, Try.ntmps8
  go_wp2_with fail
  refine (enc_nil w).mono ?_
  rintro e w' ⟨rfl, rfl⟩
  go_wp2
  go_ret
  exact ⟨rfl, rfl⟩
end Go.Proofs.Qxb6601057a.EncW
