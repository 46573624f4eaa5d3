/-
  Contracts of appendProduct's closure and of nextPoint.
-/
import Derived.Test.Qxb6600590aCloneS
import Derived.Test.Qxb6600590aRadix
import Derived.Deep.QuietTactic
import Derived.BigQuiet
namespace Go.Proofs.Qxb6600590a.Prod
open Go.RowKit Strs Radix
set_option linter.unusedVariables false

theorem Lies.heap {B : Nat} {w W : World} {a : Option Addr} {ys : List Value} (h : Lies B w a ys) (hh : W.heap = w.heap) : Lies B W a ys := by
  rcases h with h | ⟨b, off, ha, hb, hs, hc⟩
  · exact .inl h
  · exact .inr ⟨b, off, ha, hb, by rw [hh]; exact hs, fun j u hu => (World.cell?_of_block (w := w) (by rw [hh])).trans (hc j u hu)⟩
theorem Grid.heap {B : Nat} {w W : World} {a : Option Addr} {rows : List SRow} (h : Grid B w a rows) (hh : W.heap = w.heap) : Grid B W a rows := ⟨Lies.heap h.1 hh, fun r hr => Lies.heap (h.2 r hr) hh⟩

/-- The rows' lengths. -/
def lens (rows : List SRow) : List Nat := rows.map fun r => r.ss.length
theorem lens_length (rows : List SRow) : (lens rows).length = rows.length := by simp [lens]
theorem lens_at (rows : List SRow) (k : Nat) (hk : k < rows.length) : (lens rows).getD k 0 = (rows.getD k SRow.zero).ss.length := by simp [lens, List.getD, hk]

/-- A point as cells. -/
def pts (ds : List Nat) : List Value := ds.map fun (d : Nat) => Value.int .i64 d

theorem size33 (k : Nat) (X : Nat) (b : Option Addr) (capb B : Nat) (rows : List SRow) (W : World) (hk : k < rows.length) (hX : W.cell? ⟨X, 0, none⟩ = some (.slice b rows.length capb)) (hG : Grid B W b rows) :
    Calls Try.prog 33 #[.int .i64 k, .pointer (some ⟨X, 0, none⟩)] W fun e w' => e = .returned (.int .i64 ((lens rows).getD k 0 : Nat)) ∧ w' = W := by
  obtain ⟨bb, boff, rfl, _, _, hrow, _⟩ := hG.row hk
  have hcr := hrow k hk
  rw [lens_at rows k hk]
  clear hrow hG
  generalize rows.getD k SRow.zero = r at *
  obtain ⟨ra, rc, rs⟩ := r
  simp only [SRow.val] at hcr
  go_enter Try.func33, Try.ntmps33
  go_wp2
  go_ret
  exact ⟨rfl, rfl⟩

/-- The point, the axes from k on already moved. -/
def st (L ds : List Nat) (k : Nat) : List Nat := ds.take k ++ (nxt (L.drop k) (ds.drop k)).1

theorem pts_at (l : List Nat) (k : Nat) (hk : k < l.length) : (pts l)[k]? = some (.int .i64 (l.getD k 0 : Nat)) := by simp [pts, List.getD, hk]
theorem pts_set (l : List Nat) (k x : Nat) : (pts l).set k (.int .i64 x) = pts (l.set k x) := by simp [pts, List.map_set]

theorem st_get (L ds : List Nat) (k : Nat) (hk : k < ds.length) : (st L ds (k + 1)).getD k 0 = ds.getD k 0 := by
  unfold st
  rw [List.getD, List.getElem?_append_left (by simp; omega), List.getElem?_take, if_pos (by omega)]
  rfl
theorem st_len (L ds : List Nat) (hd : ds.length = L.length) (k : Nat) (hk : k ≤ ds.length) : (st L ds k).length = ds.length := by
  unfold st
  rw [List.length_append, nxt_length _ _ (by simp; omega)]
  simp
  omega
theorem st_set (L ds : List Nat) (k x : Nat) (hk : k < ds.length) : (st L ds (k + 1)).set k x = ds.take k ++ x :: (nxt (L.drop (k + 1)) (ds.drop (k + 1))).1 := by
  unfold st
  rw [List.take_succ_eq_append_getElem hk, List.append_assoc, List.set_append_right _ _ (by simp; omega)]
  have : k - (ds.take k).length = 0 := by simp; omega
  rw [this, List.singleton_append, List.set_cons_zero]
theorem st_set2 (l : List Nat) (k x y : Nat) : (l.set k x).set k y = l.set k y := by simp

def P34 (base P n : Nat) (L ds : List Nat) (w : World) (e : Ending) (w' : World) : Prop :=
  ∃ b, e = .returned (.bool b) ∧ w'.ownsRow base 3 1 (.slice (some ⟨P, 0, none⟩) n n) n (pts (nxt L ds).1) ∧ w.grownBy w' (some P)

theorem grown_trans {w w1 w2 : World} {r : Option Nat} (h1 : w.grownBy w1 r) (h2 : w1.grownBy w2 r) : w.grownBy w2 r :=
  ⟨h2.os.trans h1.os, h2.tape.trans h1.tape, h2.output.trans h1.output, Nat.le_trans h1.size h2.size, fun k hk hr => (h2.block k (Nat.lt_of_lt_of_le hk h1.size) hr).trans (h1.block k hk hr)⟩
theorem grown_drewN {w w1 : World} {r : Option Nat} (h1 : w.grownBy w1 r) (n : Nat) : w.grownBy (w1.drewN n) r := ⟨h1.os, h1.tape, h1.output, h1.size, h1.block⟩

set_option maxHeartbeats 1600000 in
theorem next34 (base P X : Nat) (b : Option Addr) (capb B : Nat) (rows : List SRow) (ds : List Nat) (w : World) (hd : ds.length = rows.length) (hdb : ∀ k, k < ds.length → ds.getD k 0 ≤ 1048576) (hn : rows.length ≤ 1048576)
    (hP : w.ownsRow base 3 1 (.slice (some ⟨P, 0, none⟩) rows.length rows.length) rows.length (pts ds)) (hX : w.ownsRow base 36 1 (.slice (some ⟨X, 0, none⟩) 1 1) 1 [.slice b rows.length capb]) (hB : B ≤ base) (hbs : base ≤ w.heap.size) (hG : Grid B w b rows) :
    Calls Try.prog 34 #[.slice (some ⟨P, 0, none⟩) rows.length rows.length, .func (.func 33) #[] #[.pointer (some ⟨X, 0, none⟩)]] w (P34 base P rows.length (lens rows) ds w) := by
  have hll := lens_length rows
  have HLL : Hid ((lens rows).length = rows.length) := hll
  have HDB : Hid (∀ k, k < ds.length → ds.getD k 0 ≤ 1048576) := hdb
  have HD : Hid (ds.length = rows.length) := hd
  clear hll hdb hd
  have HS0 : Hid (st (lens rows) ds rows.length = ds) := by
    show st (lens rows) ds rows.length = ds
    unfold st
    rw [List.drop_of_length_le (by rw [HLL.out]; omega), ← HD.out, List.take_length, List.drop_of_length_le (by omega)]
    simp [nxt]
  have HC0 : Hid ((nxt ((lens rows).drop rows.length) (ds.drop rows.length)).2 = true) := by
    show _ = true
    rw [List.drop_of_length_le (by rw [HLL.out]; omega)]
    rfl
  go_enter Try.func34, Try.ntmps34
  go_wp2
  go_loopw [5] (fun i wr => ∃ k : Nat, k ≤ rows.length ∧ i = .int .i64 ((k : Int) - 1) ∧ wr.ownsRow base 3 1 (.slice (some ⟨P, 0, none⟩) rows.length rows.length) rows.length (pts (st (lens rows) ds k)) ∧ (nxt ((lens rows).drop k) (ds.drop k)).2 = true ∧ w.grownBy wr (some P)) (fun i _ => (intOf i + 1).toNat)
  case atStart => exact ⟨rows.length, Nat.le_refl _, rfl, by rw [HS0.out]; exact hP, HC0.out, World.grownBy.refl _ _⟩
  case round =>
    obtain ⟨k, hk, rfl, hown, hcar, hgr⟩ := hrel
    have HCar : Hid ((nxt ((lens rows).drop k) (ds.drop k)).2 = true) := hcar
    clear hcar
    cases k with
    | zero =>
      have hst : st (lens rows) ds 0 = (nxt (lens rows) ds).1 := by simp [st]
      rw [hst] at hown
      clear hst
      go_wp2
      go_ret
      exact ⟨_, rfl, hown, hgr⟩
    | succ k =>
      rw [show ((k + 1 : Nat) : Int) - 1 = (k : Int) from by omega]
      have hkd : k < ds.length := by rw [HD.out]; omega
      have hdk := HDB.out k hkd
      have hsl := st_len (lens rows) ds (by rw [HD.out, HLL.out]) (k + 1) (by rw [HD.out]; omega)
      have hcell := (hown.cellAt k (by omega)).trans ((pts_at _ k (by rw [hsl]; exact hkd)).trans (by rw [st_get _ _ _ hkd]))
      have hfr := hown.frozenAt k
      clear hsl
      have hND := nxt_drop (lens rows) ds k (by rw [HLL.out]; omega) (by rw [HD.out, HLL.out])
      rw [HCar.out] at hND
      simp only [if_true] at hND
      have hset : ∀ x : Nat, (pts (st (lens rows) ds (k + 1))).set k (.int .i64 (x : Int)) = pts (ds.take k ++ x :: (nxt ((lens rows).drop (k + 1)) (ds.drop (k + 1))).1) := fun x => by rw [pts_set, st_set _ _ _ _ hkd]
      have hset1 := hset (ds.getD k 0 + 1)
      rw [show ((ds.getD k 0 + 1 : Nat) : Int) = (ds.getD k 0 : Int) + 1 from by omega] at hset1
      have hset0 := hset 0
      clear hset
      obtain ⟨ho1, hg1⟩ := hown.stored k (.int .i64 ((ds.getD k 0 : Int) + 1))
      rw [hset1] at ho1
      have hgr1 := grown_trans hgr hg1
      have hX1 := owns_other hX hP (by decide) hgr1
      have hG1 := hG.below ((Below.grow hP hbs hgr1).mono hB)
      have hXc := hX1.cellAt 0 (by omega)
      have HCall : Hid (∀ W : World, W.heap = (wr.setCell ⟨P, k, none⟩ (.int .i64 ((ds.getD k 0 : Int) + 1))).heap → Calls Try.prog 33 #[.int .i64 k, .pointer (some ⟨X, 0, none⟩)] W fun e w' => e = .returned (.int .i64 ((lens rows).getD k 0 : Nat)) ∧ w' = W) :=
        fun W hW => size33 k X b capb B rows W (by omega) ((World.cell?_of_block (w := wr.setCell ⟨P, k, none⟩ (.int .i64 ((ds.getD k 0 : Int) + 1))) (by rw [hW])).trans hXc) (Grid.heap hG1 hW)
      have HNS : Hid (∀ s, nxt ((lens rows).drop k) (ds.drop k) = (s, false) → (nxt (lens rows) ds).1 = ds.take k ++ s) := fun s h => nxt_stop (lens rows) ds (by rw [HD.out, HLL.out]) s k (by rw [HLL.out]; omega) h
      have hc1 : (wr.setCell ⟨P, k, none⟩ (.int .i64 ((ds.getD k 0 : Int) + 1))).cell? ⟨P, k, none⟩ = some (.int .i64 ((ds.getD k 0 : Int) + 1)) := World.cell?_setCell_same _ _ _ hcell
      have hf1 : (wr.setCell ⟨P, k, none⟩ (.int .i64 ((ds.getD k 0 : Int) + 1))).frozen? ⟨P, k, none⟩ = false := (World.frozen?_setCell _ _ _ _).trans hfr
      obtain ⟨ho2, hg2⟩ := ho1.stored k (.int .i64 0)
      have hset2 : (pts (ds.take k ++ (ds.getD k 0 + 1) :: (nxt ((lens rows).drop (k + 1)) (ds.drop (k + 1))).1)).set k (.int .i64 0) = pts (ds.take k ++ 0 :: (nxt ((lens rows).drop (k + 1)) (ds.drop (k + 1))).1) := by
        rw [← hset1, ← hset0]; simp
      rw [hset2] at ho2
      have HO1 : Hid _ := ho1
      have HO2 : Hid _ := ho2
      have HG1 : Hid _ := hgr1
      have HG2 : Hid _ := grown_trans hgr1 hg2
      have HND : Hid _ := hND
      clear hset1 hset0 hset2 hgr1 hg1 hg2 ho1 ho2 hX1 hG1 hXc hND hown hgr hX hP hG
      generalize (nxt ((lens rows).drop (k + 1)) (ds.drop (k + 1))).1 = s0 at *
      generalize ds.getD k 0 = d at *
      generalize (lens rows).getD k 0 = l at *
      by_cases hcmp : d + 1 < l
      · go_wp2
        go_quiet ((go_at_call 33; exact Calls.quiet_of_same (HCall.out _ (by exact rfl))))
        go_wp2
        go_ret
        refine ⟨_, rfl, ?_, grown_drewN HG1.out _⟩
        rw [HNS.out _ (by rw [HND.out, if_pos hcmp])]
        exact HO1.out
      · go_wp2
        go_quiet ((go_at_call 33; exact Calls.quiet_of_same (HCall.out _ (by exact rfl))))
        go_wp2
        go_roundw
        case rel =>
          refine ⟨k, by omega, rfl, ?_, by rw [HND.out, if_neg hcmp], ?_⟩
          · unfold st
            rw [HND.out, if_neg hcmp]
            exact HO2.out
          · have h2 := HG2.out
            exact ⟨h2.os, h2.tape, h2.output, h2.size, h2.block⟩
        case measure => simp [intOf]
end Go.Proofs.Qxb6600590a.Prod
