/-
  cloneOut' contract.
-/
import Derived.Test.Qxb6605245aStrs
namespace Go.Proofs.Qxb6605245a.Prod
open Go.RowKit Strs
set_option linter.unusedVariables false

theorem info23 : (Try.prog.info? 23).map (fun i => (i.zero, i.size, i.bytes)) = some (some (.slice none 0 0), 1, 24) := by kernel_rfl

/-- The new rows' headers, and zeros behind them. -/
def heads (done : List IRow) (n : Nat) : List Value := done.map IRow.val ++ List.replicate (n - done.length) (.slice none 0 0)

theorem heads_at (done : List IRow) (n : Nat) (h : done.length < n) : (heads done n)[done.length]? = some (.slice none 0 0) := by
  unfold heads
  rw [List.getElem?_append_right (by simp), List.getElem?_replicate, if_pos (by simp; omega)]

theorem heads_step (done : List IRow) (r : IRow) (n : Nat) (h : done.length < n) : (heads done n).set done.length r.val = heads (done ++ [r]) n := by
  unfold heads
  rw [List.set_append_right _ _ (by simp)]
  have h2 : List.replicate (n - done.length) (Value.slice none 0 0) = .slice none 0 0 :: List.replicate (n - (done ++ [r]).length) (.slice none 0 0) := by
    rw [← List.replicate_succ]; congr 1; simp; omega
  rw [h2]
  simp

theorem heads_full (done : List IRow) : heads done done.length = done.map IRow.val := by simp [heads]

/-- What holds of the rows copied so far. -/
def Done (H : Nat) (w : World) (done : List IRow) : Prop := ∀ r, r ∈ done → w.ownsRow H 3 1 r.val r.ss.length (r.ss.map (Value.int .i64))

def P6 (rows : List IRow) (w : World) (e : Ending) (w' : World) : Prop :=
  ∃ ao c' rows', e = .returned (.slice ao rows.length c') ∧ rows'.length = rows.length ∧ rows'.map IRow.ss = rows.map IRow.ss ∧ Grid w'.heap.size w' ao rows' ∧ (∀ r, r ∈ rows' → (r.a = none → r.ss.length = 0 ∧ r.cap = 0)) ∧ Below w.heap.size w w'

theorem take_ss (rows done : List IRow) (k : Nat) (hk : k < rows.length) (r : IRow) (hd : done.map IRow.ss = (rows.take k).map IRow.ss) (hr : r.ss = (rows.getD k IRow.zero).ss) : (done ++ [r]).map IRow.ss = (rows.take (k + 1)).map IRow.ss := by
  rw [List.take_succ_eq_append_getElem hk, List.map_append, List.map_append, hd]
  simp [hr, List.getD, hk]

set_option maxHeartbeats 1600000 in
theorem clone6 (x : Addr) (cap : Nat) (rows : List IRow) (w : World) (hl : rows.length ≤ 1048576) (hlr : ∀ r, r ∈ rows → r.ss.length ≤ 1048576) (hG : Grid w.heap.size w (some x) rows) (hnil : ∀ r, r ∈ rows → (r.a = none → r.ss.length = 0 ∧ r.cap = 0)) :
    Calls Try.prog 6 #[.slice (some x) rows.length cap] w (P6 rows w) := by
  obtain ⟨i0, hi, hz0, hz1, hz2⟩ := info_parts info23
  have q22 : ∀ (w : World) (a : Option Addr) (n c n' c' : Nat), (binOp .eql 22 (.slice a n c) (.slice none n' c')).run Try.prog w = .ok (.bool a.isNone) w := fun w a n c n' c' => Lib.run_eql_slice_nil w 22 23 a n c n' c' Try.underlying22
  have HL : Hid (∀ r, r ∈ rows → r.ss.length ≤ 1048576) := hlr
  have HN : Hid (∀ r, r ∈ rows → (r.a = none → r.ss.length = 0 ∧ r.cap = 0)) := hnil
  clear hlr hnil
  go_enter Try.func6, Try.ntmps6
  go_wp2_with (at_make; refine wpList_make_full _ rfl _ _ 22 rfl w.heap.size 23 i0 (.slice none 0 0) 1 Try.underlying22 hi hz0 hz1 _ _ _ _ rows.length rfl rfl ?_ ?_ ?_ ?_ ?_ ?_)
  case refine_1 => rfl
  case refine_2 => rfl
  case refine_3 => rw [hz2]; omega
  case refine_4 => unfold maxLen; omega
  case refine_5 => exact Nat.le_refl _
  intro w1 hown1 hgrow1
  have hbel1 : Below w.heap.size w w1 := (Below.refl _ _).grown hgrow1 (Nat.le_refl _) (fun k hk => by cases hk)
  have hpz : w1.ownsRow w.heap.size 23 1 (.slice (some ⟨w.heap.size, 0, none⟩) rows.length rows.length) rows.length (heads [] rows.length) := by
    have := fill_zero [] (.slice none 0 0) rows.length
    simp only [fill, List.take_nil, List.nil_append, Nat.sub_zero] at this
    simp only [heads, List.map_nil, List.nil_append, List.length_nil, Nat.sub_zero]
    rw [this]; exact hown1
  clear hown1 hgrow1
  go_wp2
  go_loopw [4] (fun i wr => ∃ done : List IRow, done.length ≤ rows.length ∧ i = .int .i64 done.length ∧ done.map IRow.ss = (rows.take done.length).map IRow.ss ∧ wr.ownsRow w.heap.size 23 1 (.slice (some ⟨w.heap.size, 0, none⟩) rows.length rows.length) rows.length (heads done rows.length) ∧ Done w.heap.size wr done ∧ Below w.heap.size w wr) (fun i _ => rows.length - (intOf i).toNat)
  case atStart => exact ⟨[], Nat.zero_le _, rfl, rfl, hpz, fun r hr => by (cases hr), hbel1⟩
  case round =>
    obtain ⟨done, hk, rfl, hss, hown, hdone, hbel⟩ := hrel
    clear hpz hbel1
    have HS : Hid (done.map IRow.ss = (rows.take done.length).map IRow.ss) := hss
    clear hss
    by_cases hlt : done.length < rows.length
    · obtain ⟨b, off, hx, _, hb, hrow, hLs⟩ := hG.row hlt
      simp only [Option.some.injEq] at hx
      subst hx
      have hmem : rows.getD done.length IRow.zero ∈ rows := by simp [List.getD, hlt]
      have hl2 := HL.out _ hmem
      have hn2 := HN.out _ hmem
      have hcx : wr.cell? ⟨b, off + done.length, none⟩ = some (rows.getD done.length IRow.zero).val := (hbel.cell (by exact hb)).trans (hrow done.length hlt)
      have hLs2 := (hLs.below hbel).cells
      have HR : Hid ((rows.getD done.length IRow.zero).ss = (rows.getD done.length IRow.zero).ss) := rfl
      have HT : Hid (∀ r : IRow, r.ss = (rows.getD done.length IRow.zero).ss → (done ++ [r]).map IRow.ss = (rows.take (done.length + 1)).map IRow.ss) := fun r hr => take_ss rows done _ hlt r HS.out hr
      clear hrow hG hLs hmem HR
      generalize rows.getD done.length IRow.zero = r at *
      obtain ⟨ra, rc, rs⟩ := r
      simp only [IRow.val] at hcx hLs2 hl2 hn2 HT
      go_wp2_with fail
      refine (clone_any ra rs.length rc rs _ hl2 rfl hn2 hLs2).mono ?_
      rintro e w2 ⟨ao, c', rfl, hown2, hbel2, _⟩
      have hownA := owns_below hown hbel2
      have hcd := (hownA.cellAt done.length (by omega)).trans (heads_at done rows.length hlt)
      have hfd := hownA.frozenAt done.length
      obtain ⟨hst, hgr⟩ := hownA.stored done.length (.slice ao rs.length c')
      have hstep := heads_step done ⟨ao, c', rs⟩ rows.length hlt
      simp only [IRow.val] at hstep
      rw [hstep] at hst
      have HO : Hid ((w2.setCell ⟨w.heap.size, done.length, none⟩ (.slice ao rs.length c')).ownsRow w.heap.size 23 1 (.slice (some ⟨w.heap.size, 0, none⟩) rows.length rows.length) rows.length (heads (done ++ [⟨ao, c', rs⟩]) rows.length)) := hst
      have HD : Hid (Done w.heap.size (w2.setCell ⟨w.heap.size, done.length, none⟩ (.slice ao rs.length c')) (done ++ [⟨ao, c', rs⟩])) := by
        intro r hr
        rcases List.mem_append.1 hr with hr | hr
        · exact owns_other (owns_below (hdone r hr) hbel2) hownA (by decide) hgr
        · have : r = ⟨ao, c', rs⟩ := by simpa using hr
          subst this
          exact owns_other (owns_base hown2 hbel.size) hownA (by decide) hgr
      have HB : Hid (Below w.heap.size w (w2.setCell ⟨w.heap.size, done.length, none⟩ (.slice ao rs.length c'))) := (hbel.trans (hbel2.mono hbel.size)).setCell (Nat.le_refl _) _
      clear hst hgr hstep hownA hown2 hbel2 hdone hown hLs2 hn2
      go_wp2
      go_roundw
      case rel => exact ⟨done ++ [⟨ao, c', rs⟩], by simp; omega, by simp, by rw [HT.out _ rfl]; simp, HO.out, HD.out, HB.out⟩
      case measure => simp [intOf]; omega
    · have hkk : done.length = rows.length := by omega
      go_wp2
      go_ret
      refine ⟨_, _, done, rfl, hkk, ?_, ⟨?_, fun r hr => ?_⟩, fun r hr hn => ?_, hbel⟩
      · rw [HS.out, hkk, List.take_length]
      · have := owns_cells hown
        rw [← hkk, heads_full] at this
        exact this.lies
      · exact (owns_cells (hdone r hr)).lies
      · rcases (hdone r hr).2 with ⟨hv, h0⟩ | ⟨g, c0, cur, hv, _⟩
        · simp only [IRow.val, Value.slice.injEq] at hv
          exact ⟨h0, hv.2.2⟩
        · simp only [IRow.val, Value.slice.injEq] at hv
          rw [hn] at hv
          cases hv.1

theorem clone6_nil (w : World) : Calls Try.prog 6 #[.slice none 0 0] w fun e w' => e = .returned (.slice none 0 0) ∧ w' = w := by
  have q22 : ∀ (w : World) (a : Option Addr) (n c n' c' : Nat), (binOp .eql 22 (.slice a n c) (.slice none n' c')).run Try.prog w = .ok (.bool a.isNone) w := fun w a n c n' c' => Lib.run_eql_slice_nil w 22 23 a n c n' c' Try.underlying22
  go_enter Try.func6, Try.ntmps6
  go_wp2
  go_ret
  exact ⟨rfl, rfl⟩

theorem clone6_any (a : Option Addr) (cap : Nat) (rows : List IRow) (w : World) (hl : rows.length ≤ 1048576) (hlr : ∀ r, r ∈ rows → r.ss.length ≤ 1048576) (hG : Grid w.heap.size w a rows) (hnil0 : a = none → rows.length = 0 ∧ cap = 0) (hnil : ∀ r, r ∈ rows → (r.a = none → r.ss.length = 0 ∧ r.cap = 0)) :
    Calls Try.prog 6 #[.slice a rows.length cap] w (P6 rows w) := by
  cases a with
  | some x => exact clone6 x cap rows w hl hlr hG hnil
  | none =>
    obtain ⟨h1, rfl⟩ := hnil0 rfl
    obtain rfl : rows = [] := List.eq_nil_of_length_eq_zero h1
    refine (clone6_nil w).mono ?_
    rintro e w' ⟨rfl, rfl⟩
    exact ⟨none, 0, [], rfl, rfl, rfl, ⟨.inl rfl, fun r hr => by cases hr⟩, fun r hr => by (cases hr), Below.refl _ _⟩
end Go.Proofs.Qxb6605245a.Prod
