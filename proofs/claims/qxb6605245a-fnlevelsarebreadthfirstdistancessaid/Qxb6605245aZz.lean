/-
  ZZLevels' contract.
-/
import Derived.Test.Qxb6605245aLev
namespace Go.Proofs.Qxb6605245a.Bfs
open Go.RowKit Strs
set_option linter.unusedVariables false

set_option maxHeartbeats 1600000 in
theorem zz8 (lb c n B : Nat) (x y z : Option Addr) (cx cy cz : Nat) (rows : List IRow) (hd rm lv : List Int) (s t : Nat) (w : World) (hG : Grid B w x rows) (hH : Lies B w y (hd.map (Value.int .i64))) (hR : Lies B w z (rm.map (Value.int .i64)))
    (hL : Lev B lb c n w lv) (hB : B ≤ lb) (hok : (gr n rows hd rm).Ok) (hs : s < n) (ht : t < n) (hnr : n ≤ rows.length) (hn : n ≤ 131072) (hhl : hd.length ≤ 131072) (hrl : rm.length ≤ 131072) (hll : ∀ r, r ∈ rows → r.ss.length ≤ 131072) :
    Calls Try.prog 8 #[.slice x rows.length cx, .slice y hd.length cy, .slice z rm.length cz, .int .i64 s, .int .i64 t, .slice (some ⟨lb, 0, none⟩) n c] w (P13 B lb c n rows hd rm s t w) := by
  have hlt := hL.lt
  have HC : Hid (∀ (ty : TypeId), Calls Try.prog 13 #[.pointer (some ⟨w.heap.size, 0, none⟩), .int .i64 s, .int .i64 t, .slice (some ⟨lb, 0, none⟩) n c] (w.alloc (.cells #[.slice x rows.length cx, .slice y hd.length cy, .slice z rm.length cz] ty)) (P13 B lb c n rows hd rm s t (w.alloc (.cells #[.slice x rows.length cx, .slice y hd.length cy, .slice z rm.length cz] ty)))) := by
    intro ty
    have hb : Below w.heap.size w (w.alloc (.cells #[.slice x rows.length cx, .slice y hd.length cy, .slice z rm.length cz] ty)) := (Below.refl _ _).alloc (Nat.le_refl _) _
    have hg := heap_alloc_new w (.cells #[.slice x rows.length cx, .slice y hd.length cy, .slice z rm.length cz] ty)
    have hb2 := hb.mono (Nat.le_trans hB (Nat.le_of_lt hlt))
    refine lev13 w.heap.size lb c n B x y z cx cy cz rows hd rm lv s t _ (hG.below hb2) (hH.below hb2) (hR.below hb2) ⟨?_, ?_, ?_⟩ (hL.below hb hlt) hB hlt (by simp) hok hs ht hnr hn hhl hrl hll
    · rw [cell_of_row _ _ _ _ _ _ hg]; rfl
    · rw [cell_of_row _ _ _ _ _ _ hg]; rfl
    · rw [cell_of_row _ _ _ _ _ _ hg]; rfl
  have HB : Hid (∀ (ty : TypeId), Below B w (w.alloc (.cells #[.slice x rows.length cx, .slice y hd.length cy, .slice z rm.length cz] ty))) := fun ty => (Below.refl _ _).alloc (by omega) _
  clear hG hH hR hL hok hll
  go_enter Try.func8, Try.ntmps8
  go_wp2_with fail
  refine (HC.out _).mono ?_
  rintro e w' ⟨lv', hcert, rfl, hlv, hbel⟩
  have HF : Hid (Cert (gr n rows hd rm) s lv') := hcert
  have HL2 : Hid (Lev B lb c n w' lv') := hlv
  have HB2 : Hid (Below B w w') := (HB.out _).trans hbel
  clear hcert hlv hbel
  go_wp2
  go_ret
  exact ⟨lv', HF.out, rfl, HL2.out, HB2.out⟩
end Go.Proofs.Qxb6605245a.Bfs
