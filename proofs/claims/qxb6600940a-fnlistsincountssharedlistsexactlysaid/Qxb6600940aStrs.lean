/-
  Contracts of the functions on strings and slices of strings: the byte counts, the clone, the tests.
-/
import Derived.Test.Qxb6600940aRows
import Derived.Test.Qxb6600940aOpen
import Derived.Test.Qxb6600940aOrder
import Derived.Deep.QuietTactic
import Derived.BigQuiet
namespace Go.Proofs.Qxb6600940a.Strs
open Go.RowKit Order
set_option linter.unusedVariables false

theorem info9 : (Try.prog.info? 9).map (fun i => (i.zero, i.size, i.bytes)) = some (some (.string ByteArray.empty), 1, 16) := by kernel_rfl

def P30 (w : World) (e : Ending) (w' : World) : Prop := ∃ t : Int, e = .returned (.int .i64 t) ∧ w' = w ∧ 0 ≤ t ∧ t ≤ 2097152

theorem add30 (a b : Int) (w : World) (ha : 0 ≤ a) (hb : 0 ≤ b) : Calls Try.prog 30 #[.int .i64 a, .int .i64 b] w (P30 w) := by
  by_cases h1 : 1048576 < a
  · go_enter Try.func30, Try.ntmps30
    go_wp2
    go_ret
    exact ⟨_, rfl, rfl, by omega, by omega⟩
  · by_cases h2 : 1048576 < b
    · go_enter Try.func30, Try.ntmps30
      go_wp2
      go_ret
      exact ⟨_, rfl, rfl, by omega, by omega⟩
    · go_enter Try.func30, Try.ntmps30
      go_wp2
      go_ret
      exact ⟨_, rfl, rfl, by omega, by omega⟩

set_option maxHeartbeats 800000 in
theorem bytes31 (a : Option Addr) (cap : Nat) (ss : List ByteArray) (w : World) (hc : Cells w a (ss.map Value.string)) :
    Calls Try.prog 31 #[.slice a ss.length cap] w (P30 w) := by
  by_cases hl : ss.length ≤ 1048576
  · by_cases hl2 : 16 * ss.length ≤ 1048576
    · go_enter Try.func31, Try.ntmps31
      go_wp2
      go_loop [3, 4] (fun t i => ∃ (k : Nat) (T : Int), k ≤ ss.length ∧ i = .int .i64 k ∧ t = .int .i64 T ∧ 0 ≤ T ∧ T ≤ 2097152) (fun _ i => ss.length - (intOf i).toNat)
      case atStart => exact ⟨0, _, Nat.zero_le _, rfl, rfl, by omega, by omega⟩
      case round =>
        obtain ⟨k, T, hk, rfl, rfl, hT0, hT1⟩ := hrel
        by_cases hlt : k < ss.length
        · by_cases hT : T ≤ 1048576
          · obtain ⟨b, off, rfl, hbl, hcc⟩ := hc.str hlt
            have hcx := hcc k hlt
            clear hcc hc
            generalize ss.getD k ByteArray.empty = x at hcx
            go_wp2_with fail
            refine (add30 T x.size _ hT0 (by omega)).mono ?_
            rintro e w' ⟨t, rfl, rfl, h0, h1⟩
            go_wp2
            go_round
            case rel => exact ⟨k + 1, t, by omega, by go_num, rfl, h0, h1⟩
            case measure => simp [intOf]; omega
          · clear hc
            go_wp2
            go_ret
            exact ⟨_, rfl, rfl, hT0, hT1⟩
        · clear hc
          go_wp2
          go_ret
          exact ⟨_, rfl, rfl, hT0, hT1⟩
    · clear hc
      go_enter Try.func31, Try.ntmps31
      go_wp2
      go_ret
      exact ⟨_, rfl, rfl, by omega, by omega⟩
  · clear hc
    go_enter Try.func31, Try.ntmps31
    go_wp2
    go_ret
    exact ⟨_, rfl, rfl, by omega, by omega⟩

set_option maxHeartbeats 800000 in
theorem bytes12 (a b : Option Addr) (cap capb : Nat) (ss tt : List ByteArray) (s1 s2 s3 s4 : ByteArray) (w : World) (hc : Cells w a (ss.map Value.string)) (hd : Cells w b (tt.map Value.string)) :
    Calls Try.prog 12 #[.slice a ss.length cap, .string s1, .string s2, .slice b tt.length capb, .string s3, .string s4] w (P30 w) := by
  go_enter Try.func12, Try.ntmps12
  go_wp2_with fail
  refine (bytes31 a cap ss _ hc).mono ?_
  rintro e w' ⟨t1, rfl, rfl, h0, h1⟩
  go_wp2_with fail
  refine (bytes31 b capb tt _ hd).mono ?_
  rintro e w' ⟨t2, rfl, rfl, h2, h3⟩
  clear hc hd
  go_wp2_with fail
  refine (add30 t1 t2 _ h0 h2).mono ?_
  rintro e w' ⟨t3, rfl, rfl, h4, h5⟩
  go_wp2_with fail
  refine (add30 t3 s1.size _ h4 (by omega)).mono ?_
  rintro e w' ⟨t4, rfl, rfl, h6, h7⟩
  go_wp2_with fail
  refine (add30 t4 s2.size _ h6 (by omega)).mono ?_
  rintro e w' ⟨t5, rfl, rfl, h8, h9⟩
  go_wp2_with fail
  refine (add30 t5 s3.size _ h8 (by omega)).mono ?_
  rintro e w' ⟨t6, rfl, rfl, h10, h11⟩
  go_wp2_with fail
  refine (add30 t6 s4.size _ h10 (by omega)).mono ?_
  rintro e w' ⟨t7, rfl, rfl, h12, h13⟩
  go_wp2
  go_ret
  exact ⟨_, rfl, rfl, h12, h13⟩

/-- The scope has a subject, and it is the bundle's. -/
def sh (s1 s2 s3 s4 : ByteArray) : Bool := !s4.toList.isEmpty && (s1.toList == s3.toList && s2.toList == s4.toList)

theorem ret_bool {a b : Bool} (h : a = b) : Ending.returned (.bool a) = .returned (.bool b) := by rw [h]

theorem shares16 (s1 s2 s3 s4 : ByteArray) (w : World) : Calls Try.prog 16 #[.string s1, .string s2, .string s3, .string s4] w fun e w' => e = .returned (.bool (sh s1 s2 s3 s4)) ∧ w' = w := by
  cases h4 : s4.toList.isEmpty with
  | true =>
    go_enter Try.func16, Try.ntmps16
    go_wp2
    go_ret
    exact ⟨ret_bool (by simp [sh, h4]), rfl⟩
  | false =>
    cases h1 : s1.toList == s3.toList with
    | true =>
      go_enter Try.func16, Try.ntmps16
      go_wp2
      go_ret
      exact ⟨ret_bool (by rw [sh, h4, h1]; simp), rfl⟩
    | false =>
      go_enter Try.func16, Try.ntmps16
      go_wp2
      go_ret
      exact ⟨ret_bool (by rw [sh, h4, h1]; simp), rfl⟩

/-- The strings as lists of bytes. -/
def bl (ss : List ByteArray) : List (List UInt8) := ss.map ByteArray.toList
theorem bl_length (ss : List ByteArray) : (bl ss).length = ss.length := by simp [bl]
theorem bl_at (ss : List ByteArray) (k : Nat) (hk : k < ss.length) : (bl ss).getD k [] = (ss.getD k ByteArray.empty).toList := by simp [bl, List.getD, hk]

def P15 (ss : List ByteArray) (x : ByteArray) (w : World) (e : Ending) (w' : World) : Prop := e = .returned (.bool ((bl ss).contains x.toList)) ∧ w' = w

theorem has15 (a : Option Addr) (cap : Nat) (ss : List ByteArray) (x : ByteArray) (w : World) (hl : ss.length ≤ 1048576) (hc : Cells w a (ss.map Value.string)) : Calls Try.prog 15 #[.slice a ss.length cap, .string x] w (P15 ss x w) := by
  go_enter Try.func15, Try.ntmps15
  go_wp2
  go_loop [5] (fun i => ∃ (k : Nat), k ≤ ss.length ∧ i = .int .i64 k ∧ ∀ j, j < k → ¬ (bl ss).getD j [] = x.toList) (fun i => ss.length - (intOf i).toNat)
  case atStart => exact ⟨0, Nat.zero_le _, rfl, fun j hj => absurd hj (by omega)⟩
  case round =>
    obtain ⟨k, hk, rfl, hnot⟩ := hrel
    have HN : Hid (∀ j, j < k → ¬ (bl ss).getD j [] = x.toList) := hnot
    clear hnot
    by_cases hlt : k < ss.length
    · obtain ⟨b, off, rfl, hbl, hcc⟩ := hc.str hlt
      have hcx := hcc k hlt
      have HB : Hid ((bl ss).getD k [] = (ss.getD k ByteArray.empty).toList) := bl_at ss k hlt
      have HM : Hid ((bl ss).getD k [] ∈ bl ss) := by
        have : k < (bl ss).length := by rw [bl_length]; exact hlt
        show _ ∈ _
        simp [List.getD, this]
      clear hcc hc
      generalize ss.getD k ByteArray.empty = y at hcx HB
      cases hxy : y.toList == x.toList with
      | true =>
        have HX : Hid (y.toList = x.toList) := by show _ = _; simpa using hxy
        go_wp2
        go_ret
        refine ⟨ret_bool ?_, rfl⟩
        rw [← HX.out, ← HB.out]
        exact (List.contains_iff_mem.2 HM.out).symm
      | false =>
        have HX : Hid (¬ y.toList = x.toList) := by show ¬ _; simpa using hxy
        go_wp2
        go_round
        case rel =>
          refine ⟨k + 1, by omega, by go_num, fun j hj => ?_⟩
          by_cases h : j = k
          · rw [h, HB.out]; exact HX.out
          · exact HN.out j (by omega)
        case measure => simp [intOf]; omega
    · clear hc
      go_wp2
      go_ret
      refine ⟨ret_bool ?_, rfl⟩
      symm
      rw [← Bool.not_eq_true, List.contains_iff_mem]
      intro hm
      obtain ⟨i, hi, he⟩ := List.getElem_of_mem hm
      have hi2 := hi
      rw [bl_length] at hi2
      exact HN.out i (by omega) (by simpa [List.getD, hi] using he)

def P13 (ss : List ByteArray) (w : World) (e : Ending) (w' : World) : Prop := ∃ b m, e = .returned (.bool b) ∧ w' = w.drewN m ∧ (b = true → Asc (bl ss))

theorem drewN_zero (w : World) : w.drewN 0 = w := rfl
theorem drewN_add (w : World) (m n : Nat) : (w.drewN m).drewN n = w.drewN (m + n) := by
  unfold World.drewN
  simp [Nat.add_assoc]

set_option maxHeartbeats 800000 in
theorem asc13 (a : Option Addr) (cap : Nat) (ss : List ByteArray) (w : World) (hl : ss.length ≤ 1048576) (hc : Cells w a (ss.map Value.string)) : Calls Try.prog 13 #[.slice a ss.length cap] w (P13 ss w) := by
  go_enter Try.func13, Try.ntmps13
  go_wp2
  go_loopw [3] (fun i wr => ∃ (k m : Nat), i = .int .i64 ((k : Int) + 1) ∧ k ≤ ss.length ∧ wr = w.drewN m ∧ ∀ j, j < k → Op.bytesLess ((bl ss).getD j []) ((bl ss).getD (j + 1) []) = true) (fun i _ => ss.length + 1 - (intOf i).toNat)
  case atStart => exact ⟨0, 0, rfl, by omega, rfl, fun j hj => absurd hj (by omega)⟩
  case round =>
    obtain ⟨k, m, rfl, hk, rfl, hless⟩ := hrel
    have HL : Hid (∀ j, j < k → Op.bytesLess ((bl ss).getD j []) ((bl ss).getD (j + 1) []) = true) := hless
    clear hless
    by_cases hlt : k + 1 < ss.length
    · obtain ⟨b, off, rfl, hbl, hcc⟩ := hc.str hlt
      have hcx := hcc (k + 1) hlt
      have hcy := hcc k (by omega)
      have HB1 : Hid _ := bl_at ss k (by omega)
      have HB2 : Hid _ := bl_at ss (k + 1) hlt
      clear hcc hc
      generalize ss.getD k ByteArray.empty = y at *
      generalize ss.getD (k + 1) ByteArray.empty = x at *
      have hwk : IntKind.i64.wrap (k : Int) = (k : Int) := by rw [IntKind.wrap_i64]; omega
      have hb0 : (0 : Int) ≤ (k : Int) := by omega
      have hb1 : (k : Int) < (ss.length : Int) := by omega
      have hb2 : (k : Int) + 1 < (ss.length : Int) := by omega
      cases hxy : Op.bytesLess y.toList x.toList with
      | true =>
        have HX : Hid (Op.bytesLess y.toList x.toList = true) := hxy
        go_wp2
        go_quiet (fail)
        go_wp2
        go_roundw
        case rel =>
          refine ⟨k + 1, _, by go_num, by omega, rfl, fun j hj => ?_⟩
          by_cases h : j = k
          · rw [h, HB1.out, HB2.out]; exact HX.out
          · exact HL.out j (by omega)
        case measure => simp [intOf]; omega
      | false =>
        go_wp2
        go_quiet (fail)
        go_wp2
        go_ret
        exact ⟨_, _, rfl, drewN_add _ _ _, fun h => by cases h⟩
    · clear hc
      go_wp2
      go_ret
      refine ⟨_, _, rfl, rfl, fun _ => asc_of_adj _ fun i hi => HL.out i ?_⟩
      rw [bl_length] at hi
      omega

set_option maxHeartbeats 800000 in
theorem clone_some (x : Addr) (len cap : Nat) (ss : List ByteArray) (w : World) (hl : len ≤ 1048576) (hz : ss.length = len) (hc : Cells w (some x) (ss.map Value.string)) :
    Calls Try.prog 14 #[.slice (some x) len cap] w fun e w' =>
      e = .returned (.slice (some ⟨w.heap.size, 0, none⟩) len len) ∧ w'.ownsRow w.heap.size 9 1 (.slice (some ⟨w.heap.size, 0, none⟩) len len) len (ss.map Value.string) ∧ Below w.heap.size w w' := by
  obtain ⟨i0, hi, hz0, hz1, hz2⟩ := info_parts info9
  have q24 : ∀ (w : World) (a : Option Addr) (n c n' c' : Nat), (binOp .eql 24 (.slice a n c) (.slice none n' c')).run Try.prog w = .ok (.bool a.isNone) w := fun w a n c n' c' => Lib.run_eql_slice_nil w 24 9 a n c n' c' Try.underlying24
  go_enter Try.func14, Try.ntmps14
  go_wp2_with (at_make; refine wpList_make_full _ rfl _ _ 24 rfl w.heap.size 9 i0 (.string ByteArray.empty) 1 Try.underlying24 hi hz0 hz1 _ _ _ _ len rfl rfl ?_ ?_ ?_ ?_ ?_ ?_)
  case refine_1 => rfl
  case refine_2 => rfl
  case refine_3 => rw [hz2]; omega
  case refine_4 => unfold maxLen; omega
  case refine_5 => exact Nat.le_refl _
  intro w1 hown1 hgrow1
  have hbel1 : Below w.heap.size w w1 := (Below.refl _ _).grown hgrow1 (Nat.le_refl _) (fun k hk => by cases hk)
  have hpz : w1.ownsRow w.heap.size 9 1 (.slice (some ⟨w.heap.size, 0, none⟩) len len) len (fill (ss.map Value.string) (.string ByteArray.empty) len 0) := by rw [fill_zero]; exact hown1
  clear hown1 hgrow1
  go_wp2
  go_loopw [4] (fun i wr => ∃ k : Nat, k ≤ len ∧ i = .int .i64 k ∧ wr.ownsRow w.heap.size 9 1 (.slice (some ⟨w.heap.size, 0, none⟩) len len) len (fill (ss.map Value.string) (.string ByteArray.empty) len k) ∧ Below w.heap.size w wr) (fun i _ => len - (intOf i).toNat)
  case atStart => exact ⟨0, Nat.zero_le _, rfl, hpz, hbel1⟩
  case round =>
    obtain ⟨k, hk, rfl, hown, hbel⟩ := hrel
    clear hpz hbel1
    by_cases hlt : k < len
    · obtain ⟨b, off, hx, hb, hcc⟩ := hc.str (j := k) (by omega)
      simp only [Option.some.injEq] at hx
      subst hx
      have hcx : wr.cell? ⟨b, off + k, none⟩ = some (.string (ss.getD k ByteArray.empty)) := (hbel.cell (by exact hb)).trans (hcc k (by omega))
      have hcd := (hown.cellAt k (by omega)).trans (fill_at _ _ _ k hlt (by simpa using hz))
      have hfd := hown.frozenAt k
      have hst := (hown.stored k (.string (ss.getD k ByteArray.empty))).1
      rw [fill_step _ _ _ _ _ hlt (by simpa using hz) (getD_str _ _ (by omega))] at hst
      have HB : Hid (Below w.heap.size w (wr.setCell ⟨w.heap.size, k, none⟩ (.string (ss.getD k ByteArray.empty)))) := hbel.setCell (Nat.le_refl _) _
      have HS : Hid ((wr.setCell ⟨w.heap.size, k, none⟩ (.string (ss.getD k ByteArray.empty))).ownsRow w.heap.size 9 1 (.slice (some ⟨w.heap.size, 0, none⟩) len len) len (fill (ss.map Value.string) (.string ByteArray.empty) len (k + 1))) := hst
      clear hst hown hc hcc
      generalize ss.getD k ByteArray.empty = z at hcx HS HB
      go_wp2
      go_roundw
      case rel => exact ⟨k + 1, by omega, by go_num, HS.out, HB.out⟩
      case measure => simp [intOf]; omega
    · obtain rfl : k = len := by omega
      rw [fill_full _ _ _ (by simpa using hz)] at hown
      go_wp2
      go_ret
      exact ⟨rfl, hown, hbel⟩

theorem clone_nil (w : World) : Calls Try.prog 14 #[.slice none 0 0] w fun e w' => e = .returned (.slice none 0 0) ∧ w' = w := by
  have q24 : ∀ (w : World) (a : Option Addr) (n c n' c' : Nat), (binOp .eql 24 (.slice a n c) (.slice none n' c')).run Try.prog w = .ok (.bool a.isNone) w := fun w a n c n' c' => Lib.run_eql_slice_nil w 24 9 a n c n' c' Try.underlying24
  go_enter Try.func14, Try.ntmps14
  go_wp2
  go_ret
  exact ⟨rfl, rfl⟩

theorem clone_any (a : Option Addr) (len cap : Nat) (ss : List ByteArray) (w : World) (hl : len ≤ 1048576) (hz : ss.length = len) (hnil : a = none → len = 0 ∧ cap = 0) (hc : Cells w a (ss.map Value.string)) :
    Calls Try.prog 14 #[.slice a len cap] w fun e w' =>
      ∃ ao c', e = .returned (.slice ao len c') ∧ w'.ownsRow w.heap.size 9 1 (.slice ao len c') len (ss.map Value.string) ∧ Below w.heap.size w w' ∧ ao.isNone = a.isNone := by
  cases a with
  | none =>
    obtain ⟨rfl, rfl⟩ := hnil rfl
    refine (clone_nil w).mono ?_
    rintro e w' ⟨rfl, rfl⟩
    obtain rfl : ss = [] := List.eq_nil_of_length_eq_zero hz
    exact ⟨none, 0, rfl, World.ownsRow_nil _ _ _ _, Below.refl _ _, rfl⟩
  | some x =>
    refine (clone_some x len cap ss w hl hz hc).mono ?_
    rintro e w' ⟨rfl, h1, h2⟩
    exact ⟨_, _, rfl, h1, h2, rfl⟩

def P11 (w : World) (e : Ending) (w' : World) : Prop := ∃ b, e = .returned (.bool b) ∧ w' = w

set_option maxHeartbeats 4000000 in
theorem bytes11 (a b : Option Addr) (cap capb : Nat) (ss tt : List ByteArray) (s1 s2 s3 s4 : ByteArray) (w : World) (hc : Cells w a (ss.map Value.string)) (hd : Cells w b (tt.map Value.string)) :
    Calls Try.prog 11 #[.slice a ss.length cap, .string s1, .string s2, .slice b tt.length capb, .string s3, .string s4] w (P11 w) := by
  by_cases hl : ss.length ≤ 1048576
  · go_enter Try.func11, Try.ntmps11
    go_wp2
    go_loop [13, 14] (fun t i => ∃ k T : Nat, k ≤ ss.length ∧ i = .int .i64 k ∧ t = .int .i64 T ∧ T ≤ 1048576) (fun _ i => ss.length - (intOf i).toNat)
    case atStart => exact ⟨0, ss.length, Nat.zero_le _, rfl, rfl, hl⟩
    case round =>
      obtain ⟨k, T, hk, rfl, rfl, hT⟩ := hrel
      by_cases hlt : k < ss.length
      · obtain ⟨ab, off, rfl, hbl, hcc⟩ := hc.str hlt
        have hcx := hcc k hlt
        clear hcc hc hd
        generalize ss.getD k ByteArray.empty = x at *
        by_cases h1 : 1048576 < x.size
        · go_wp2
          go_ret
          exact ⟨_, rfl, rfl⟩
        · by_cases h2 : 1048576 < T + x.size
          · go_wp2
            go_ret
            exact ⟨_, rfl, rfl⟩
          · go_wp2
            go_round
            case rel => exact ⟨k + 1, T + x.size, by omega, by go_num, by go_num, by omega⟩
            case measure => simp [intOf]; omega
      · clear hc
        by_cases hr : (s1.size ≤ 1048576 ∧ T + s1.size ≤ 1048576) ∧ (s2.size ≤ 1048576 ∧ T + s1.size + s2.size ≤ 1048576) ∧ tt.length ≤ 1048576 ∧ T + s1.size + s2.size + tt.length ≤ 1048576
        · obtain ⟨⟨q1, q2⟩, ⟨q3, q4⟩, q5, q6⟩ := hr
          go_wp2
          go_loop [13, 15] (fun t i => ∃ k T : Nat, k ≤ tt.length ∧ i = .int .i64 k ∧ t = .int .i64 T ∧ T ≤ 1048576) (fun _ i => tt.length - (intOf i).toNat)
          case atStart => exact ⟨0, T + s1.size + s2.size + tt.length, Nat.zero_le _, rfl, by go_num, q6⟩
          case round =>
            obtain ⟨k2, T2, hk2, rfl, rfl, hT2⟩ := hrel
            by_cases hlt2 : k2 < tt.length
            · obtain ⟨ab, off, rfl, hbl, hcc⟩ := hd.str hlt2
              have hcx := hcc k2 hlt2
              clear hcc hd
              generalize tt.getD k2 ByteArray.empty = x at *
              by_cases h1 : 1048576 < x.size
              · go_wp2
                go_ret
                exact ⟨_, rfl, rfl⟩
              · by_cases h2 : 1048576 < T2 + x.size
                · go_wp2
                  go_ret
                  exact ⟨_, rfl, rfl⟩
                · go_wp2
                  go_round
                  case rel => exact ⟨k2 + 1, T2 + x.size, by omega, by go_num, by go_num, by omega⟩
                  case measure => simp [intOf]; omega
            · clear hd
              go_wp2
              all_goals
                go_ret
                exact ⟨_, rfl, rfl⟩
        · clear hd
          rcases (show 1048576 < s1.size ∨ (s1.size ≤ 1048576 ∧ 1048576 < T + s1.size) ∨ (T + s1.size ≤ 1048576 ∧ 1048576 < s2.size) ∨ (T + s1.size ≤ 1048576 ∧ s2.size ≤ 1048576 ∧ 1048576 < T + s1.size + s2.size) ∨ (T + s1.size + s2.size ≤ 1048576 ∧ 1048576 < tt.length) ∨ (T + s1.size + s2.size ≤ 1048576 ∧ tt.length ≤ 1048576 ∧ 1048576 < T + s1.size + s2.size + tt.length) from by omega) with h | ⟨h, h'⟩ | ⟨h, h'⟩ | ⟨h, h', h''⟩ | ⟨h, h'⟩ | ⟨h, h', h''⟩
          all_goals
            clear hr
            go_wp2
            go_ret
            exact ⟨_, rfl, rfl⟩
  · clear hc hd
    go_enter Try.func11, Try.ntmps11
    go_wp2
    go_ret
    exact ⟨_, rfl, rfl⟩
end Go.Proofs.Qxb6600940a.Strs
