/-
  FnEncodeArrayDecodesBackExactly's walk.
-/
import Derived.Test.Qxb6601057aDecW
import Derived.Deep.QuietTactic
import Derived.BigQuiet
namespace Go.Proofs.Qxb6601057a.DecW
open Go.RowKit Strs Push Enc EncW
set_option linter.unusedVariables false

def Goal (w : World) (e : Ending) (w' : World) : Prop := e = .returned (.bool true) ∧ Below w.heap.size w w'

set_option maxRecDepth 100000 in
set_option maxHeartbeats 4000000 in
theorem walk_in (a : Option Addr) (cap : Nat) (ss : List ByteArray) (w : World) (hna : a = none → ss.length = 0 ∧ cap = 0) (hc : Cells w a (ss.map Value.string)) :
    Calls Try.prog 3 #[.slice a ss.length cap] w (Goal w) := by
  have q22 : ∀ (w : World) (a : Option Addr) (n c n' c' : Nat), (binOp .eql 22 (.slice a n c) (.slice none n' c')).run Try.prog w = .ok (.bool a.isNone) w := fun w a n c n' c' => Lib.run_eql_slice_nil w 22 9 a n c n' c' Try.underlying22
  have q25 : ∀ (w : World) (a : Option Addr) (n c n' c' : Nat), (binOp .eql 25 (.slice a n c) (.slice none n' c')).run Try.prog w = .ok (.bool a.isNone) w := fun w a n c n' c' => Lib.run_eql_slice_nil w 25 5 a n c n' c' Try.underlying25
  have H1 : Hid (a = none → ss.length = 0 ∧ cap = 0) := hna
  have H2 : Hid (Cells w a (ss.map Value.string)) := hc
  clear hna hc
  go_enter Try.func3, Try.ntmps3
  go_wp2_with fail
  refine (bytes5 a cap ss _ H2.out).mono ?_
  rintro e w' ⟨ok, rfl, rfl, hok⟩
  cases ok with
  | false =>
    clear hok
    go_wp2
    go_ret
    exact ⟨rfl, Below.refl _ _⟩
  | true =>
    have hl := hok rfl
    clear hok
    by_cases hl2 : 65536 < ss.length
    · go_wp2
      go_ret
      exact ⟨rfl, Below.refl _ _⟩
    go_wp2_with fail
    refine (fit6 a cap ss _ H2.out hl).mono ?_
    rintro e w' ⟨ok, rfl, rfl, hok⟩
    cases ok with
    | false =>
      clear hok
      go_wp2
      go_ret
      exact ⟨rfl, Below.refl _ _⟩
    | true =>
      clear hok
      go_wp2_with fail
      refine (clone_any a ss.length cap ss _ (by omega) rfl H1.out H2.out).mono ?_
      rintro e w1 ⟨ao, ac, rfl, hown1, hbel1, hni⟩
      clear hni
      cases ao with
      | none =>
        rcases hown1.2 with ⟨hv, hn⟩ | ⟨g, cp, cur, hv, _⟩
        · simp only [Value.slice.injEq] at hv
          obtain ⟨_, h0, rfl⟩ := hv
          rw [h0]
          go_wp2_with fail
          refine (zzenc_nil _).mono ?_
          rintro e w2 ⟨rfl, rfl⟩
          clear hown1 H1 H2
          go_wp2
          go_ret
          exact ⟨rfl, hbel1⟩
        · simp at hv
      | some x =>
        have HC1 : Hid (Cells w1 (some x) (ss.map Value.string)) := owns_cells hown1
        clear hown1 H1 H2
        go_wp2_with fail
        refine (zzenc x ac ss w1 hl HC1.out).mono ?_
        rintro e w2 ⟨bo, bcap, rfl, hown2, hbel2⟩
        obtain ⟨g, hsh, hle, hcells⟩ := owns_shape hown2
        obtain ⟨hbo, hbg, hgl⟩ := hsh (by simp [enc])
        simp only [Option.some.injEq] at hbo
        subst hbo
        have HD : Hid (Calls Try.prog 9 #[.slice (some ⟨g, 0, none⟩) (enc (es ss)).length bcap] w2 (P9 ss w2)) := dec9 g bcap ss w2 hl hgl hle (fun i hi => hcells i _ (bc_at _ i hi))
        have HC2 : Hid (Cells w2 (some x) (ss.map Value.string)) := HC1.out.below hbel2
        have HB2 : Hid (Below w'.heap.size w' w2) := hbel1.trans (hbel2.mono hbel1.size)
        clear hown2 hcells hsh hbel1 hbel2 HC1
        generalize (enc (es ss)).length = N at *
        go_wp2_with fail
        refine HD.out.mono ?_
        rintro e w3 ⟨oo, oc, rfl, hown3, hbel3⟩
        have HC3 : Hid (Cells w3 (some x) (ss.map Value.string)) := HC2.out.below hbel3
        have HO3 : Hid (Cells w3 oo (ss.map Value.string)) := owns_cells hown3
        have HB3 : Hid (Below w'.heap.size w' w3) := HB2.out.trans (hbel3.mono HB2.out.size)
        clear hown3 hbel3 HD HC2 HB2
        go_wp2
        go_loopw [6] (fun iv wr => ∃ k : Nat, k ≤ ss.length ∧ iv = .int .i64 k ∧ Below w3.heap.size w3 wr) (fun iv _ => ss.length - (intOf iv).toNat)
        case atStart => exact ⟨0, Nat.zero_le _, rfl, Below.refl _ _⟩
        case round =>
          obtain ⟨k, hk, rfl, hbr⟩ := hrel
          by_cases hlt : k < ss.length
          · obtain ⟨xb, xo, hx, _, hxc⟩ := (HC3.out.below hbr).str hlt
            obtain ⟨yb, yo, rfl, _, hyc⟩ := (HO3.out.below hbr).str hlt
            simp only [Option.some.injEq] at hx
            subst hx
            have hx1 := hxc k hlt
            have hy1 := hyc k hlt
            clear hxc hyc
            generalize ss.getD k ByteArray.empty = s at *
            go_wp2
            go_quiet (fail)
            go_wp2
            go_roundw
            case rel => exact ⟨k + 1, by omega, by go_num, below_drewN hbr _⟩
            case measure => simp [intOf]; omega
          · go_wp2
            go_ret
            exact ⟨rfl, HB3.out.trans (hbr.mono HB3.out.size)⟩
end Go.Proofs.Qxb6601057a.DecW
