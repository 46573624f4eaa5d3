/-
  FnListsInCountsSharedListsExactly's walk.
-/
import Derived.Test.Qxb6600940aLists
namespace Go.Proofs.Qxb6600940a.Lists
open Go.RowKit Order Strs
set_option linter.unusedVariables false

set_option maxHeartbeats 1600000 in
theorem zz17 (a b : Option Addr) (cap capb : Nat) (ss tt : List ByteArray) (s1 s2 s3 s4 : ByteArray) (w : World) (hcap : ss.length ≤ cap) (hcapb : tt.length ≤ capb)
    (hc : Cells w a (ss.map Value.string)) (hd : Cells w b (tt.map Value.string)) (hA : Asc (bl ss)) (hB : Asc (bl tt)) (hl1 : ss.length ≤ 4096) (hl2 : tt.length ≤ 4096) :
    Calls Try.prog 17 #[.slice a ss.length cap, .string s1, .string s2, .slice b tt.length capb, .string s3, .string s4] w (P32 ss tt s1 s2 s3 s4 w) := by
  have hb0 : Below w.heap.size w (w.alloc (.cells #[.string ⟨#[]⟩, .string s1, .string s2, .slice a ss.length cap, .slice none 0 0, .int .i64 0, .int .i64 0] 52)) := (Below.refl _ _).alloc (Nat.le_refl _) _
  have HC : Hid (Calls Try.prog 32 #[.pointer (some ⟨w.heap.size, 0, none⟩), .agg #[.slice b tt.length capb, .string s3, .string s4, .int .i32 0]] (w.alloc (.cells #[.string ⟨#[]⟩, .string s1, .string s2, .slice a ss.length cap, .slice none 0 0, .int .i64 0, .int .i64 0] 52))
      (P32 ss tt s1 s2 s3 s4 (w.alloc (.cells #[.string ⟨#[]⟩, .string s1, .string s2, .slice a ss.length cap, .slice none 0 0, .int .i64 0, .int .i64 0] 52)))) :=
    lists32 w.heap.size a b cap capb ss tt s1 s2 s3 s4 _ hcap hcapb (by simp) (by rw [World.cell?_alloc_at _ _ _ _ rfl]; rfl) (by rw [World.cell?_alloc_at _ _ _ _ rfl]; rfl) (by rw [World.cell?_alloc_at _ _ _ _ rfl]; rfl) (hc.below hb0) (hd.below hb0) hA hB hl1 hl2
  have HB0 : Hid _ := hb0
  clear hc hd hA hB hb0
  go_enter Try.func17, Try.ntmps17
  go_wp2_with fail
  refine HC.out.mono ?_
  rintro e w' ⟨rfl, hb⟩
  have HB : Hid _ := hb
  clear hb HC
  go_wp2
  go_ret
  exact ⟨rfl, HB0.out.trans (HB.out.mono HB0.out.size)⟩

def Goal (w : World) (e : Ending) (w' : World) : Prop := e = .returned (.bool true) ∧ Below w.heap.size w w'

theorem cnt_full (A B : List (List UInt8)) : cnt (A.take A.length) B = cnt A B := by rw [List.take_length]

set_option maxRecDepth 100000 in
set_option maxHeartbeats 4000000 in
theorem walk_in (a b : Option Addr) (cap capb : Nat) (ss tt : List ByteArray) (s1 s2 s3 s4 : ByteArray) (w : World) (hna : a = none → ss.length = 0 ∧ cap = 0) (hnb : b = none → tt.length = 0 ∧ capb = 0) (hc : Cells w a (ss.map Value.string)) (hd : Cells w b (tt.map Value.string)) :
    Calls Try.prog 6 #[.slice a ss.length cap, .string s1, .string s2, .slice b tt.length capb, .string s3, .string s4] w (Goal w) := by
  have H1 : Hid _ := hna
  have H2 : Hid _ := hnb
  have H3 : Hid (Cells w a (ss.map Value.string)) := hc
  have H4 : Hid (Cells w b (tt.map Value.string)) := hd
  clear hna hnb hc hd
  go_enter Try.func6, Try.ntmps6
  go_wp2_with fail
  refine (bytes11 a b cap capb ss tt s1 s2 s3 s4 _ H3.out H4.out).mono ?_
  rintro e w' ⟨ok, rfl, rfl⟩
  cases ok with
  | false =>
    go_wp2
    go_ret
    exact ⟨rfl, Below.refl _ _⟩
  | true =>
    go_wp2_with fail
    refine (bytes12 a b cap capb ss tt s1 s2 s3 s4 _ H3.out H4.out).mono ?_
    rintro e w' ⟨t, rfl, rfl, ht0, ht1⟩
    by_cases ht : 1048576 < t
    · go_wp2
      go_ret
      exact ⟨rfl, Below.refl _ _⟩
    by_cases hl1 : 4096 < ss.length
    · go_wp2
      go_ret
      exact ⟨rfl, Below.refl _ _⟩
    by_cases hl2 : 4096 < tt.length
    · go_wp2
      go_ret
      exact ⟨rfl, Below.refl _ _⟩
    go_wp2_with fail
    refine (asc13 a cap ss _ (by omega) H3.out).mono ?_
    rintro e w1 ⟨ok, m1, rfl, rfl, hok⟩
    cases ok with
    | false =>
      clear hok
      go_wp2
      go_ret
      exact ⟨rfl, below_drewN (Below.refl _ _) _⟩
    | true =>
      have HA : Hid (Asc (bl ss)) := hok rfl
      clear hok
      go_wp2_with fail
      refine (asc13 b capb tt _ (by omega) (H4.out.below (below_drewN (Below.refl _ _) _))).mono ?_
      rintro e w1 ⟨ok, m2, rfl, hw1, hok⟩
      have hbel : Below w'.heap.size w' w1 := by rw [hw1]; exact below_drewN (below_drewN (Below.refl _ _) _) _
      clear hw1
      cases ok with
      | false =>
        clear hok
        go_wp2
        go_ret
        exact ⟨rfl, hbel⟩
      | true =>
        have HB : Hid (Asc (bl tt)) := hok rfl
        clear hok
        go_wp2_with fail
        refine (clone_any a ss.length cap ss _ (by omega) rfl H1.out (H3.out.below hbel)).mono ?_
        rintro e w2 ⟨ao, ac, rfl, hown2, hbel2, _⟩
        have hbel02 : Below w'.heap.size w' w2 := hbel.trans (hbel2.mono hbel.size)
        go_wp2_with fail
        refine (clone_any b tt.length capb tt _ (by omega) rfl H2.out (H4.out.below hbel02)).mono ?_
        rintro e w3 ⟨bo, bc, rfl, hown3, hbel3, _⟩
        have HC2 : Hid (Cells w3 ao (ss.map Value.string)) := (owns_cells hown2).below hbel3
        have HC3 : Hid (Cells w3 bo (tt.map Value.string)) := owns_cells hown3
        obtain ⟨_, _, hac, _⟩ := owns_shape hown2
        obtain ⟨_, _, hbc, _⟩ := owns_shape hown3
        have HBel : Hid (Below w'.heap.size w' w3) := hbel02.trans (hbel3.mono hbel02.size)
        clear hown2 hown3 hbel hbel2 hbel02 hbel3 H1 H2 H3 H4
        go_wp2
        go_loop [13, 14] (fun nv iv => ∃ k : Nat, k ≤ ss.length ∧ iv = .int .i64 k ∧ nv = .int .i64 (cnt ((bl ss).take k) (bl tt) : Nat)) (fun _ iv => ss.length - (intOf iv).toNat)
        case atStart => exact ⟨0, Nat.zero_le _, rfl, rfl⟩
        case round =>
          obtain ⟨k, hk, rfl, rfl⟩ := hrel
          have hle := cnt_le ((bl ss).take k) (bl tt)
          have hle2 : ((bl ss).take k).length ≤ 4096 := by rw [List.length_take, bl_length]; omega
          by_cases hlt : k < ss.length
          · obtain ⟨xb, xo, rfl, _, hxc⟩ := HC2.out.str hlt
            have hx := hxc k hlt
            have HT : Hid (cnt ((bl ss).take (k + 1)) (bl tt) = cnt ((bl ss).take k) (bl tt) + (if (bl tt).contains ((ss.getD k ByteArray.empty).toList) = true then 1 else 0)) := by
              have h := cnt_take (bl ss) (bl tt) k (by rw [bl_length]; exact hlt)
              rw [bl_at ss k hlt] at h
              exact h
            clear hxc
            generalize ss.getD k ByteArray.empty = x at *
            generalize cnt ((bl ss).take k) (bl tt) = N at *
            go_wp2_with fail
            refine (has15 bo bc tt x _ (by omega) HC3.out).mono ?_
            rintro e w4 ⟨rfl, rfl⟩
            cases hh : (bl tt).contains x.toList with
            | true =>
              rw [hh] at HT
              clear hh
              go_wp2
              go_round
              case rel => exact ⟨k + 1, by omega, by go_num, by rw [HT.out]; go_num⟩
              case measure => simp [intOf]; omega
            | false =>
              rw [hh] at HT
              clear hh
              go_wp2
              go_round
              case rel => exact ⟨k + 1, by omega, by go_num, by rw [HT.out]; simp⟩
              case measure => simp [intOf]; omega
          · obtain rfl : k = ss.length := by omega
            have HF : Hid (cnt ((bl ss).take ss.length) (bl tt) = cnt (bl ss) (bl tt)) := by
              have h := cnt_full (bl ss) (bl tt)
              rw [bl_length] at h
              exact h
            have HZ : Hid (Calls Try.prog 17 #[.slice ao ss.length ac, .string s1, .string s2, .slice bo tt.length bc, .string s3, .string s4] w3 (P32 ss tt s1 s2 s3 s4 w3)) := zz17 ao bo ac bc ss tt s1 s2 s3 s4 w3 hac hbc HC2.out HC3.out HA.out HB.out (by omega) (by omega)
            rw [HF.out]
            rw [HF.out] at hle
            clear HF
            go_wp2_with fail
            refine (shares16 s1 s2 s3 s4 _).mono ?_
            rintro e w4 ⟨rfl, rfl⟩
            have HTal : Hid (tally ss tt s1 s2 s3 s4 = cnt (bl ss) (bl tt) + (if sh s1 s2 s3 s4 = true then 1 else 0)) := rfl
            cases hsh : sh s1 s2 s3 s4 with
            | true =>
              rw [hsh] at HTal
              clear hsh
              go_wp2_with fail
              refine HZ.out.mono ?_
              rintro e w5 ⟨rfl, hb5⟩
              have hq : (((tally ss tt s1 s2 s3 s4 : Nat) : Int) == (cnt (bl ss) (bl tt) : Int) + 1) = true := by
                rw [beq_iff_eq, HTal.out]; simp
              generalize tally ss tt s1 s2 s3 s4 = T at *
              go_wp2
              go_ret
              exact ⟨rfl, HBel.out.trans (hb5.mono HBel.out.size)⟩
            | false =>
              rw [hsh] at HTal
              clear hsh
              go_wp2_with fail
              refine HZ.out.mono ?_
              rintro e w5 ⟨rfl, hb5⟩
              have hq : (((tally ss tt s1 s2 s3 s4 : Nat) : Int) == (cnt (bl ss) (bl tt) : Int)) = true := by
                rw [beq_iff_eq, HTal.out]; simp
              generalize tally ss tt s1 s2 s3 s4 = T at *
              go_wp2
              go_ret
              exact ⟨rfl, HBel.out.trans (hb5.mono HBel.out.size)⟩
end Go.Proofs.Qxb6600940a.Lists
