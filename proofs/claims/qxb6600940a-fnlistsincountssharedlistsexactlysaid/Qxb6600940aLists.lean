/-
  Contracts of strings.Compare (after the kit's template), of listsIn and its wrapper.
-/
import Derived.Test.Qxb6600940aStrs
import Derived.Lib.Strings
import Derived.Lib.Slices
import Derived.Lib.Walk
import Derived.Lib.Bytealg
namespace Go.Proofs.Qxb6600940a.Lists
open Go.RowKit Order Strs
set_option linter.unusedVariables false

set_option maxHeartbeats 1000000 in
set_option maxRecDepth 100000 in
theorem cmpString (a b : ByteArray) (w : World) :
    Calls Try.prog 41 #[.string a, .string b] w fun e w' => e = .returned (.int .i64 (Lib.compareBytes a.data.toList b.data.toList)) ∧ w' = w := by
  go_enter Try.func41, Try.ntmps41
  go_wp2
  rw [run_callFunc_extern Try.func42 (by kernel_rfl) (by kernel_rfl) (by kernel_rfl) (e := Extern.BytealgCompare.compare) (by kernel_rfl), Lib.run_compareString]
  simp only [Result.andThen]
  rw [Oper.upon_value]
  go_wp2
  go_ret
  exact ⟨rfl, rfl⟩

set_option maxHeartbeats 1000000 in
theorem compare40 (a b : ByteArray) (w : World) :
    Calls Try.prog 40 #[.string a, .string b] w fun e w' => e = .returned (.int .i64 (Lib.compareBytes a.data.toList b.data.toList)) ∧ w' = w := by
  go_enter Try.func40, Try.ntmps40
  go_wp2_with (go_at_call 41; refine (cmpString _ _ _).mono ?_; rintro e w' ⟨rfl, rfl⟩)
  go_ret
  exact ⟨rfl, rfl⟩

def lenOf : Value → Nat | .slice _ n _ => n | _ => 0

theorem step_gt {x y : ByteArray} {sa tb : List ByteArray} (h : Op.bytesLess y.data.toList x.data.toList = true) (hA : Asc (bl (x :: sa))) : cnt (bl (x :: sa)) (bl (y :: tb)) = cnt (bl (x :: sa)) (bl tb) := by
  rw [← ByteArray.toList_eq, ← ByteArray.toList_eq] at h
  exact cnt_gt h hA
theorem step_lt {x y : ByteArray} {sa tb : List ByteArray} (h : Op.bytesLess x.data.toList y.data.toList = true) (hB : Asc (bl (y :: tb))) : cnt (bl (x :: sa)) (bl (y :: tb)) = cnt (bl sa) (bl (y :: tb)) := by
  rw [← ByteArray.toList_eq, ← ByteArray.toList_eq] at h
  exact cnt_lt h hB
theorem step_eq {x y : ByteArray} {sa tb : List ByteArray} (h : x.data.toList = y.data.toList) (hA : Asc (bl (x :: sa))) : cnt (bl (x :: sa)) (bl (y :: tb)) = cnt (bl sa) (bl tb) + 1 := by
  rw [← ByteArray.toList_eq, ← ByteArray.toList_eq] at h
  have e : bl (y :: tb) = x.toList :: bl tb := by simp [bl, h]
  rw [e]
  exact cnt_eq hA
theorem asc_tail {x : ByteArray} {sa : List ByteArray} (h : Asc (bl (x :: sa))) : Asc (bl sa) := (List.pairwise_cons.1 h).2

/-- 's[1:]'. -/
theorem tail_cells {w : World} {b o c : Nat} {x : ByteArray} {sa : List ByteArray} (hb : b < w.heap.size) (h : ∀ j u, ((x :: sa).map Value.string)[j]? = some u → w.cell? ⟨b, o + j, none⟩ = some u) (hc : sa.length + 1 ≤ c) :
    Cells w (if c = 1 then some ⟨b, o, none⟩ else some ⟨b, o + 1, none⟩) (sa.map Value.string) := by
  by_cases h1 : c = 1
  · left
    have : sa = [] := List.eq_nil_of_length_eq_zero (by omega)
    simp [this]
  · rw [if_neg h1]
    refine .inr ⟨b, o + 1, rfl, hb, fun j u hu => ?_⟩
    have := h (j + 1) u (by simpa using hu)
    rw [show o + 1 + j = o + (j + 1) from by omega]
    exact this

theorem bl_nil_left (B : List (List UInt8)) : cnt (bl []) B = 0 := rfl
theorem bl_nil_right (A : List (List UInt8)) : cnt A (bl []) = 0 := cnt_nil_right A

/-- The same world but for draws. -/
def Drawn (w0 wr : World) : Prop := ∃ m, wr = w0.drewN m
theorem Drawn.cell {w0 wr : World} (h : Drawn w0 wr) (a : Addr) : wr.cell? a = w0.cell? a := by obtain ⟨m, rfl⟩ := h; rfl
theorem Drawn.more {w0 wr : World} (h : Drawn w0 wr) (n : Nat) : Drawn w0 (wr.drewN n) := by obtain ⟨m, rfl⟩ := h; exact ⟨m + n, drewN_add _ _ _⟩
theorem Drawn.below {w0 wr : World} (h : Drawn w0 wr) (B : Nat) : Below B w0 wr := by obtain ⟨m, rfl⟩ := h; exact below_drewN (Below.refl _ _) _

/-- What listsIn counts. -/
def tally (ss tt : List ByteArray) (s1 s2 s3 s4 : ByteArray) : Nat := cnt (bl ss) (bl tt) + (if sh s1 s2 s3 s4 = true then 1 else 0)

def P32 (ss tt : List ByteArray) (s1 s2 s3 s4 : ByteArray) (w : World) (e : Ending) (w' : World) : Prop :=
  e = .returned (.int .i64 (tally ss tt s1 s2 s3 s4 : Nat)) ∧ Below w.heap.size w w'

set_option maxHeartbeats 4000000 in
theorem lists32 (p : Nat) (a b : Option Addr) (cap capb : Nat) (ss tt : List ByteArray) (s1 s2 s3 s4 : ByteArray) (w : World) (hcap : ss.length ≤ cap) (hcapb : tt.length ≤ capb) (hp : p < w.heap.size)
    (h1 : w.cell? ⟨p, 1, none⟩ = some (.string s1)) (h2 : w.cell? ⟨p, 2, none⟩ = some (.string s2)) (h3 : w.cell? ⟨p, 3, none⟩ = some (.slice a ss.length cap))
    (hc : Cells w a (ss.map Value.string)) (hd : Cells w b (tt.map Value.string)) (hA : Asc (bl ss)) (hB : Asc (bl tt)) (hl1 : ss.length ≤ 4096) (hl2 : tt.length ≤ 4096) :
    Calls Try.prog 32 #[.pointer (some ⟨p, 0, none⟩), .agg #[.slice b tt.length capb, .string s3, .string s4, .int .i32 0]] w (P32 ss tt s1 s2 s3 s4 w) := by
  have hw1 : (w.alloc (.cells #[.slice b tt.length capb, .string s3, .string s4, .int .i32 0] 56)).cell? ⟨p, 1, none⟩ = some (.string s1) := (World.cell?_alloc_past _ _ _ (by exact hp)).trans h1
  have hw2 : (w.alloc (.cells #[.slice b tt.length capb, .string s3, .string s4, .int .i32 0] 56)).cell? ⟨p, 2, none⟩ = some (.string s2) := (World.cell?_alloc_past _ _ _ (by exact hp)).trans h2
  have hw3 : (w.alloc (.cells #[.slice b tt.length capb, .string s3, .string s4, .int .i32 0] 56)).cell? ⟨p, 3, none⟩ = some (.slice a ss.length cap) := (World.cell?_alloc_past _ _ _ (by exact hp)).trans h3
  have hb0 : Below w.heap.size w (w.alloc (.cells #[.slice b tt.length capb, .string s3, .string s4, .int .i32 0] 56)) := (Below.refl _ _).alloc (Nat.le_refl _) _
  have hc0 := hc.below hb0
  have hd0 := hd.below hb0
  have HC : Hid _ := hc0
  have HD : Hid _ := hd0
  have HA : Hid _ := hA
  have HBB : Hid _ := hB
  have HB0 : Hid _ := hb0
  clear hc hd h1 h2 h3 hA hB hc0 hd0 hb0
  go_enter Try.func32, Try.ntmps32
  go_wp2
  go_quiet (fail)
  go_wp2
  go_loopw [5, 6, 7] (fun nv av bv wr => ∃ (sa tb : List ByteArray) (n : Nat) (ta ua : Option Addr) (tc uc : Nat), nv = .int .i64 n ∧ av = .slice ta sa.length tc ∧ bv = .slice ua tb.length uc ∧ sa.length ≤ tc ∧ tb.length ≤ uc ∧
      n + cnt (bl sa) (bl tb) = cnt (bl ss) (bl tt) ∧ Asc (bl sa) ∧ Asc (bl tb) ∧ Cells (w.alloc (.cells #[.slice b tt.length capb, .string s3, .string s4, .int .i32 0] 56)) ta (sa.map Value.string) ∧ Cells (w.alloc (.cells #[.slice b tt.length capb, .string s3, .string s4, .int .i32 0] 56)) ua (tb.map Value.string) ∧
      Drawn (w.alloc (.cells #[.slice b tt.length capb, .string s3, .string s4, .int .i32 0] 56)) wr) (fun _ av bv _ => lenOf av + lenOf bv)
  case atStart => exact ⟨ss, tt, 0, a, b, cap, capb, rfl, rfl, rfl, hcap, hcapb, by omega, HA.out, HBB.out, HC.out, HD.out, ⟨_, rfl⟩⟩
  case round =>
    obtain ⟨sa, tb, n, ta, ua, tc, uc, rfl, rfl, rfl, hta, hua, hcnt, hA, hB, hc, hd, hdr⟩ := hrel
    have hle := cnt_le (bl ss) (bl tt)
    rw [bl_length] at hle
    have hn : n ≤ 4096 := by omega
    have HCnt : Hid _ := hcnt
    have HA' : Hid (Asc (bl sa)) := hA
    have HB' : Hid (Asc (bl tb)) := hB
    clear hcnt hA hB hle
    cases sa with
    | nil =>
      have hcn : n = cnt (bl ss) (bl tt) := by have := HCnt.out; rw [bl_nil_left] at this; omega
      have HN : Hid _ := hcn
      have q1 : wr.cell? ⟨p, 1, none⟩ = some (.string s1) := (hdr.cell _).trans hw1
      have q2 : wr.cell? ⟨p, 2, none⟩ = some (.string s2) := (hdr.cell _).trans hw2
      have q3 : wr.cell? ⟨w.heap.size, 1, none⟩ = some (.string s3) := (hdr.cell _).trans (by rw [World.cell?_alloc_at _ _ _ _ rfl]; rfl)
      have q4 : wr.cell? ⟨w.heap.size, 2, none⟩ = some (.string s4) := (hdr.cell _).trans (by rw [World.cell?_alloc_at _ _ _ _ rfl]; rfl)
      clear hcn hc hd hw1 hw2 hw3
      clear HC HD HA HBB HA' HB' HCnt
      cases h4 : s4.toList.isEmpty with
      | true =>
        have HF : Hid (sh s1 s2 s3 s4 = false) := by show _ = _; simp [sh, h4]
        go_wp2
        go_quiet (fail)
        go_wp2
        go_ret
        refine ⟨?_, HB0.out.trans ((hdr.more _).below _)⟩
        rw [tally, HF.out, ← HN.out]
        rfl
      | false =>
        cases h1 : s1.toList == s3.toList with
        | false =>
          have HF : Hid (sh s1 s2 s3 s4 = false) := by show _ = _; rw [sh, h4, h1]; rfl
          go_wp2
          go_quiet (fail)
          go_wp2
          go_ret
          refine ⟨?_, HB0.out.trans ((hdr.more _).below _)⟩
          rw [tally, HF.out, ← HN.out]
          rfl
        | true =>
          cases h2 : s2.toList == s4.toList with
          | false =>
            have HF : Hid (sh s1 s2 s3 s4 = false) := by show _ = _; rw [sh, h4, h1, h2]; rfl
            go_wp2
            go_quiet (fail)
            go_wp2
            go_ret
            refine ⟨?_, HB0.out.trans ((hdr.more _).below _)⟩
            rw [tally, HF.out, ← HN.out]
            rfl
          | true =>
            have HF : Hid (sh s1 s2 s3 s4 = true) := by show _ = _; rw [sh, h4, h1, h2]; rfl
            go_wp2
            go_quiet (fail)
            go_wp2
            go_ret
            refine ⟨?_, HB0.out.trans ((hdr.more _).below _)⟩
            rw [tally, HF.out, ← HN.out]
            rfl
    | cons x sa =>
      cases tb with
      | nil =>
        simp only [List.length_cons, List.length_nil] at hta hua ⊢
        have hcn : n = cnt (bl ss) (bl tt) := by have := HCnt.out; rw [bl_nil_right] at this; omega
        have HN : Hid _ := hcn
        have q1 : wr.cell? ⟨p, 1, none⟩ = some (.string s1) := (hdr.cell _).trans hw1
        have q2 : wr.cell? ⟨p, 2, none⟩ = some (.string s2) := (hdr.cell _).trans hw2
        have q3 : wr.cell? ⟨w.heap.size, 1, none⟩ = some (.string s3) := (hdr.cell _).trans (by rw [World.cell?_alloc_at _ _ _ _ rfl]; rfl)
        have q4 : wr.cell? ⟨w.heap.size, 2, none⟩ = some (.string s4) := (hdr.cell _).trans (by rw [World.cell?_alloc_at _ _ _ _ rfl]; rfl)
        clear hcn hc hd hw1 hw2 hw3
        clear HC HD HA HBB HA' HB' HCnt
        cases h4 : s4.toList.isEmpty with
        | true =>
          have HF : Hid (sh s1 s2 s3 s4 = false) := by show _ = _; simp [sh, h4]
          go_wp2
          go_quiet (fail)
          go_wp2
          go_ret
          refine ⟨?_, HB0.out.trans ((hdr.more _).below _)⟩
          rw [tally, HF.out, ← HN.out]
          rfl
        | false =>
          cases h1 : s1.toList == s3.toList with
          | false =>
            have HF : Hid (sh s1 s2 s3 s4 = false) := by show _ = _; rw [sh, h4, h1]; rfl
            go_wp2
            go_quiet (fail)
            go_wp2
            go_ret
            refine ⟨?_, HB0.out.trans ((hdr.more _).below _)⟩
            rw [tally, HF.out, ← HN.out]
            rfl
          | true =>
            cases h2 : s2.toList == s4.toList with
            | false =>
              have HF : Hid (sh s1 s2 s3 s4 = false) := by show _ = _; rw [sh, h4, h1, h2]; rfl
              go_wp2
              go_quiet (fail)
              go_wp2
              go_ret
              refine ⟨?_, HB0.out.trans ((hdr.more _).below _)⟩
              rw [tally, HF.out, ← HN.out]
              rfl
            | true =>
              have HF : Hid (sh s1 s2 s3 s4 = true) := by show _ = _; rw [sh, h4, h1, h2]; rfl
              go_wp2
              go_quiet (fail)
              go_wp2
              go_ret
              refine ⟨?_, HB0.out.trans ((hdr.more _).below _)⟩
              rw [tally, HF.out, ← HN.out]
              rfl
      | cons y tb =>
        rcases hc with hc | ⟨xb, xo, rfl, hxb, hxc⟩
        · simp at hc
        rcases hd with hd | ⟨yb, yo, rfl, hyb, hyc⟩
        · simp at hd
        have hx0 := (hdr.cell _).trans (hxc 0 (.string x) rfl)
        have hy0 := (hdr.cell _).trans (hyc 0 (.string y) rfl)
        rw [Nat.add_zero] at hx0 hy0
        have HXC : Hid _ := hxc
        have HYC : Hid _ := hyc
        clear hxc hyc
        have hq : 0 < (Lib.compareBytes x.data.toList y.data.toList) ∨ (Lib.compareBytes x.data.toList y.data.toList) < 0 ∨ (Lib.compareBytes x.data.toList y.data.toList) = 0 := by omega
        simp only [List.length_cons] at hta hua ⊢
        have HQ : Hid _ := hq
        have HLt := cmp_lt x.data.toList y.data.toList
        have HGt := cmp_gt x.data.toList y.data.toList
        have HEq := cmp_eq x.data.toList y.data.toList
        have HC40 : Hid (∀ W, Calls Try.prog 40 #[.string x, .string y] W fun e w' => e = .returned (.int .i64 (Lib.compareBytes x.data.toList y.data.toList)) ∧ w' = W) := fun W => compare40 x y W
        have HL : Hid _ := HLt
        have HG : Hid _ := HGt
        have HE : Hid _ := HEq
        clear HLt HGt HEq hq
        generalize Lib.compareBytes x.data.toList y.data.toList = cc at *
        rcases HQ.out with hcc | hcc | hcc
        · clear HQ
          go_wp2
          go_quiet ((go_at_call 40; exact Calls.quiet_of_same (HC40.out _)))
          have hcn := HCnt.out
          rw [step_gt (HG.out.1 hcc) HA'.out] at hcn
          have HCn : Hid _ := hcn
          clear hcn hx0 hy0 HC40
          go_wp2
          go_roundw
          case rel => exact ⟨x :: sa, tb, n, _, _, tc, uc - 1, rfl, rfl, rfl, hta, by omega, HCn.out, HA'.out, asc_tail HB'.out, .inr ⟨xb, xo, rfl, hxb, HXC.out⟩, tail_cells hyb HYC.out hua, hdr.more _⟩
          case measure => simp [lenOf] <;> omega
        · clear HQ
          go_wp2
          go_quiet ((go_at_call 40; exact Calls.quiet_of_same (HC40.out _)))
          have hcn := HCnt.out
          rw [step_lt (HL.out.1 hcc) HB'.out] at hcn
          have HCn : Hid _ := hcn
          clear hcn hx0 hy0 HC40
          go_wp2
          go_roundw
          case rel => exact ⟨sa, y :: tb, n, _, _, tc - 1, uc, rfl, rfl, rfl, by omega, hua, HCn.out, asc_tail HA'.out, HB'.out, tail_cells hxb HXC.out hta, .inr ⟨yb, yo, rfl, hyb, HYC.out⟩, hdr.more _⟩
          case measure => simp [lenOf] <;> omega
        · clear HQ
          have HZ : Hid (cc = 0) := hcc
          have hn0 : (cc < 0) = False := by simp; omega
          have hcn := HCnt.out
          rw [step_eq (HE.out hcc) HA'.out] at hcn
          have HCn : Hid _ := hcn
          clear hcn hn0
          subst hcc
          go_wp2
          go_quiet ((go_at_call 40; exact Calls.quiet_of_same (HC40.out _)))
          clear hx0 hy0 HC40
          go_wp2
          go_quiet (fail)
          go_wp2
          go_roundw
          case rel => exact ⟨sa, tb, n + 1, _, _, tc - 1, uc - 1, by go_num, rfl, rfl, by omega, by omega, by have := HCn.out; omega, asc_tail HA'.out, asc_tail HB'.out, tail_cells hxb HXC.out hta, tail_cells hyb HYC.out hua, (hdr.more _).more _⟩
          case measure => simp [lenOf] <;> omega
end Go.Proofs.Qxb6600940a.Lists
