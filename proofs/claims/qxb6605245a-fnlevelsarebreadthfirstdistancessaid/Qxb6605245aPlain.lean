/-
  The plain law of the breadth-first search: its invariant, each step, and what it leaves: no Go in sight.
-/
import Derived.Test.Qxb6605245aAid
namespace Go.Proofs.Qxb6605245a.Bfs
set_option linter.unusedVariables false

def lk (l : List Int) (x : Int) : Int := l.getD x.toNat 0

structure Gr where
  n : Nat
  adj : Int → List Int
  head : List Int
  room : List Int

def Gr.V (g : Gr) (x : Int) : Prop := 0 ≤ x ∧ x < g.n
def Gr.Ok (g : Gr) : Prop := ∀ u, g.V u → ∀ e ∈ g.adj u, 0 ≤ e ∧ e < g.head.length ∧ e < g.room.length ∧ g.V (lk g.head e)

def cnt (lv : List Int) : Nat := lv.countP (fun z => decide (0 ≤ z))

theorem cnt_le (lv : List Int) : cnt lv ≤ lv.length := List.countP_le_length

theorem lk_set (lv : List Int) (v x z : Int) (h0 : 0 ≤ v) (h1 : v < lv.length) (hx : 0 ≤ x) : lk (lv.set v.toNat z) x = if x = v then z else lk lv x := by
  unfold lk
  by_cases h : x = v
  · subst h
    rw [if_pos rfl]
    have : x.toNat < lv.length := by omega
    simp [List.getD, this]
  · rw [if_neg h]
    have : v.toNat ≠ x.toNat := by omega
    simp [List.getD, this]

theorem cnt_set (lv : List Int) (v z : Int) (h0 : 0 ≤ v) (h1 : v < lv.length) (hneg : lk lv v < 0) (hz : 0 ≤ z) : cnt (lv.set v.toNat z) = cnt lv + 1 := by
  have h : v.toNat < lv.length := by omega
  have hg : lv[v.toNat] < 0 := by
    have : lk lv v = lv[v.toNat] := by simp [lk, List.getD, h]
    omega
  unfold cnt
  rw [List.countP_set h]
  have h2 : ¬ (0 ≤ lv[v.toNat]) := by omega
  simp [h2, hz]

structure Base (g : Gr) (s : Int) (lv : List Int) : Prop where
  len : lv.length = g.n
  src : g.V s
  at0 : lk lv s = 0
  ne0 : ∀ v, g.V v → v ≠ s → lk lv v ≠ 0
  rng : ∀ v, g.V v → -1 ≤ lk lv v ∧ lk lv v < cnt lv
  wit : ∀ v, g.V v → v ≠ s → 0 ≤ lk lv v → ∃ u, g.V u ∧ 0 ≤ lk lv u ∧ ∃ e ∈ g.adj u, 0 < lk g.room e ∧ lk g.head e = v ∧ lk lv v = lk lv u + 1

def Done (g : Gr) (lv : List Int) (u : Int) : Prop := ∀ e ∈ g.adj u, 0 < lk g.room e → 0 ≤ lk lv (lk g.head e) ∧ lk lv (lk g.head e) ≤ lk lv u + 1

structure Inv (g : Gr) (s : Int) (lv qs : List Int) : Prop where
  base : Base g s lv
  inq : ∀ x ∈ qs, g.V x ∧ 0 ≤ lk lv x
  seen : ∀ v, g.V v → 0 ≤ lk lv v → v ∈ qs ∨ Done g lv v
  sort : qs.Pairwise (fun x y => lk lv x ≤ lk lv y)
  cap : ∀ v, g.V v → ∀ x ∈ qs.head?, lk lv v ≤ lk lv x + 1

structure Mid (g : Gr) (s : Int) (lv : List Int) (u : Int) (tl : List Int) (j : Nat) : Prop where
  inv : Inv g s lv (u :: tl)
  part : ∀ e ∈ (g.adj u).take j, 0 < lk g.room e → 0 ≤ lk lv (lk g.head e) ∧ lk lv (lk g.head e) ≤ lk lv u + 1

/-- All -1, and 0 at s. -/
def lv0 (n : Nat) (s : Int) : List Int := (List.replicate n (-1)).set s.toNat 0

theorem lk_lv0 (n : Nat) (s x : Int) (h : 0 ≤ s ∧ s < n) (hx : 0 ≤ x ∧ x < n) : lk (lv0 n s) x = if x = s then 0 else -1 := by
  unfold lv0
  rw [lk_set _ _ _ _ h.1 (by simpa using h.2) hx.1]
  have hr : lk (List.replicate n (-1)) x = -1 := by
    have : x.toNat < n := by omega
    simp [lk, List.getD, this]
  rw [hr]

theorem cnt_lv0 (n : Nat) (s : Int) (h : 0 ≤ s ∧ s < n) : cnt (lv0 n s) = 1 := by
  unfold lv0
  have hr : lk (List.replicate n (-1)) s = -1 := by
    have : s.toNat < n := by omega
    simp [lk, List.getD, this]
  rw [cnt_set _ _ _ h.1 (by simpa using h.2) (by rw [hr]; decide) (Int.le_refl 0)]
  have : cnt (List.replicate n (-1)) = 0 := by
    unfold cnt
    rw [List.countP_eq_zero]
    intro a ha
    have := List.eq_of_mem_replicate ha
    subst this
    decide
  omega

theorem Inv.start (g : Gr) (s : Int) (h : g.V s) : Inv g s (lv0 g.n s) [s] := by
  have hl : ∀ x, g.V x → lk (lv0 g.n s) x = if x = s then 0 else -1 := fun x hx => lk_lv0 g.n s x h hx
  refine ⟨⟨by simp [lv0], h, by rw [hl s h, if_pos rfl], fun v hv hne => by rw [hl v hv, if_neg hne]; decide, fun v hv => ?_, fun v hv hne h0 => ?_⟩, fun x hx => ?_, fun v hv h0 => ?_, by simp, fun v hv x hx => ?_⟩
  · rw [hl v hv, cnt_lv0 _ _ h]; split <;> decide
  · rw [hl v hv, if_neg hne] at h0; omega
  · have : x = s := by simpa using hx
    subst this
    rw [hl x h, if_pos rfl]
    exact ⟨h, Int.le_refl 0⟩
  · by_cases hvs : v = s
    · left; simp [hvs]
    · rw [hl v hv, if_neg hvs] at h0; omega
  · have : x = s := by simpa using hx.symm
    subst this
    rw [hl v hv, hl x h, if_pos rfl]
    split <;> omega

theorem Mid.start {g : Gr} {s : Int} {lv : List Int} {u : Int} {tl : List Int} (h : Inv g s lv (u :: tl)) : Mid g s lv u tl 0 := ⟨h, fun e he => by simp at he⟩

theorem take_mem {l : List Int} {j : Nat} (hj : j < l.length) {e : Int} (he : e ∈ l.take (j + 1)) : e ∈ l.take j ∨ e = l.getD j 0 := by
  rw [List.take_succ_eq_append_getElem hj] at he
  rcases List.mem_append.1 he with h | h
  · exact .inl h
  · right
    simp at h
    simp [List.getD, hj, h]
theorem getD_mem {l : List Int} {j : Nat} (hj : j < l.length) : l.getD j 0 ∈ l := by simp [List.getD, hj]

theorem Mid.skip {g : Gr} {s : Int} {lv : List Int} {u : Int} {tl : List Int} {j : Nat} (hg : g.Ok) (h : Mid g s lv u tl j) (hj : j < (g.adj u).length)
    (hn : 0 < lk g.room ((g.adj u).getD j 0) → 0 ≤ lk lv (lk g.head ((g.adj u).getD j 0))) : Mid g s lv u tl (j + 1) := by
  refine ⟨h.inv, fun e he hr => ?_⟩
  rcases take_mem hj he with h1 | h1
  · exact h.part e h1 hr
  · subst h1
    have hu := (h.inv.inq u (by simp)).1
    exact ⟨hn hr, h.inv.cap _ (hg u hu _ (getD_mem hj)).2.2.2 u (by simp)⟩

theorem Mid.push {g : Gr} {s : Int} {lv : List Int} {u : Int} {tl : List Int} {j : Nat} (hg : g.Ok) (h : Mid g s lv u tl j) (hj : j < (g.adj u).length)
    (hr : 0 < lk g.room ((g.adj u).getD j 0)) (hv : lk lv (lk g.head ((g.adj u).getD j 0)) < 0) :
    Mid g s (lv.set (lk g.head ((g.adj u).getD j 0)).toNat (lk lv u + 1)) u (tl ++ [lk g.head ((g.adj u).getD j 0)]) (j + 1) ∧
      cnt (lv.set (lk g.head ((g.adj u).getD j 0)).toNat (lk lv u + 1)) = cnt lv + 1 := by
  obtain ⟨huV, hu0⟩ := h.inv.inq u (by simp)
  have hem := getD_mem hj
  have hvV := (hg u huV _ hem).2.2.2
  generalize hE : (g.adj u).getD j 0 = e at *
  generalize hX : lk g.head e = v at *
  have hb := h.inv.base
  have hlv : v < lv.length := by rw [hb.len]; exact hvV.2
  have hcnt := cnt_set lv v (lk lv u + 1) hvV.1 hlv hv (by omega)
  have hk : ∀ x, g.V x → lk (lv.set v.toNat (lk lv u + 1)) x = if x = v then lk lv u + 1 else lk lv x := fun x hx => lk_set lv v x _ hvV.1 hlv hx.1
  have hkv : lk (lv.set v.toNat (lk lv u + 1)) v = lk lv u + 1 := by rw [hk v hvV, if_pos rfl]
  have hko : ∀ x, g.V x → 0 ≤ lk lv x → lk (lv.set v.toNat (lk lv u + 1)) x = lk lv x := fun x hx h0 => by
    rw [hk x hx, if_neg (fun he => by subst he; omega)]
  have hku := hko u huV hu0
  have hvs : v ≠ s := fun he => by subst he; have := hb.at0; omega
  have hdone : ∀ x, g.V x → 0 ≤ lk lv x → Done g lv x → Done g (lv.set v.toNat (lk lv u + 1)) x := fun x hx h0 hd e' he' hr' => by
    obtain ⟨h1, h2⟩ := hd e' he' hr'
    rw [hko _ (hg x hx e' he').2.2.2 h1, hko x hx h0]
    exact ⟨h1, h2⟩
  have hle : ∀ x, g.V x → 0 ≤ lk lv x → lk lv x ≤ lk lv u + 1 := fun x hx _ => h.inv.cap x hx u (by simp)
  refine ⟨⟨⟨⟨by rw [List.length_set]; exact hb.len, hb.src, ?_, fun x hx hne => ?_, fun x hx => ?_, fun x hx hne h0 => ?_⟩, fun x hx => ?_, fun x hx h0 => ?_, ?_, fun x hx y hy => ?_⟩, fun e' he' hr' => ?_⟩, hcnt⟩
  · rw [hko s hb.src (by rw [hb.at0]; exact Int.le_refl 0)]; exact hb.at0
  · rw [hk x hx]
    split
    · omega
    · exact hb.ne0 x hx hne
  · have h1 := hb.rng u huV
    have h2 := hb.rng x hx
    rw [hk x hx, hcnt]
    split <;> omega
  · by_cases hxv : x = v
    · subst hxv
      exact ⟨u, huV, by rw [hku]; exact hu0, e, hem, hr, hX, by rw [hkv, hku]⟩
    · rw [hk x hx, if_neg hxv] at h0 ⊢
      obtain ⟨y, hy, hy0, e', he', hr', hh, hl⟩ := hb.wit x hx hne h0
      exact ⟨y, hy, by rw [hko y hy hy0]; exact hy0, e', he', hr', hh, by rw [hko y hy hy0]; exact hl⟩
  · rw [← List.cons_append] at hx
    rcases List.mem_append.1 hx with h1 | h1
    · obtain ⟨a1, a2⟩ := h.inv.inq x h1
      exact ⟨a1, by rw [hko x a1 a2]; exact a2⟩
    · have : x = v := by simpa using h1
      subst this
      exact ⟨hvV, by rw [hkv]; omega⟩
  · by_cases hxv : x = v
    · subst hxv
      left; simp
    · rw [hk x hx, if_neg hxv] at h0
      rcases h.inv.seen x hx h0 with h1 | h1
      · left
        rw [← List.cons_append]
        exact List.mem_append.2 (.inl h1)
      · exact .inr (hdone x hx h0 h1)
  · rw [← List.cons_append, List.pairwise_append]
    refine ⟨?_, by simp, fun x hx y hy => ?_⟩
    · refine h.inv.sort.imp_of_mem fun {a b} ha hb' hab => ?_
      obtain ⟨a1, a2⟩ := h.inv.inq a ha
      obtain ⟨b1, b2⟩ := h.inv.inq b hb'
      rw [hko a a1 a2, hko b b1 b2]; exact hab
    · have : y = v := by simpa using hy
      subst this
      obtain ⟨a1, a2⟩ := h.inv.inq x hx
      rw [hko x a1 a2, hkv]
      exact hle x a1 a2
  · have : y = u := by simpa using hy.symm
    subst this
    rw [hk x hx, hku]
    split
    · omega
    · exact h.inv.cap x hx y (by simp)
  · rw [hku]
    rcases take_mem (by omega) he' with h1 | h1
    · obtain ⟨a1, a2⟩ := h.part e' h1 hr'
      rw [hko _ (hg u huV e' (List.mem_of_mem_take h1)).2.2.2 a1]
      exact ⟨a1, a2⟩
    · rw [hE] at h1
      subst h1
      rw [hX, hkv]
      exact ⟨by omega, Int.le_refl _⟩

theorem Mid.pop {g : Gr} {s : Int} {lv : List Int} {u : Int} {tl : List Int} (h : Mid g s lv u tl (g.adj u).length) : Inv g s lv tl := by
  obtain ⟨huV, hu0⟩ := h.inv.inq u (by simp)
  refine ⟨h.inv.base, fun x hx => h.inv.inq x (by simp [hx]), fun v hv h0 => ?_, (List.pairwise_cons.1 h.inv.sort).2, fun v hv x hx => ?_⟩
  · rcases h.inv.seen v hv h0 with h1 | h1
    · rcases List.mem_cons.1 h1 with h2 | h2
      · subst h2
        right
        intro e he hr
        exact h.part e (by rw [List.take_length]; exact he) hr
      · exact .inl h2
    · exact .inr h1
  · have hx2 : x ∈ tl := List.mem_of_mem_head? hx
    have h1 := h.inv.cap v hv u (by simp)
    have h2 := (List.pairwise_cons.1 h.inv.sort).1 x hx2
    omega

/-- What the search leaves. -/
structure Cert (g : Gr) (s : Int) (lv : List Int) : Prop where
  base : Base g s lv
  done : ∀ v, g.V v → 0 ≤ lk lv v → Done g lv v

theorem Inv.fin {g : Gr} {s : Int} {lv : List Int} (h : Inv g s lv []) : Cert g s lv := ⟨h.base, fun v hv h0 => (h.seen v hv h0).resolve_left (by simp)⟩
theorem Cert.lt {g : Gr} {s : Int} {lv : List Int} (h : Cert g s lv) {v : Int} (hv : g.V v) : -1 ≤ lk lv v ∧ lk lv v < g.n := by
  have h1 := h.base.rng v hv
  have h2 := cnt_le lv
  rw [h.base.len] at h2
  omega

/-- The witnesses marked so far: all edges out of the vertices before U. -/
def Wit (g : Gr) (lv : List Int) (wi : List Bool) (U : Int) : Prop :=
  ∀ u, g.V u → u < U → 0 ≤ lk lv u → ∀ e ∈ g.adj u, 0 < lk g.room e → lk lv (lk g.head e) = lk lv u + 1 → wi.getD (lk g.head e).toNat false = true
/-- .. and the first j out of U. -/
def WitJ (g : Gr) (lv : List Int) (wi : List Bool) (U : Int) (j : Nat) : Prop :=
  ∀ e ∈ (g.adj U).take j, 0 < lk g.room e → lk lv (lk g.head e) = lk lv U + 1 → wi.getD (lk g.head e).toNat false = true

theorem set_true_mono (wi : List Bool) (k i : Nat) (h : wi.getD i false = true) : (wi.set k true).getD i false = true := by
  by_cases hi : i < wi.length
  · by_cases hk : k = i
    · subst hk; simp [List.getD, hi]
    · simp only [List.getD, List.getElem?_set, if_neg hk]; exact h
  · simp [List.getD, hi] at h

theorem Wit.set {g : Gr} {lv : List Int} {wi : List Bool} {U : Int} (h : Wit g lv wi U) (k : Nat) : Wit g lv (wi.set k true) U := fun u h1 h2 h3 e h4 h5 h6 => set_true_mono _ _ _ (h u h1 h2 h3 e h4 h5 h6)
theorem WitJ.set {g : Gr} {lv : List Int} {wi : List Bool} {U : Int} {j : Nat} (h : WitJ g lv wi U j) (k : Nat) : WitJ g lv (wi.set k true) U j := fun e h4 h5 h6 => set_true_mono _ _ _ (h e h4 h5 h6)
theorem Wit.next {g : Gr} {lv : List Int} {wi : List Bool} {U : Int} (h : Wit g lv wi U) (hj : 0 ≤ lk lv U → WitJ g lv wi U (g.adj U).length) : Wit g lv wi (U + 1) := fun u h1 h2 h3 e h4 h5 h6 => by
  by_cases hu : u = U
  · subst hu
    exact hj h3 e (by rw [List.take_length]; exact h4) h5 h6
  · exact h u h1 (by omega) h3 e h4 h5 h6
theorem WitJ.skip {g : Gr} {lv : List Int} {wi : List Bool} {U : Int} {j : Nat} (h : WitJ g lv wi U j) (hj : j < (g.adj U).length) (hn : 0 < lk g.room ((g.adj U).getD j 0) → lk lv (lk g.head ((g.adj U).getD j 0)) = lk lv U + 1 → wi.getD (lk g.head ((g.adj U).getD j 0)).toNat false = true) : WitJ g lv wi U (j + 1) := fun e he h5 h6 => by
  rcases take_mem hj he with h1 | h1
  · exact h e h1 h5 h6
  · subst h1; exact hn h5 h6
theorem WitJ.zero (g : Gr) (lv : List Int) (wi : List Bool) (U : Int) : WitJ g lv wi U 0 := fun e he => by simp at he

theorem Cert.marked {g : Gr} {s : Int} {lv : List Int} (h : Cert g s lv) {wi : List Bool} (hw : Wit g lv wi g.n) {v : Int} (hv : g.V v) (hne : v ≠ s) (h0 : 0 ≤ lk lv v) : wi.getD v.toNat false = true := by
  obtain ⟨u, hu, hu0, e, he, hr, hh, hl⟩ := h.base.wit v hv hne h0
  have := hw u hu hu.2 hu0 e he hr (by rw [hh]; exact hl)
  rwa [hh] at this
end Go.Proofs.Qxb6605245a.Bfs
