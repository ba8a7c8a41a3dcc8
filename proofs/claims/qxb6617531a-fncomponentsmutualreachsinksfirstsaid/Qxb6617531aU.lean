/-
  PLAIN: what Tarjan's invariant says at the end; the numbering of activities by groups. No Go in sight.
-/
import Derived.Test.Qxb6617531aTj
namespace Go.Proofs.Qxb6617531a.Tj
set_option linter.unusedVariables false

theorem group_uniq : ∀ {grs : List (List Nat)} {j k : Nat} {g g' : List Nat} {v : Nat}, grs.flatten.Nodup → grs[j]? = some g → grs[k]? = some g' → v ∈ g → v ∈ g' → j = k
  | [], j, k, g, g', v, _, h, _, _, _ => by simp at h
  | x :: xs, j, k, g, g', v, hd, hj, hk, hv, hv' => by
    rw [List.flatten_cons, List.nodup_append] at hd
    obtain ⟨_, h2, h3⟩ := hd
    match j, k with
    | 0, 0 => rfl
    | 0, k + 1 =>
      exfalso
      simp at hj hk
      subst hj
      exact h3 v hv v (List.mem_flatten.2 ⟨g', List.mem_of_getElem? hk, hv'⟩) rfl
    | j + 1, 0 =>
      exfalso
      simp at hj hk
      subst hk
      exact h3 v hv' v (List.mem_flatten.2 ⟨g, List.mem_of_getElem? hj, hv⟩) rfl
    | j + 1, k + 1 =>
      simp at hj hk
      rw [group_uniq h2 hj hk hv hv']

/-- the groups as they come out -/
structure Good (n : Nat) (deg : Nat → Nat) (E : Nat → Nat → Nat) (grs : List (List Nat)) : Prop where
  nd : grs.flatten.Nodup
  lt : ∀ v, v ∈ grs.flatten → v < n
  all : ∀ v, v < n → v ∈ grs.flatten
  gr : ∀ (k : Nat) (g : List Nat), grs[k]? = some g → g ≠ [] ∧ (∀ v, v ∈ g → ∀ v', v' ∈ g → Rch deg E v v') ∧ ∀ v, v ∈ g → ∀ i, i < deg v → ∃ (j : Nat) (g' : List Nat), j ≤ k ∧ grs[j]? = some g' ∧ E v i ∈ g'
theorem Inv.good {n : Nat} {deg : Nat → Nat} {E : Nat → Nat → Nat} {ord low nxt : Nat → Nat} {opn : Nat → Bool} {grs : List (List Nat)} {cnt : Nat} (h : Inv n deg E ord low nxt opn [] grs cnt) (hv : ∀ v, v < n → ord v ≠ 0) : Good n deg E grs where
  nd := by simpa [flat] using h.ind
  lt := fun v hv' => h.ilt v ((h.ivis v).2 (.inr hv'))
  all := fun v hvn => by
    have := (h.ivis v).1 (hv v hvn)
    simpa [flat] using this
  gr := fun k g hk => by
    obtain ⟨h1, h2, h3⟩ := h.igr k g hk
    exact ⟨h1, h2, fun v hv i hi => (h3 v hv).2 i hi⟩

section
variable {n : Nat} {deg : Nat → Nat} {E : Nat → Nat → Nat} {grs : List (List Nat)}
theorem Good.down (h : Good n deg E grs) {j k : Nat} {g g' : List Nat} {a b : Nat} (hk : grs[k]? = some g) (ha : a ∈ g) (hj : grs[j]? = some g') (hb : b ∈ g') (hr : Rch deg E a b) : j ≤ k := by
  obtain ⟨m, hm⟩ := hr
  have := Rch.closed (C := fun v => ∃ (i : Nat) (gi : List Nat), i ≤ k ∧ grs[i]? = some gi ∧ v ∈ gi) (by
    rintro v ⟨i, gi, h1, h2, h3⟩ t ht
    obtain ⟨i', g2, h4, h5, h6⟩ := (h.gr i gi h2).2.2 v h3 t ht
    exact ⟨i', g2, by omega, h5, h6⟩) hm ⟨k, g, Nat.le_refl _, hk, ha⟩
  obtain ⟨i, gi, h1, h2, h3⟩ := this
  have := group_uniq h.nd hj h2 hb h3
  omega

/-- the numbering so far: groups before gi, and of group gi the activities of cur -/
def Asg (n : Nat) (grs : List (List Nat)) (gi : Nat) (cur : List Nat) (G : Nat → Int) : Prop :=
  ∀ v, v < n → (G v = -1 ∧ (∀ (k : Nat) (g : List Nat), k < gi → grs[k]? = some g → v ∉ g) ∧ v ∉ cur) ∨ (∃ (k : Nat) (g : List Nat), k < gi ∧ grs[k]? = some g ∧ v ∈ g ∧ G v = k) ∨ (v ∈ cur ∧ G v = gi)
theorem Asg.start (n : Nat) (grs : List (List Nat)) : Asg n grs 0 [] (fun _ => -1) := fun v _ => .inl ⟨rfl, fun k g hk => absurd hk (Nat.not_lt_zero k), by simp⟩
theorem Asg.fresh (h : Good n deg E grs) {gi j : Nat} {g : List Nat} {G : Nat → Int} (hA : Asg n grs gi (g.take j) G) (hg : grs[gi]? = some g) (hj : j < g.length) (hv : g.getD j 0 < n) : G (g.getD j 0) = -1 := by
  have hmem : g.getD j 0 ∈ g := by rw [List.getD_eq_getElem?_getD, List.getElem?_eq_getElem hj, Option.getD_some]; exact List.getElem_mem _
  rcases hA _ hv with h1 | ⟨k, g', hk, hg', hv', _⟩ | ⟨h1, _⟩
  · exact h1.1
  · have := group_uniq h.nd hg hg' hmem hv'
    omega
  · exfalso
    have hnd : g.Nodup := by
      have : g.Sublist grs.flatten := List.sublist_flatten_of_mem (List.mem_of_getElem? hg)
      exact h.nd.sublist this
    obtain ⟨i, hi⟩ := List.mem_iff_getElem?.1 h1
    rw [List.getElem?_take] at hi
    by_cases hij : i < j
    · rw [if_pos hij] at hi
      have hil : i < g.length := by omega
      have e1 : g[i] = g[j] := by
        have h2 : g.getD j 0 = g[j] := by rw [List.getD_eq_getElem?_getD, List.getElem?_eq_getElem hj]; rfl
        rw [h2, List.getElem?_eq_getElem hil] at hi
        exact Option.some.inj hi
      have := (List.getElem_inj hnd).1 e1
      omega
    · rw [if_neg hij] at hi; cases hi
theorem Asg.step {gi j : Nat} {g : List Nat} {G : Nat → Int} (hA : Asg n grs gi (g.take j) G) (hj : j < g.length) (hG : G (g.getD j 0) = -1) : Asg n grs gi (g.take (j + 1)) (upd G (g.getD j 0) gi) := by
  have e : g.take (j + 1) = g.take j ++ [g.getD j 0] := by
    rw [List.take_succ_eq_append_getElem hj, List.getD_eq_getElem?_getD, List.getElem?_eq_getElem hj]; rfl
  intro v hv
  rw [e]
  by_cases ev : v = g.getD j 0
  · subst ev
    right; right
    exact ⟨by simp, upd_same _ _ _⟩
  · rw [upd_ne _ _ ev]
    rcases hA v hv with ⟨h1, h2, h3⟩ | h1 | ⟨h1, h2⟩
    · left; exact ⟨h1, h2, by simp only [List.mem_append, List.mem_singleton, not_or]; exact ⟨h3, ev⟩⟩
    · right; left; exact h1
    · right; right; exact ⟨List.mem_append.2 (.inl h1), h2⟩
theorem Asg.next {gi : Nat} {g : List Nat} {G : Nat → Int} (hA : Asg n grs gi g G) (hg : grs[gi]? = some g) : Asg n grs (gi + 1) [] G := by
  intro v hv
  rcases hA v hv with ⟨h1, h2, h3⟩ | ⟨k, g', h1, h2, h3, h4⟩ | ⟨h1, h2⟩
  · left
    refine ⟨h1, fun k g' hk hg' hv' => ?_, by simp⟩
    by_cases e : k = gi
    · subst e; rw [hg] at hg'; cases hg'; exact h3 hv'
    · exact h2 k g' (by omega) hg' hv'
  · right; left; exact ⟨k, g', by omega, h2, h3, h4⟩
  · right; left; exact ⟨gi, g, by omega, hg, h1, h2⟩
/-- each activity has its group's number -/
def Num (n : Nat) (grs : List (List Nat)) (G : Nat → Int) : Prop := ∀ v, v < n → ∃ (k : Nat) (g : List Nat), grs[k]? = some g ∧ v ∈ g ∧ G v = k
theorem Asg.num (h : Good n deg E grs) {G : Nat → Int} {gi : Nat} (hA : Asg n grs gi [] G) (hgi : grs.length ≤ gi) : Num n grs G := by
  intro v hv
  rcases hA v hv with ⟨h1, h2, h3⟩ | ⟨k, g', h1, h2, h3, h4⟩ | ⟨h1, _⟩
  · exfalso
    obtain ⟨g, hg, hvg⟩ := List.mem_flatten.1 (h.all v hv)
    obtain ⟨k, hk⟩ := List.mem_iff_getElem?.1 hg
    have := (List.getElem?_eq_some_iff.1 hk).1
    exact h2 k g (by omega) hk hvg
  · exact ⟨k, g', h2, h3, h4⟩
  · simp at h1
theorem Num.both (h : Good n deg E grs) {G : Nat → Int} (hN : Num n grs G) {a b : Nat} (ha : a < n) (hb : b < n) : G a = G b ↔ (Rch deg E a b ∧ Rch deg E b a) := by
  obtain ⟨k, g, h1, h2, h3⟩ := hN a ha
  obtain ⟨j, g', h4, h5, h6⟩ := hN b hb
  rw [h3, h6]
  constructor
  · intro e
    have e : k = j := by omega
    subst e
    rw [h1] at h4
    cases h4
    exact ⟨(h.gr k g h1).2.1 a h2 b h5, (h.gr k g h1).2.1 b h5 a h2⟩
  · rintro ⟨r1, r2⟩
    have := h.down h1 h2 h4 h5 r1
    have := h.down h4 h5 h1 h2 r2
    omega
theorem Num.edge (h : Good n deg E grs) {G : Nat → Int} (hN : Num n grs G) {a i : Nat} (ha : a < n) (hi : i < deg a) (hb : E a i < n) : G (E a i) ≤ G a := by
  obtain ⟨k, g, h1, h2, h3⟩ := hN a ha
  obtain ⟨j, g', h4, h5, h6⟩ := hN _ hb
  rw [h3, h6]
  have := h.down h1 h2 h4 h5 (Rch.one hi)
  omega
theorem Num.nonneg {G : Nat → Int} (hN : Num n grs G) {a : Nat} (ha : a < n) : 0 ≤ G a := by
  obtain ⟨k, g, h1, h2, h3⟩ := hN a ha
  omega
theorem Good.none (h : Good 0 deg E grs) : grs = [] := by
  cases grs with
  | nil => rfl
  | cons g gs =>
    exfalso
    have hne := (h.gr 0 g rfl).1
    cases g with
    | nil => exact hne rfl
    | cons v g => exact absurd (h.lt v (by simp)) (Nat.not_lt_zero v)
end
end Go.Proofs.Qxb6617531a.Tj
