/-
  PLAIN: strongly connected components by Tarjan's walk on a stack of its own. No Go in sight.
-/
namespace Go.Proofs.Qxb6617531a.Tj
set_option linter.unusedVariables false

/-- m steps lead from a to b -/
def walks (deg : Nat → Nat) (E : Nat → Nat → Nat) : Nat → Nat → Nat → Prop
  | 0, a, b => a = b
  | m + 1, a, b => ∃ i, i < deg a ∧ walks deg E m (E a i) b
/-- b is reached from a -/
def Rch (deg : Nat → Nat) (E : Nat → Nat → Nat) (a b : Nat) : Prop := ∃ m, walks deg E m a b

section
variable {deg : Nat → Nat} {E : Nat → Nat → Nat}
theorem Rch.refl (a : Nat) : Rch deg E a a := ⟨0, rfl⟩
theorem Rch.one {a i : Nat} (h : i < deg a) : Rch deg E a (E a i) := ⟨1, i, h, rfl⟩
theorem walks_trans {c : Nat} : ∀ {m a b k : Nat}, walks deg E m a b → walks deg E k b c → walks deg E (m + k) a c
  | 0, a, b, k, h, h' => by simp only [walks] at h; subst h; simpa using h'
  | m + 1, a, b, k, ⟨i, hi, h⟩, h' => by
    have : m + 1 + k = (m + k) + 1 := by omega
    rw [this]
    exact ⟨i, hi, walks_trans h h'⟩
theorem Rch.trans {a b c : Nat} (h : Rch deg E a b) (h' : Rch deg E b c) : Rch deg E a c := by
  obtain ⟨m, hm⟩ := h
  obtain ⟨k, hk⟩ := h'
  exact ⟨m + k, walks_trans hm hk⟩
/-- what is closed under steps and holds a holds all that is reached from a -/
theorem Rch.closed {C : Nat → Prop} (hC : ∀ v, C v → ∀ i, i < deg v → C (E v i)) : ∀ {m a b : Nat}, walks deg E m a b → C a → C b
  | 0, a, b, h, ha => by simp only [walks] at h; subst h; exact ha
  | m + 1, a, b, ⟨i, hi, h⟩, ha => Rch.closed hC h (hC a ha i hi)
end

/-- the reached activities: a way's activity, and behind it those that were reached through it and are done -/
def flat (segs : List (Nat × List Nat)) : List Nat := segs.flatMap fun p => p.1 :: p.2
theorem flat_append (xs ys : List (Nat × List Nat)) : flat (xs ++ ys) = flat xs ++ flat ys := by simp [flat, List.flatMap_append]
theorem flat_one (a : Nat) (T : List Nat) : flat [(a, T)] = a :: T := by simp [flat]
theorem flat_two (u a : Nat) (T' T : List Nat) : flat [(u, T'), (a, T)] = flat [(u, T' ++ a :: T)] := by simp [flat]

def upd {α : Type} (f : Nat → α) (a : Nat) (x : α) : Nat → α := fun v => if v = a then x else f v
theorem upd_same {α : Type} (f : Nat → α) (a : Nat) (x : α) : upd f a x a = x := by simp [upd]
theorem upd_ne {α : Type} (f : Nat → α) {a v : Nat} (x : α) (h : v ≠ a) : upd f a x v = f v := by simp [upd, h]

structure Inv (n : Nat) (deg : Nat → Nat) (E : Nat → Nat → Nat) (ord low nxt : Nat → Nat) (opn : Nat → Bool) (segs : List (Nat × List Nat)) (grs : List (List Nat)) (cnt : Nat) : Prop where
  iopn : ∀ v, opn v = true ↔ v ∈ flat segs
  ivis : ∀ v, ord v ≠ 0 ↔ (v ∈ flat segs ∨ v ∈ grs.flatten)
  ind : (flat segs ++ grs.flatten).Nodup
  ilt : ∀ v, ord v ≠ 0 → v < n
  icnt : ∀ v, ord v ≤ cnt
  inum : cnt = (flat segs ++ grs.flatten).length
  isort : (flat segs).Pairwise fun u v => ord u < ord v
  inle : ∀ v, nxt v ≤ deg v
  inz : ∀ v, ord v = 0 → nxt v = 0
  iedge : ∀ v i, i < nxt v → ord (E v i) ≠ 0
  ilowe : ∀ v, v ∈ flat segs → ∀ i, i < nxt v → E v i ∈ flat segs → low v ≤ ord (E v i)
  ilowr : ∀ v, v ∈ flat segs → low v ≤ ord v ∧ ∃ u, u ∈ flat segs ∧ ord u = low v ∧ Rch deg E v u
  idone : ∀ p, p ∈ segs → ∀ v, v ∈ p.2 → low p.1 ≤ low v ∧ low v < ord v ∧ nxt v = deg v ∧ Rch deg E p.1 v
  ichain : segs.Pairwise fun p q => Rch deg E p.1 q.1
  igr : ∀ (k : Nat) (g : List Nat), grs[k]? = some g → g ≠ [] ∧ (∀ v, v ∈ g → ∀ v', v' ∈ g → Rch deg E v v') ∧ ∀ v, v ∈ g → nxt v = deg v ∧ ∀ i, i < deg v → ∃ (j : Nat) (g' : List Nat), j ≤ k ∧ grs[j]? = some g' ∧ E v i ∈ g'

/-- no number twice, all below n: at most n -/
theorem length_le_of_nodup : ∀ (n : Nat) (l : List Nat), l.Nodup → (∀ x, x ∈ l → x < n) → l.length ≤ n
  | 0, l, _, h => by
    cases l with
    | nil => simp
    | cons a l => exact absurd (h a (by simp)) (by omega)
  | n + 1, l, hd, h => by
    have h1 : (l.filter fun x => !decide (x = n)).length ≤ n := by
      refine length_le_of_nodup n _ (hd.sublist List.filter_sublist) fun x hx => ?_
      rw [List.mem_filter] at hx
      have := h x hx.1
      have h2 : x ≠ n := by simpa using hx.2
      omega
    have h2 : l.length ≤ (l.filter fun x => !decide (x = n)).length + 1 := by
      clear h1 h
      induction l with
      | nil => simp
      | cons a l ih =>
        rw [List.nodup_cons] at hd
        by_cases e : a = n
        · subst e
          have : (l.filter fun x => !decide (x = a)) = l := by
            rw [List.filter_eq_self]
            intro x hx
            have : x ≠ a := by rintro rfl; exact hd.1 hx
            simpa using this
          simp [this]
        · have := ih hd.2
          simp [e]
          omega
    omega

section
variable {n : Nat} {deg : Nat → Nat} {E : Nat → Nat → Nat} {ord low nxt : Nat → Nat} {opn : Nat → Bool} {segs : List (Nat × List Nat)} {grs : List (List Nat)} {cnt : Nat}

theorem Inv.empty (n : Nat) (deg : Nat → Nat) (E : Nat → Nat → Nat) : Inv n deg E (fun _ => 0) (fun _ => 0) (fun _ => 0) (fun _ => false) [] [] 0 where
  iopn := by simp [flat]
  ivis := by simp [flat]
  ind := by simp [flat]
  ilt := by simp
  icnt := by simp
  inum := by simp [flat]
  isort := by simp [flat]
  inle := by simp
  inz := by simp
  iedge := by simp
  ilowe := by simp [flat]
  ilowr := by simp [flat]
  idone := by simp
  ichain := by simp
  igr := by simp

theorem Inv.cnt_le (h : Inv n deg E ord low nxt opn segs grs cnt) : cnt ≤ n := by
  rw [h.inum]
  refine length_le_of_nodup n _ h.ind fun x hx => h.ilt x ((h.ivis x).2 ?_)
  simpa using hx
theorem Inv.cnt_lt (h : Inv n deg E ord low nxt opn segs grs cnt) {b : Nat} (hb : b < n) (h0 : ord b = 0) : cnt < n := by
  rw [h.inum]
  have hnot : ¬ (b ∈ flat segs ∨ b ∈ grs.flatten) := fun hh => (h.ivis b).2 hh h0
  have := length_le_of_nodup n (b :: (flat segs ++ grs.flatten)) (by
    rw [List.nodup_cons]
    exact ⟨by simpa using hnot, h.ind⟩) (by
    intro x hx
    rcases List.mem_cons.1 hx with rfl | hx
    · exact hb
    · exact h.ilt x ((h.ivis x).2 (by simpa using hx)))
  simp at this ⊢
  omega
theorem mem_flat_head {p : Nat × List Nat} (hp : p ∈ segs) : p.1 ∈ flat segs := List.mem_flatMap.2 ⟨p, hp, by simp⟩
theorem mem_flat_tail {p : Nat × List Nat} {v : Nat} (hp : p ∈ segs) (hv : v ∈ p.2) : v ∈ flat segs := List.mem_flatMap.2 ⟨p, hp, by simp [hv]⟩

/-- an activity is reached for the first time -/
theorem Inv.reach (h : Inv n deg E ord low nxt opn segs grs cnt) {b : Nat} (hb : b < n) (h0 : ord b = 0) (hc : ∀ p, p ∈ segs → Rch deg E p.1 b) :
    Inv n deg E (upd ord b (cnt + 1)) (upd low b (cnt + 1)) nxt (upd opn b true) (segs ++ [(b, [])]) grs (cnt + 1) := by
  have hnot : ¬ (b ∈ flat segs ∨ b ∈ grs.flatten) := fun hh => (h.ivis b).2 hh h0
  have hn1 : b ∉ flat segs := fun hh => hnot (.inl hh)
  have hn2 : b ∉ grs.flatten := fun hh => hnot (.inr hh)
  have hf : flat (segs ++ [(b, [])]) = flat segs ++ [b] := by rw [flat_append, flat_one]
  have hne : ∀ v, v ∈ flat segs → v ≠ b := fun v hv e => hn1 (e ▸ hv)
  have hm : ∀ v, v ∈ flat segs ++ [b] ↔ v ∈ flat segs ∨ v = b := by intro v; simp
  constructor
  · intro v
    rw [hf, hm]
    by_cases e : v = b
    · subst e; simp [upd]
    · rw [upd_ne _ _ e, h.iopn]; simp [e]
  · intro v
    rw [hf, hm]
    by_cases e : v = b
    · subst e; simp [upd]
    · rw [upd_ne _ _ e, h.ivis]; simp [e]
  · rw [hf]
    have h1 := h.ind
    rw [List.nodup_append] at h1 ⊢
    obtain ⟨h1, h2, h3⟩ := h1
    refine ⟨?_, h2, ?_⟩
    · rw [List.nodup_append]
      exact ⟨h1, by simp, fun x hx y hy => by simp at hy; subst hy; exact hne x hx⟩
    · intro x hx y hy
      rcases (hm x).1 hx with hx | rfl
      · exact h3 x hx y hy
      · rintro rfl; exact hn2 hy
  · intro v
    by_cases e : v = b
    · subst e; exact fun _ => hb
    · rw [upd_ne _ _ e]; exact h.ilt v
  · intro v
    by_cases e : v = b
    · subst e; rw [upd_same]; exact Nat.le_refl _
    · rw [upd_ne _ _ e]; have := h.icnt v; omega
  · rw [hf]
    have := h.inum
    simp at this ⊢
    omega
  · rw [hf, List.pairwise_append]
    refine ⟨?_, by simp, ?_⟩
    · refine List.Pairwise.imp_of_mem ?_ h.isort
      intro x y hx hy hxy
      rw [upd_ne _ _ (hne x hx), upd_ne _ _ (hne y hy)]
      exact hxy
    · intro x hx y hy
      simp at hy
      subst hy
      rw [upd_same, upd_ne _ _ (hne x hx)]
      have := h.icnt x
      omega
  · exact h.inle
  · intro v
    by_cases e : v = b
    · subst e; exact fun _ => h.inz v h0
    · rw [upd_ne _ _ e]; exact h.inz v
  · intro v i hi
    by_cases e : E v i = b
    · rw [e, upd_same]; omega
    · rw [upd_ne _ _ e]; exact h.iedge v i hi
  · intro v hv i hi he
    rw [hf, hm] at hv he
    rcases hv with hv | rfl
    · rw [upd_ne _ _ (hne v hv)]
      rcases he with he | he
      · rw [upd_ne _ _ (hne _ he)]; exact h.ilowe v hv i hi he
      · rw [he, upd_same]
        have := (h.ilowr v hv).1
        have := h.icnt v
        omega
    · rw [h.inz v h0] at hi
      exact absurd hi (by omega)
  · intro v hv
    rw [hf, hm] at hv
    rcases hv with hv | rfl
    · rw [upd_ne _ _ (hne v hv), upd_ne _ _ (hne v hv)]
      obtain ⟨h1, u, hu, h2, h3⟩ := h.ilowr v hv
      exact ⟨h1, u, by rw [hf, hm]; exact .inl hu, by rw [upd_ne _ _ (hne u hu)]; exact h2, h3⟩
    · exact ⟨by rw [upd_same, upd_same]; exact Nat.le_refl _, v, by rw [hf, hm]; exact .inr rfl, by rw [upd_same, upd_same], Rch.refl v⟩
  · intro p hp v hv
    rcases List.mem_append.1 hp with hp | hp
    · have hp1 : p.1 ∈ flat segs := mem_flat_head hp
      have hv1 : v ∈ flat segs := mem_flat_tail hp hv
      rw [upd_ne _ _ (hne _ hp1), upd_ne _ _ (hne _ hv1), upd_ne _ _ (hne _ hv1)]
      exact h.idone p hp v hv
    · simp at hp
      subst hp
      simp at hv
  · rw [List.pairwise_append]
    exact ⟨h.ichain, by simp, fun p hp q hq => by simp at hq; subst hq; exact hc p hp⟩
  · exact h.igr

/-- a step of a is taken -/
theorem Inv.advance (h : Inv n deg E ord low nxt opn segs grs cnt) {a : Nat} (ha : a ∈ flat segs) (hlt : nxt a < deg a) (hv : ord (E a (nxt a)) ≠ 0) (hlow : E a (nxt a) ∈ flat segs → low a ≤ ord (E a (nxt a))) (hnd : ∀ p, p ∈ segs → a ∉ p.2) :
    Inv n deg E ord low (upd nxt a (nxt a + 1)) opn segs grs cnt := by
  have h1 := h.ind
  rw [List.nodup_append] at h1
  constructor
  · exact h.iopn
  · exact h.ivis
  · exact h.ind
  · exact h.ilt
  · exact h.icnt
  · exact h.inum
  · exact h.isort
  · intro v
    by_cases e : v = a
    · subst e; rw [upd_same]; omega
    · rw [upd_ne _ _ e]; exact h.inle v
  · intro v hv0
    have : v ≠ a := by rintro rfl; exact (h.ivis v).2 (.inl ha) hv0
    rw [upd_ne _ _ this]; exact h.inz v hv0
  · intro v i hi
    by_cases e : v = a
    · subst e
      rw [upd_same] at hi
      by_cases e2 : i = nxt v
      · subst e2; exact hv
      · exact h.iedge v i (by omega)
    · rw [upd_ne _ _ e] at hi; exact h.iedge v i hi
  · intro v hv' i hi he
    by_cases e : v = a
    · subst e
      rw [upd_same] at hi
      by_cases e2 : i = nxt v
      · subst e2; exact hlow he
      · exact h.ilowe v hv' i (by omega) he
    · rw [upd_ne _ _ e] at hi; exact h.ilowe v hv' i hi he
  · exact h.ilowr
  · intro p hp v hv'
    have : v ≠ a := by rintro rfl; exact hnd p hp hv'
    rw [upd_ne _ _ this]
    exact h.idone p hp v hv'
  · exact h.ichain
  · intro k g hg
    obtain ⟨g1, g2, g3⟩ := h.igr k g hg
    refine ⟨g1, g2, fun v hv' => ?_⟩
    have hmem : v ∈ grs.flatten := List.mem_flatten.2 ⟨g, List.mem_of_getElem? hg, hv'⟩
    have : v ≠ a := by rintro rfl; exact h1.2.2 v ha v hmem rfl
    rw [upd_ne _ _ this]
    exact g3 v hv'

/-- the heads are no tails -/
theorem head_notin_tails (hd : (flat segs).Nodup) {p q : Nat × List Nat} (hp : p ∈ segs) (hq : q ∈ segs) : p.1 ∉ q.2 := by
  intro hm
  induction segs with
  | nil => simp at hp
  | cons r rs ih =>
    have hf : flat (r :: rs) = (r.1 :: r.2) ++ flat rs := by simp [flat]
    rw [hf, List.nodup_append] at hd
    obtain ⟨h1, h2, h3⟩ := hd
    rcases List.mem_cons.1 hp with e1 | hp' <;> rcases List.mem_cons.1 hq with e2 | hq'
    · subst e1; subst e2
      rw [List.nodup_cons] at h1
      exact h1.1 hm
    · subst e1
      exact h3 p.1 (by simp) p.1 (mem_flat_tail hq' hm) rfl
    · subst e2
      exact h3 p.1 (by simp [hm]) p.1 (mem_flat_head hp') rfl
    · exact ih h2 hp' hq'

/-- low of a way's activity goes down to the number of one that it reaches -/
theorem Inv.setlow (h : Inv n deg E ord low nxt opn segs grs cnt) {u : Nat} {T : List Nat} (hu : (u, T) ∈ segs) {x w : Nat} (hw : w ∈ flat segs) (hx : ord w = x) (hr : Rch deg E u w) :
    Inv n deg E ord (upd low u (min (low u) x)) nxt opn segs grs cnt := by
  have h1 := h.ind
  rw [List.nodup_append] at h1
  have hle : ∀ v, upd low u (min (low u) x) v ≤ low v := by
    intro v
    by_cases e : v = u
    · subst e; rw [upd_same]; exact Nat.min_le_left _ _
    · rw [upd_ne _ _ e]; exact Nat.le_refl _
  constructor
  · exact h.iopn
  · exact h.ivis
  · exact h.ind
  · exact h.ilt
  · exact h.icnt
  · exact h.inum
  · exact h.isort
  · exact h.inle
  · exact h.inz
  · exact h.iedge
  · intro v hv i hi he
    exact Nat.le_trans (hle v) (h.ilowe v hv i hi he)
  · intro v hv
    obtain ⟨g1, y, g2, g3, g4⟩ := h.ilowr v hv
    refine ⟨Nat.le_trans (hle v) g1, ?_⟩
    by_cases e : v = u
    · subst e
      rw [upd_same]
      by_cases hlx : low v ≤ x
      · rw [Nat.min_eq_left hlx]; exact ⟨y, g2, g3, g4⟩
      · rw [Nat.min_eq_right (by omega)]; exact ⟨w, hw, hx, hr⟩
    · rw [upd_ne _ _ e]; exact ⟨y, g2, g3, g4⟩
  · intro p hp v hv
    have hvu : v ≠ u := by rintro rfl; exact head_notin_tails h1.1 hu hp hv
    obtain ⟨g1, g2, g3, g4⟩ := h.idone p hp v hv
    rw [upd_ne _ _ hvu]
    exact ⟨Nat.le_trans (hle p.1) g1, g2, g3, g4⟩
  · exact h.ichain
  · exact h.igr

/-- the top is done and heads no group: it goes to the tail of the one below -/
theorem Inv.merge {xs : List (Nat × List Nat)} {u a : Nat} {T' T : List Nat} (h : Inv n deg E ord low nxt opn (xs ++ [(u, T'), (a, T)]) grs cnt) (hd : nxt a = deg a) (hl : low a ≠ ord a) (hlu : low u ≤ low a) :
    Inv n deg E ord low nxt opn (xs ++ [(u, T' ++ a :: T)]) grs cnt := by
  have hf : flat (xs ++ [(u, T' ++ a :: T)]) = flat (xs ++ [(u, T'), (a, T)]) := by rw [flat_append, flat_append, ← flat_two]
  have hua : Rch deg E u a := by
    have := h.ichain
    rw [List.pairwise_append] at this
    have := this.2.1
    rw [List.pairwise_cons] at this
    exact this.1 (a, T) (by simp)
  have hmu : (u, T') ∈ xs ++ [(u, T'), (a, T)] := by simp
  have hma : (a, T) ∈ xs ++ [(u, T'), (a, T)] := by simp
  constructor
  · rw [hf]; exact h.iopn
  · rw [hf]; exact h.ivis
  · rw [hf]; exact h.ind
  · exact h.ilt
  · exact h.icnt
  · rw [hf]; exact h.inum
  · rw [hf]; exact h.isort
  · exact h.inle
  · exact h.inz
  · exact h.iedge
  · rw [hf]; exact h.ilowe
  · rw [hf]; exact h.ilowr
  · intro p hp v hv
    rcases List.mem_append.1 hp with hp | hp
    · exact h.idone p (by simp [hp]) v hv
    · simp at hp
      subst hp
      simp only [List.mem_append, List.mem_cons] at hv
      rcases hv with hv | rfl | hv
      · exact h.idone (u, T') hmu v hv
      · have := (h.ilowr v (mem_flat_head hma)).1
        exact ⟨hlu, by omega, hd, hua⟩
      · obtain ⟨g1, g2, g3, g4⟩ := h.idone (a, T) hma v hv
        exact ⟨Nat.le_trans hlu g1, g2, g3, hua.trans g4⟩
  · have := h.ichain
    rw [List.pairwise_append] at this ⊢
    obtain ⟨g1, g2, g3⟩ := this
    exact ⟨g1, by simp, fun p hp q hq => by simp at hq; subst hq; exact g3 p hp (u, T') (by simp)⟩
  · exact h.igr

/-- below the top: an activity that is as late as the top lies in the top's own part -/
theorem Inv.late {xs : List (Nat × List Nat)} {a : Nat} {T : List Nat} (h : Inv n deg E ord low nxt opn (xs ++ [(a, T)]) grs cnt) {v : Nat} (hv : v ∈ flat (xs ++ [(a, T)])) (ho : ord a ≤ ord v) : v ∈ a :: T := by
  rw [flat_append, flat_one] at hv
  rcases List.mem_append.1 hv with hv | hv
  · have := h.isort
    rw [flat_append, flat_one, List.pairwise_append] at this
    have := this.2.2 v hv a (by simp)
    omega
  · exact hv

/-- the lowest way's activity heads a group -/
theorem Inv.bottom {a : Nat} {T : List Nat} (h : Inv n deg E ord low nxt opn [(a, T)] grs cnt) : low a = ord a := by
  obtain ⟨h1, u, h2, h3, h4⟩ := h.ilowr a (by simp [flat])
  have := h.isort
  rw [flat_one, List.pairwise_cons] at this
  rw [flat_one] at h2
  rcases List.mem_cons.1 h2 with rfl | h2
  · exact h3.symm
  · have := this.1 u h2
    omega

/-- in the part of a top that heads a group all reach the top -/
theorem Inv.back {xs : List (Nat × List Nat)} {a : Nat} {T : List Nat} (h : Inv n deg E ord low nxt opn (xs ++ [(a, T)]) grs cnt) (hl : low a = ord a) : ∀ (m v : Nat), ord v ≤ m → v ∈ a :: T → Rch deg E v a := by
  intro m
  induction m with
  | zero =>
    intro v hm hv
    exfalso
    have hvf : v ∈ flat (xs ++ [(a, T)]) := by rw [flat_append, flat_one]; exact List.mem_append.2 (.inr hv)
    exact (h.ivis v).2 (.inl hvf) (by omega)
  | succ m ih =>
    intro v hm hv
    rcases List.mem_cons.1 hv with rfl | hvT
    · exact Rch.refl _
    · have hvf : v ∈ flat (xs ++ [(a, T)]) := by rw [flat_append, flat_one]; exact List.mem_append.2 (.inr hv)
      obtain ⟨g1, g2, g3, g4⟩ := h.idone (a, T) (by simp) v hvT
      obtain ⟨_, u, k2, k3, k4⟩ := h.ilowr v hvf
      have hu := h.late k2 (by simp only at g1; omega)
      exact k4.trans (ih u (by omega) hu)

/-- the top is done and heads a group -/
theorem Inv.group {xs : List (Nat × List Nat)} {a : Nat} {T : List Nat} {opn' : Nat → Bool} (h : Inv n deg E ord low nxt opn (xs ++ [(a, T)]) grs cnt) (hd : nxt a = deg a) (hl : low a = ord a)
    (ho : ∀ v, opn' v = (opn v && !decide (v ∈ a :: T))) :
    Inv n deg E ord low nxt opn' xs (grs ++ [a :: T]) cnt := by
  have hf : flat (xs ++ [(a, T)]) = flat xs ++ (a :: T) := by rw [flat_append, flat_one]
  have hg : (grs ++ [a :: T]).flatten = grs.flatten ++ (a :: T) := by simp
  have h1 := h.ind
  rw [hf] at h1
  have hsub : ∀ v, v ∈ flat xs → v ∈ flat (xs ++ [(a, T)]) := fun v hv => by rw [hf]; exact List.mem_append.2 (.inl hv)
  have hsubT : ∀ v, v ∈ a :: T → v ∈ flat (xs ++ [(a, T)]) := fun v hv => by rw [hf]; exact List.mem_append.2 (.inr hv)
  have hdis : ∀ v, v ∈ flat xs → v ∉ a :: T := by
    intro v hv hv'
    rw [List.append_assoc, List.nodup_append] at h1
    exact h1.2.2 v hv v (List.mem_append.2 (.inl hv')) rfl
  have hlowa : ∀ v, v ∈ a :: T → ord a ≤ low v ∧ nxt v = deg v := by
    intro v hv
    rcases List.mem_cons.1 hv with rfl | hv
    · exact ⟨by omega, hd⟩
    · obtain ⟨g1, g2, g3, g4⟩ := h.idone (a, T) (by simp) v hv
      exact ⟨by simp only at g1; omega, g3⟩
  have hfrom : ∀ v, v ∈ a :: T → Rch deg E a v := by
    intro v hv
    rcases List.mem_cons.1 hv with rfl | hv
    · exact Rch.refl _
    · exact (h.idone (a, T) (by simp) v hv).2.2.2
  have hperm : (flat xs ++ (a :: T) ++ grs.flatten).Perm (flat xs ++ (grs.flatten ++ (a :: T))) := by
    rw [List.append_assoc]
    exact List.Perm.append_left _ List.perm_append_comm
  constructor
  · intro v
    rw [ho, Bool.and_eq_true, h.iopn, hf, List.mem_append]
    constructor
    · rintro ⟨hv | hv, hn⟩
      · exact hv
      · simp [hv] at hn
    · intro hv
      exact ⟨.inl hv, by simp [hdis v hv]⟩
  · intro v
    rw [h.ivis, hf, hg, List.mem_append, List.mem_append]
    constructor
    · rintro ((h | h) | h)
      · exact .inl h
      · exact .inr (.inr h)
      · exact .inr (.inl h)
    · rintro (h | h | h)
      · exact .inl (.inl h)
      · exact .inr h
      · exact .inl (.inr h)
  · rw [hg]; exact hperm.nodup h1
  · exact h.ilt
  · exact h.icnt
  · rw [hg]
    have := h.inum
    rw [hf] at this
    rw [this]
    exact hperm.length_eq
  · have := h.isort
    rw [hf, List.pairwise_append] at this
    exact this.1
  · exact h.inle
  · exact h.inz
  · exact h.iedge
  · intro v hv i hi he
    exact h.ilowe v (hsub v hv) i hi (hsub _ he)
  · intro v hv
    obtain ⟨g1, u, g2, g3, g4⟩ := h.ilowr v (hsub v hv)
    refine ⟨g1, u, ?_, g3, g4⟩
    rw [hf] at g2
    rcases List.mem_append.1 g2 with g2 | g2
    · exact g2
    · exfalso
      have hs := h.isort
      rw [hf, List.pairwise_append] at hs
      have := hs.2.2 v hv u g2
      omega
  · intro p hp
    exact h.idone p (List.mem_append.2 (.inl hp))
  · have := h.ichain
    rw [List.pairwise_append] at this
    exact this.1
  · intro k g hk
    rw [List.getElem?_append] at hk
    by_cases hkl : k < grs.length
    · rw [if_pos hkl] at hk
      obtain ⟨g1, g2, g3⟩ := h.igr k g hk
      refine ⟨g1, g2, fun v hv => ⟨(g3 v hv).1, fun i hi => ?_⟩⟩
      obtain ⟨j, g', hj, hg', he⟩ := (g3 v hv).2 i hi
      exact ⟨j, g', hj, by rw [List.getElem?_append, if_pos (by omega)]; exact hg', he⟩
    · rw [if_neg hkl] at hk
      have hk0 : k = grs.length := by
        have := List.getElem?_eq_some_iff.1 hk
        obtain ⟨hlt, _⟩ := this
        simp at hlt
        omega
      subst hk0
      simp at hk
      subst hk
      refine ⟨by simp, fun v hv v' hv' => ?_, fun v hv => ⟨(hlowa v hv).2, fun i hi => ?_⟩⟩
      · exact (h.back hl (ord v) v (Nat.le_refl _) hv).trans (hfrom v' hv')
      · have hi' : i < nxt v := by rw [(hlowa v hv).2]; exact hi
        have hvis := h.iedge v i hi'
        rcases (h.ivis _).1 hvis with hin | hin
        · have := h.ilowe v (hsubT v hv) i hi' hin
          have hin' := h.late hin (by have := (hlowa v hv).1; omega)
          exact ⟨grs.length, a :: T, Nat.le_refl _, by simp, hin'⟩
        · obtain ⟨g', hg', he⟩ := List.mem_flatten.1 hin
          obtain ⟨j, hj⟩ := List.mem_iff_getElem?.1 hg'
          have hjl : j < grs.length := (List.getElem?_eq_some_iff.1 hj).1
          exact ⟨j, g', by omega, by rw [List.getElem?_append, if_pos hjl]; exact hj, he⟩
end
end Go.Proofs.Qxb6617531a.Tj
