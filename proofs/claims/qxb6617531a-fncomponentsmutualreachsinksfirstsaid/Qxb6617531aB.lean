/-
  PLAIN: a breadth-first search from each activity fills a table. No Go in sight.
-/
import Derived.Test.Qxb6617531aTj
namespace Go.Proofs.Qxb6617531a.Tj
set_option linter.unusedVariables false

theorem idx_inj {n s b s' b' : Nat} (hb : b < n) (hb' : b' < n) (h : s * n + b = s' * n + b') : s = s' ∧ b = b' := by
  have h1 : (s * n + b) / n = s := by rw [Nat.mul_comm, Nat.mul_add_div (by omega), Nat.div_eq_of_lt hb, Nat.add_zero]
  have h2 : (s' * n + b') / n = s' := by rw [Nat.mul_comm, Nat.mul_add_div (by omega), Nat.div_eq_of_lt hb', Nat.add_zero]
  have e : s = s' := by rw [← h1, ← h2, h]
  subst e
  exact ⟨rfl, by omega⟩
theorem idx_lt {n s b : Nat} (hs : s < n) (hb : b < n) : s * n + b < n * n := by
  have : (s + 1) * n ≤ n * n := Nat.mul_le_mul_right n hs
  rw [Nat.add_mul, Nat.one_mul] at this
  omega

/-- the search from s has come to the queue Q; of the activities before place h all steps lead into Q -/
structure BInv (n : Nat) (deg : Nat → Nat) (E : Nat → Nat → Nat) (s : Nat) (Q : List Nat) (tab : Nat → Bool) : Prop where
  hs : s ∈ Q
  nd : Q.Nodup
  lt : ∀ v, v ∈ Q → v < n
  rch : ∀ v, v ∈ Q → Rch deg E s v
  row : ∀ b, b < n → (tab (s * n + b) = true ↔ b ∈ Q)
  old : ∀ s' b, s' < s → b < n → (tab (s' * n + b) = true ↔ Rch deg E s' b)
  new : ∀ s' b, s < s' → b < n → tab (s' * n + b) = false
/-- rows below s are filled, the others empty -/
structure BOut (n : Nat) (deg : Nat → Nat) (E : Nat → Nat → Nat) (s : Nat) (tab : Nat → Bool) : Prop where
  old : ∀ s' b, s' < s → b < n → (tab (s' * n + b) = true ↔ Rch deg E s' b)
  new : ∀ s' b, s ≤ s' → b < n → tab (s' * n + b) = false

section
variable {n : Nat} {deg : Nat → Nat} {E : Nat → Nat → Nat} {s : Nat} {Q : List Nat} {tab : Nat → Bool}
theorem BOut.empty (n : Nat) (deg : Nat → Nat) (E : Nat → Nat → Nat) : BOut n deg E 0 (fun _ => false) := ⟨fun s' b h => absurd h (Nat.not_lt_zero s'), fun _ _ _ _ => rfl⟩
theorem BOut.start (h : BOut n deg E s tab) (hs : s < n) : BInv n deg E s [s] (upd tab (s * n + s) true) where
  hs := by simp
  nd := by simp
  lt := by intro v hv; simp at hv; omega
  rch := by intro v hv; simp at hv; subst hv; exact Rch.refl _
  row := by
    intro b hb
    by_cases e : b = s
    · subst e; simp [upd]
    · rw [upd_ne _ _ (by omega), h.new s b (Nat.le_refl _) hb]; simp [e]
  old := by
    intro s' b hs' hb
    rw [upd_ne _ _ (fun e => by have := (idx_inj hb hs e).1; omega)]
    exact h.old s' b hs' hb
  new := by
    intro s' b hs' hb
    rw [upd_ne _ _ (fun e => by have := (idx_inj hb hs e).1; omega)]
    exact h.new s' b (by omega) hb
theorem BInv.add (h : BInv n deg E s Q tab) {a i : Nat} (ha : a ∈ Q) (hi : i < deg a) (hb : E a i < n) (hf : tab (s * n + E a i) = false) : BInv n deg E s (Q ++ [E a i]) (upd tab (s * n + E a i) true) := by
  have hn : E a i ∉ Q := fun hh => by rw [(h.row _ hb).2 hh] at hf; cases hf
  constructor
  · simp [h.hs]
  · rw [List.nodup_append]
    exact ⟨h.nd, by simp, fun x hx y hy => by simp at hy; subst hy; rintro rfl; exact hn hx⟩
  · intro v hv
    rcases List.mem_append.1 hv with hv | hv
    · exact h.lt v hv
    · simp at hv; subst hv; exact hb
  · intro v hv
    rcases List.mem_append.1 hv with hv | hv
    · exact h.rch v hv
    · simp at hv; subst hv; exact (h.rch a ha).trans (Rch.one hi)
  · intro b hb'
    by_cases e : b = E a i
    · subst e; simp [upd]
    · rw [upd_ne _ _ (by omega), h.row b hb']; simp [e]
  · intro s' b hs' hb'
    rw [upd_ne _ _ (fun e => by have := (idx_inj hb' hb e).1; omega)]
    exact h.old s' b hs' hb'
  · intro s' b hs' hb'
    rw [upd_ne _ _ (fun e => by have := (idx_inj hb' hb e).1; omega)]
    exact h.new s' b hs' hb'
theorem BInv.length (h : BInv n deg E s Q tab) : Q.length ≤ n := length_le_of_nodup n Q h.nd h.lt
/-- the search is done -/
theorem BInv.done (h : BInv n deg E s Q tab) (hE : ∀ a i, a < n → i < deg a → E a i < n) (hc : ∀ k, k < Q.length → ∀ i, i < deg (Q.getD k 0) → E (Q.getD k 0) i ∈ Q) : BOut n deg E (s + 1) tab where
  old := by
    intro s' b hs' hb
    by_cases e : s' = s
    · subst e
      rw [h.row b hb]
      constructor
      · exact h.rch b
      · rintro ⟨m, hm⟩
        refine Rch.closed (C := fun v => v ∈ Q) ?_ hm h.hs
        intro v hv i hi
        obtain ⟨k, hk⟩ := List.mem_iff_getElem?.1 hv
        have hkl : k < Q.length := (List.getElem?_eq_some_iff.1 hk).1
        have hg : Q.getD k 0 = v := by rw [List.getD_eq_getElem?_getD, hk]; rfl
        have := hc k hkl i (by rw [hg]; exact hi)
        rw [hg] at this
        exact this
    · exact h.old s' b (by omega) hb
  new := by
    intro s' b hs' hb
    exact h.new s' b (by omega) hb
end
end Go.Proofs.Qxb6617531a.Tj
