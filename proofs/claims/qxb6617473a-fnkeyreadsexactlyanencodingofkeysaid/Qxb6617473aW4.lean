import Derived.Test.Qxb6617473aW3
namespace Go.Proofs.Qxb6617473a
open Go.RowKit

theorem uint_no (R : Nat) (a : Option Addr) (n c : Nat) (f : Bool) (D : Nat → Int) (w : World) (h : Rd w R (.slice a n c) f) (hD : Bs w a n D) (hm : n ≤ 1048576) (hby : ∀ i, i < n → 0 ≤ D i ∧ D i < 256) (hx : f = true ∨ hd n D = none) :
    Calls Try.prog 10 #[.pointer (some ⟨R, 0, none⟩)] w fun e w' => RdOut w R 0 (.slice none 0 0) true e w' := by
  have main : Calls Try.prog 13 #[.pointer (some ⟨R, 0, none⟩), .int .u8 0] w fun e w' => RdOut w R 0 (.slice none 0 0) true e w' := by
    cases f with
    | true => exact head_failed R _ w h
    | false =>
      have hx : hd n D = none := by simpa using hx
      unfold hd at hx
      by_cases h0 : n = 0
      · subst h0; exact head_empty R a c w h
      rw [if_neg h0] at hx
      have h0' := hby 0 (by omega)
      by_cases h28 : 28 ≤ D 0
      · exact head_bad R a n c D w h hD (by omega) hm h28 h0'.2
      rw [if_neg h28] at hx
      by_cases h24 : D 0 < 24
      · rw [if_pos h24] at hx; cases hx
      rw [if_neg h24] at hx
      by_cases hs : n < 1 + szOf (D 0)
      · exact head_short R a n c D w h hD (by omega) hm (by omega) (by omega) hs
      · rw [if_neg hs] at hx; cases hx
  have M := hide main
  clear main hx hby
  go_enter Try.func10, Try.ntmps10
  go_wp2_with (go_at_call 13; refine (unhide M).mono ?_; rintro e w' hh; obtain ⟨rfl, h2, h3⟩ := hh)
  go_ret
  exact ⟨rfl, ‹_›, ‹_›⟩

theorem uint_yes (R : Nat) (a : Option Addr) (n c m : Nat) (x : Int) (D : Nat → Int) (w : World) (h : Rd w R (.slice a n c) false) (hD : Bs w a n D) (hm : n ≤ 1048576) (hc : n ≤ c) (hcm : c ≤ 1048576) (hby : ∀ i, i < n → 0 ≤ D i ∧ D i < 256) (hx : hd n D = some (m, x)) :
    Calls Try.prog 10 #[.pointer (some ⟨R, 0, none⟩)] w fun e w' => HeadYes w R x m n c D e w' := by
  have main : Calls Try.prog 13 #[.pointer (some ⟨R, 0, none⟩), .int .u8 0] w fun e w' => HeadYes w R x m n c D e w' := by
    unfold hd at hx
    by_cases h0 : n = 0
    · rw [if_pos h0] at hx; cases hx
    rw [if_neg h0] at hx
    have h0' := hby 0 (by omega)
    by_cases h28 : 28 ≤ D 0
    · rw [if_pos h28] at hx; cases hx
    rw [if_neg h28] at hx
    by_cases h24 : D 0 < 24
    · rw [if_pos h24] at hx
      cases hx
      exact head_one R a n c D w h hD (by omega) hm hc h0'.1 h24
    rw [if_neg h24] at hx
    by_cases hs : n < 1 + szOf (D 0)
    · rw [if_pos hs] at hx; cases hx
    · rw [if_neg hs] at hx
      cases hx
      exact head_long R a n c D w h hD (by omega) hm hc hcm hby (by omega) (by omega) (by omega)
  have M := hide main
  clear main hx hby
  go_enter Try.func10, Try.ntmps10
  go_wp2_with (go_at_call 13; refine (unhide M).mono ?_; rintro e w' hh; obtain ⟨a', ⟨rfl, h2, h3⟩, h4, h5⟩ := hh)
  go_ret
  exact ⟨_, ⟨rfl, ‹_›, ‹_›⟩, ‹_›, ‹_›⟩

theorem new_any (v : Value) (f : Bool) (w : World) (hv : ∃ a n c, v = .slice a n c) :
    Calls Try.prog 6 #[v, .bool f] w fun e w' => e = .returned (.pointer (some ⟨w.heap.size, 0, none⟩)) ∧ w' = w.alloc (.cells #[v, .bool f] 36) := by
  obtain ⟨a, n, c, rfl⟩ := hv
  go_enter Try.func6, Try.ntmps6
  go_wp2
  go_ret
  exact ⟨rfl, rfl⟩

theorem data_any (R : Nat) (v : Value) (f : Bool) (w : World) (h : Rd w R v f) (hv : ∃ a n c, v = .slice a n c) :
    Calls Try.prog 8 #[.pointer (some ⟨R, 0, none⟩)] w fun e w' => e = .returned v ∧ w' = w := by
  obtain ⟨a, n, c, rfl⟩ := hv
  have h0 := h.c0
  go_enter Try.func8, Try.ntmps8
  go_wp2
  go_ret
  exact ⟨rfl, rfl⟩
theorem failed_any (R : Nat) (v : Value) (f : Bool) (w : World) (h : Rd w R v f) :
    Calls Try.prog 9 #[.pointer (some ⟨R, 0, none⟩)] w fun e w' => e = .returned (.bool f) ∧ w' = w := by
  have h0 := h.c1
  go_enter Try.func9, Try.ntmps9
  go_wp2
  go_ret
  exact ⟨rfl, rfl⟩

structure KeyOut (w : World) (R : Nat) (b : Bool) (v : Value) (f : Bool) (e : Ending) (w' : World) : Prop where
  ret : e = .returned (.bool b)
  rd : Rd w' R v f
  gr : w.grownBy w' (some R)

theorem key_failed (R : Nat) (v : Value) (k : Int) (w : World) (h : Rd w R v true) :
    Calls Try.prog 7 #[.pointer (some ⟨R, 0, none⟩), .int .u64 k] w fun e w' => KeyOut w R false v true e w' := by
  have h0 := h.c0
  have h1 := h.c1
  go_enter Try.func7, Try.ntmps7
  go_wp2
  go_ret
  exact ⟨rfl, h, grown_refl _ _⟩

theorem Rd.new (w : World) (v : Value) (f : Bool) : Rd (w.alloc (.cells #[v, .bool f] 36)) w.heap.size v f := heap_alloc_new w _
theorem Rd.kept {w w' : World} {R : Nat} {v : Value} {f : Bool} {r : Option Nat} (h : Rd w R v f) (hg : w.grownBy w' r) (hne : some R ≠ r) : Rd w' R v f :=
  (hg.block R h.lt hne).trans h
theorem Bs.alloc {w : World} {a : Option Addr} {n : Nat} {D : Nat → Int} (h : Bs w a n D) (o : Obj) : Bs (w.alloc o) a n D := by
  intro i hi
  obtain ⟨b, o', ha, hc⟩ := h i hi
  exact ⟨b, o', ha, (World.cell?_alloc_lt w o _ (World.block_lt_of_cell? w _ hc)).trans hc⟩
theorem grown_after {w w' : World} (o : Obj) (h : (w.alloc o).grownBy w' (some w.heap.size)) (r : Option Nat) : w.grownBy w' r := by
  refine ⟨h.os, h.tape, h.output, Nat.le_trans (by simp) h.size, fun k hk _ => ?_⟩
  rw [h.block k (by simp; omega) (by simp; omega)]
  exact Below.heap_alloc _ _ _ hk

set_option maxHeartbeats 400000 in
theorem key_no (R : Nat) (a : Option Addr) (n c : Nat) (D : Nat → Int) (k : Int) (w : World) (h : Rd w R (.slice a n c) false) (hD : Bs w a n D) (hm : n ≤ 1048576) (hby : ∀ i, i < n → 0 ≤ D i ∧ D i < 256) (hx : hd n D = none) :
    Calls Try.prog 7 #[.pointer (some ⟨R, 0, none⟩), .int .u64 k] w fun e w' => KeyOut w R false (.slice a n c) false e w' := by
  have h0 := h.c0
  have h1 := h.c1
  have M := hide (uint_no w.heap.size a n c false D (w.alloc (.cells #[.slice a n c, .bool false] 36)) (Rd.new w _ _) (hD.alloc _) hm hby (.inr hx))
  clear hx hby
  go_enter Try.func7, Try.ntmps7
  go_wp2_with fail
  refine (unhide M).mono ?_
  rintro e w' ⟨rfl, h2, h3⟩
  have c1 := h2.c1
  have fin : w.grownBy w' (some R) := grown_after _ h3 _
  have hlt := h.lt
  have fin2 : Rd w' R (.slice a n c) false := (Rd.kept (w := w.alloc _) ((Below.heap_alloc w _ R hlt).trans h) h3 (by simp; omega))
  by_cases hk : k = 0
  · subst hk
    go_wp2
    go_ret
    exact ⟨rfl, fin2, fin⟩
  · have hk' : ((0 : Int) != k) = true := by simp; omega
    go_wp2
    go_ret
    exact ⟨rfl, fin2, fin⟩

set_option maxHeartbeats 400000 in
theorem key_other (R : Nat) (a : Option Addr) (n c m : Nat) (x : Int) (D : Nat → Int) (k : Int) (w : World) (h : Rd w R (.slice a n c) false) (hD : Bs w a n D) (hm : n ≤ 1048576) (hc : n ≤ c) (hcm : c ≤ 1048576) (hby : ∀ i, i < n → 0 ≤ D i ∧ D i < 256) (hx : hd n D = some (m, x)) (hk : x ≠ k) :
    Calls Try.prog 7 #[.pointer (some ⟨R, 0, none⟩), .int .u64 k] w fun e w' => KeyOut w R false (.slice a n c) false e w' := by
  have h0 := h.c0
  have h1 := h.c1
  have M := hide (uint_yes w.heap.size a n c m x D (w.alloc (.cells #[.slice a n c, .bool false] 36)) (Rd.new w _ _) (hD.alloc _) hm hc hcm hby hx)
  clear hx hby
  go_enter Try.func7, Try.ntmps7
  go_wp2_with fail
  refine (unhide M).mono ?_
  rintro e w' ⟨a', ⟨rfl, h2, h3⟩, h4, h5⟩
  have c1 := h2.c1
  have fin : w.grownBy w' (some R) := grown_after _ h3 _
  have hlt := h.lt
  have fin2 : Rd w' R (.slice a n c) false := (Rd.kept (w := w.alloc _) ((Below.heap_alloc w _ R hlt).trans h) h3 (by simp; omega))
  have hk' : (x != k) = true := by simp [hk]
  go_wp2
  go_ret
  exact ⟨rfl, fin2, fin⟩

structure KeyYes (w : World) (R : Nat) (m n c : Nat) (D : Nat → Int) (e : Ending) (w' : World) : Prop where
  ex : ∃ a', KeyOut w R true (.slice a' (n - m) (c - m)) false e w' ∧ Bs w' a' (n - m) (fun i => D (m + i)) ∧ (a' = none → n - m = 0)

set_option maxHeartbeats 400000 in
theorem key_yes (R : Nat) (a : Option Addr) (n c m : Nat) (x : Int) (D : Nat → Int) (w : World) (h : Rd w R (.slice a n c) false) (hD : Bs w a n D) (hm : n ≤ 1048576) (hc : n ≤ c) (hcm : c ≤ 1048576) (hby : ∀ i, i < n → 0 ≤ D i ∧ D i < 256) (hx : hd n D = some (m, x)) :
    Calls Try.prog 7 #[.pointer (some ⟨R, 0, none⟩), .int .u64 x] w fun e w' => KeyYes w R m n c D e w' := by
  have h0 := h.c0
  have h1 := h.c1
  have M := hide (uint_yes w.heap.size a n c m x D (w.alloc (.cells #[.slice a n c, .bool false] 36)) (Rd.new w _ _) (hD.alloc _) hm hc hcm hby hx)
  clear hx hby
  go_enter Try.func7, Try.ntmps7
  go_wp2_with fail
  refine (unhide M).mono ?_
  rintro e w' ⟨a', ⟨rfl, h2, h3⟩, h4, h5⟩
  have c0 := h2.c0
  have c1 := h2.c1
  have fin : w.grownBy w' (some R) := grown_after _ h3 _
  have hlt := h.lt
  have fin2 : Rd w' R (.slice a n c) false := (Rd.kept (w := w.alloc _) ((Below.heap_alloc w _ R hlt).trans h) h3 (by simp; omega))
  have d0 := fin2.c0
  have d1 := fin2.c1
  have g0 := fin2.fz 0
  have g1 := fin2.fz 1
  go_wp2
  go_ret
  have R2 := (fin2.set0 (.slice a' (n - m) (c - m))).set1 false
  have G2 := grown_trans fin (grown_trans (grown_set R 0 (.slice a' (n - m) (c - m))) (grown_set R 1 (.bool false)))
  exact ⟨a', ⟨rfl, R2, G2⟩, h4.grown fin2 (sl_ne _ _ _) (grown_trans (grown_set R 0 (.slice a' (n - m) (c - m))) (grown_set R 1 (.bool false))), h5⟩

end Go.Proofs.Qxb6617473a
