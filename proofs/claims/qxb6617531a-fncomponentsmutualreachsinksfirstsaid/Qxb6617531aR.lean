import Derived.Test.Qxb6617531aM
import Derived.Deep.Light
import Derived.Deep.DeepCutAuto
namespace Go.Proofs.Qxb6617531a
open Go.RowKit
set_option linter.unusedVariables false

/-- what a step on the memory of 'components' leaves alone; where the two stacks lie behind it -/
structure Kept (K : Blks) (rv wv rv' wv' : Value) (w w' : World) : Prop where
  os : w'.os = w.os
  tape : w'.tape = w.tape
  output : w'.output = w.output
  size : w.heap.size ≤ w'.heap.size
  block : ∀ b, b < w.heap.size → (∀ i, i < 10 → b ≠ K.b i) → some b ≠ rv.ownBlock → some b ≠ wv.ownBlock → w'.heap[b]? = w.heap[b]?
  nr : rv'.ownBlock = rv.ownBlock ∨ ∃ g, rv'.ownBlock = some g ∧ w.heap.size ≤ g
  nw : wv'.ownBlock = wv.ownBlock ∨ ∃ g, wv'.ownBlock = some g ∧ w.heap.size ≤ g

section
variable {K : Blks} {rv wv rv' wv' rv2 wv2 : Value} {w w' w2 : World}
theorem Kept.refl (K : Blks) (rv wv : Value) (w : World) : Kept K rv wv rv wv w w := ⟨rfl, rfl, rfl, Nat.le_refl _, fun _ _ _ _ _ => rfl, .inl rfl, .inl rfl⟩
theorem Kept.trans (h : Kept K rv wv rv' wv' w w') (k : Kept K rv' wv' rv2 wv2 w' w2) : Kept K rv wv rv2 wv2 w w2 := by
  refine ⟨k.os.trans h.os, k.tape.trans h.tape, k.output.trans h.output, Nat.le_trans h.size k.size, fun b hb hK hr hw => ?_, ?_, ?_⟩
  · refine (k.block b (Nat.lt_of_lt_of_le hb h.size) hK ?_ ?_).trans (h.block b hb hK hr hw)
    · rcases h.nr with e | ⟨g, e, hg⟩
      · rw [e]; exact hr
      · rw [e]; intro e'; injection e' with e'; omega
    · rcases h.nw with e | ⟨g, e, hg⟩
      · rw [e]; exact hw
      · rw [e]; intro e'; injection e' with e'; omega
  · rcases k.nr with e | ⟨g, e, hg⟩
    · rw [e]; exact h.nr
    · exact .inr ⟨g, e, Nat.le_trans h.size hg⟩
  · rcases k.nw with e | ⟨g, e, hg⟩
    · rw [e]; exact h.nw
    · exact .inr ⟨g, e, Nat.le_trans h.size hg⟩
theorem Kept.alloc (h : Kept K rv wv rv' wv' w w') (o : Obj) : Kept K rv wv rv' wv' w (w'.alloc o) :=
  h.trans ⟨rfl, rfl, rfl, by simp, fun b hb _ _ _ => Below.heap_alloc _ _ _ hb, .inl rfl, .inl rfl⟩
theorem Kept.drewN (h : Kept K rv wv rv' wv' w w') (k : Nat) : Kept K rv wv rv' wv' w (w'.drewN k) :=
  h.trans ⟨rfl, rfl, rfl, Nat.le_refl _, fun _ _ _ _ _ => rfl, .inl rfl, .inl rfl⟩
theorem Kept.drew (h : Kept K rv wv rv' wv' w w') : Kept K rv wv rv' wv' w w'.drew := h.drewN 1
theorem Kept.set (h : Kept K rv wv rv' wv' w w') (i : Nat) (hi : i < 10) (o : Nat) (u : Value) : Kept K rv wv rv' wv' w (w'.setCell ⟨K.b i, o, none⟩ u) :=
  h.trans ⟨rfl, rfl, rfl, by simp, fun b hb hK _ _ => set_ne w' (hK i hi) u, .inl rfl, .inl rfl⟩
/-- an append to the reached stack -/
theorem Kept.grownR (h : Kept K rv wv rv' wv' w w') (hg : w'.grownBy w2 rv'.ownBlock) (hn : rv2.ownBlock = rv'.ownBlock ∨ rv2.ownBlock = some w'.heap.size) : Kept K rv wv rv2 wv' w w2 :=
  h.trans ⟨hg.os, hg.tape, hg.output, hg.size, fun b hb _ hr _ => hg.block b hb hr, hn.elim .inl fun e => .inr ⟨_, e, Nat.le_refl _⟩, .inl rfl⟩
theorem Kept.grownW (h : Kept K rv wv rv' wv' w w') (hg : w'.grownBy w2 wv'.ownBlock) (hn : wv2.ownBlock = wv'.ownBlock ∨ wv2.ownBlock = some w'.heap.size) : Kept K rv wv rv' wv2 w w2 :=
  h.trans ⟨hg.os, hg.tape, hg.output, hg.size, fun b hb _ _ hw => hg.block b hb hw, .inl rfl, hn.elim .inl fun e => .inr ⟨_, e, Nat.le_refl _⟩⟩
end

theorem Mem.boxR {K : Blks} {n : Nat} {ord low nxt : Nat → Nat} {opn : Nat → Bool} {rl wl : List Nat} {cnt : Nat} {rv wv : Value} {w w1 : World} (h : Mem K n ord low nxt opn rl wl cnt rv wv w) (hg : w.grownBy w1 rv.ownBlock) : w1.heap[K.b 3]? = some (.cells #[rv] 24 (0, 0)) :=
  (hg.block _ (Nat.lt_of_lt_of_le (h.lb 3 (by decide)) h.sz) (fun e => own_ge h.owr (h.lb 3 (by decide)) e.symm)).trans h.obr
theorem Mem.boxW {K : Blks} {n : Nat} {ord low nxt : Nat → Nat} {opn : Nat → Bool} {rl wl : List Nat} {cnt : Nat} {rv wv : Value} {w w1 : World} (h : Mem K n ord low nxt opn rl wl cnt rv wv w) (hg : w.grownBy w1 wv.ownBlock) : w1.heap[K.b 4]? = some (.cells #[wv] 24 (0, 0)) :=
  (hg.block _ (Nat.lt_of_lt_of_le (h.lb 4 (by decide)) h.sz) (fun e => own_ge h.oww (h.lb 4 (by decide)) e.symm)).trans h.obw
theorem own_slice {w : World} {base : Nat} {e : TypeId} {v : Value} {k : Nat} {xs : List Value} (h : w.ownsRow base e 1 v k xs) : ∃ a c, v = .slice a k c := by
  rcases h.2 with ⟨e, rfl⟩ | ⟨g, cap, cur, e, _⟩
  · exact ⟨_, _, e⟩
  · exact ⟨_, _, e⟩

/-- what 'reach(a)' leaves -/
structure Reached (K : Blks) (n : Nat) (ord low nxt : Nat → Nat) (opn : Nat → Bool) (rl wl : List Nat) (cnt : Nat) (rv wv : Value) (w : World) (a : Nat) (e : Ending) (w' : World) : Prop where
  ret : e = .returned (.tuple #[])
  ex : ∃ rv' wv', Mem K n (Tj.upd ord a (cnt + 1)) (Tj.upd low a (cnt + 1)) nxt (Tj.upd opn a true) (rl ++ [a]) (wl ++ [a]) (cnt + 1) rv' wv' w' ∧ Kept K rv wv rv' wv' w w'

theorem ival_one (a : Nat) : ∀ u ∈ [ival a], u.oneCell' = true := by intro u hu; simp at hu; subst hu; rfl

set_option maxHeartbeats 1000000 in
theorem reach_any (K : Blks) (n : Nat) (ord low nxt : Nat → Nat) (opn : Nat → Bool) (rl wl : List Nat) (cnt : Nat) (rv wv : Value) (w : World) (h : Mem K n ord low nxt opn rl wl cnt rv wv w) (a : Nat) (ha : a < n) (hn : n ≤ 512) (hc : cnt < n) (hrl : rl.length ≤ 512) (hwl : wl.length ≤ 512) :
    Calls Try.prog 8 #[.int .i64 a, .pointer (some ⟨K.b 5, 0, none⟩), .pointer (some ⟨K.b 0, 0, none⟩), .pointer (some ⟨K.b 1, 0, none⟩), .pointer (some ⟨K.b 2, 0, none⟩), .pointer (some ⟨K.b 3, 0, none⟩), .pointer (some ⟨K.b 4, 0, none⟩)] w
      fun e w' => Reached K n ord low nxt opn rl wl cnt rv wv w a e w' := by
  have c5 := cell_of_one h.obc
  have f5 := free_of_one h.obc
  have c0 := cell_of_one h.obo
  have c1 := cell_of_one h.obl
  have c2 := cell_of_one h.obp
  have r6 := h.rao.cell ha
  have r7 := h.ral.cell ha
  have r9 := h.rap.cell ha
  have f6 := h.rao.frozen a
  have f7 := h.ral.frozen a
  have f9 := h.rap.frozen a
  have d : ∀ i j, i < 10 → j < 10 → i ≠ j → K.b i ≠ K.b j := h.dist
  have d50 : (K.b 5 = K.b 0) = False := eq_false (d 5 0 (by decide) (by decide) (by decide))
  have d05 : (K.b 0 = K.b 5) = False := eq_false (d 0 5 (by decide) (by decide) (by decide))
  have d51 : (K.b 5 = K.b 1) = False := eq_false (d 5 1 (by decide) (by decide) (by decide))
  have d15 : (K.b 1 = K.b 5) = False := eq_false (d 1 5 (by decide) (by decide) (by decide))
  have d52 : (K.b 5 = K.b 2) = False := eq_false (d 5 2 (by decide) (by decide) (by decide))
  have d25 : (K.b 2 = K.b 5) = False := eq_false (d 2 5 (by decide) (by decide) (by decide))
  have d56 : (K.b 5 = K.b 6) = False := eq_false (d 5 6 (by decide) (by decide) (by decide))
  have d65 : (K.b 6 = K.b 5) = False := eq_false (d 6 5 (by decide) (by decide) (by decide))
  have d57 : (K.b 5 = K.b 7) = False := eq_false (d 5 7 (by decide) (by decide) (by decide))
  have d75 : (K.b 7 = K.b 5) = False := eq_false (d 7 5 (by decide) (by decide) (by decide))
  have d59 : (K.b 5 = K.b 9) = False := eq_false (d 5 9 (by decide) (by decide) (by decide))
  have d95 : (K.b 9 = K.b 5) = False := eq_false (d 9 5 (by decide) (by decide) (by decide))
  have d67 : (K.b 6 = K.b 7) = False := eq_false (d 6 7 (by decide) (by decide) (by decide))
  have d76 : (K.b 7 = K.b 6) = False := eq_false (d 7 6 (by decide) (by decide) (by decide))
  have d69 : (K.b 6 = K.b 9) = False := eq_false (d 6 9 (by decide) (by decide) (by decide))
  have d96 : (K.b 9 = K.b 6) = False := eq_false (d 9 6 (by decide) (by decide) (by decide))
  have d79 : (K.b 7 = K.b 9) = False := eq_false (d 7 9 (by decide) (by decide) (by decide))
  have d97 : (K.b 9 = K.b 7) = False := eq_false (d 9 7 (by decide) (by decide) (by decide))
  have d60 : (K.b 6 = K.b 0) = False := eq_false (d 6 0 (by decide) (by decide) (by decide))
  have d06 : (K.b 0 = K.b 6) = False := eq_false (d 0 6 (by decide) (by decide) (by decide))
  have d61 : (K.b 6 = K.b 1) = False := eq_false (d 6 1 (by decide) (by decide) (by decide))
  have d16 : (K.b 1 = K.b 6) = False := eq_false (d 1 6 (by decide) (by decide) (by decide))
  have d62 : (K.b 6 = K.b 2) = False := eq_false (d 6 2 (by decide) (by decide) (by decide))
  have d26 : (K.b 2 = K.b 6) = False := eq_false (d 2 6 (by decide) (by decide) (by decide))
  have d70 : (K.b 7 = K.b 0) = False := eq_false (d 7 0 (by decide) (by decide) (by decide))
  have d07 : (K.b 0 = K.b 7) = False := eq_false (d 0 7 (by decide) (by decide) (by decide))
  have d71 : (K.b 7 = K.b 1) = False := eq_false (d 7 1 (by decide) (by decide) (by decide))
  have d17 : (K.b 1 = K.b 7) = False := eq_false (d 1 7 (by decide) (by decide) (by decide))
  have d72 : (K.b 7 = K.b 2) = False := eq_false (d 7 2 (by decide) (by decide) (by decide))
  have d27 : (K.b 2 = K.b 7) = False := eq_false (d 2 7 (by decide) (by decide) (by decide))
  clear d
  have M1 := (((h.setCnt (cnt + 1)).setOrd a (cnt + 1)).setLow a (cnt + 1)).setOpn a true
  have K1 := ((((Kept.refl K rv wv w).set 5 (by decide) 0 (.int .i64 ((cnt + 1 : Nat) : Int))).set 6 (by decide) a (.int .i64 ((cnt + 1 : Nat) : Int))).set 7 (by decide) a (.int .i64 ((cnt + 1 : Nat) : Int))).set 9 (by decide) a (.bool true)
  have ec : ((cnt + 1 : Nat) : Int) = (cnt : Int) + 1 := by omega
  rw [ec] at M1 K1
  have HM := hide M1
  have HK := hide K1
  clear M1 K1 ec h
  go_enter Try.func8, Try.ntmps8
  go_wp2
  go_region
  go_upto_region 3 with fail
  have M2 := (unhide HM).drew
  have K2 := (unhide HK).drew
  clear HM HK c5 f5 c0 c1 c2 r6 r7 r9 f6 f7 f9
  generalize hw1 : World.drew _ = w1 at M2 K2 ⊢
  clear hw1
  have c3 := cell_of_one M2.obr
  have f3 := free_of_one M2.obr
  have c4 := cell_of_one M2.obw
  have hmx : (512 : Nat) + 1 ≤ maxLen := by unfold maxLen; omega
  have o2 := M2.owr
  have b2 := M2.sz
  have HM2 := hide M2
  clear M2
  obtain ⟨ra, rc, rfl⟩ := own_slice o2
  go_wp2_with (at_builtin; refine wpList_push _ rfl (.tmp 21) (.tmp 23) 24 rfl K.base 3 (.int .i64 0) 8 Try.underlying24 Try.info3 rfl _ _ _ rfl (o2.alloc _) ⟨w1.heap.size, 0, none⟩ 1 1 [ival a] rfl (by decide) rfl (cell_one_new _ _ _) (ival_one a) (by omega) (by omega) (by simp; omega) ?_)
  intro v' w2 ho hg hn'
  have M3 := (unhide HM2).alloc (.cells #[.int .i64 (a : Int)] 3)
  have bx := M3.boxR hg
  have c3' := cell_of_one bx
  have f3' := free_of_one bx
  have M4 := M3.setReached (rl' := rl ++ [a]) hg (by simpa using ho) (by simpa using hn')
  have K4 := (K2.alloc (.cells #[.int .i64 (a : Int)] 3)).grownR (rv2 := v') hg (by simpa using hn')
  have K5 := K4.set 3 (by decide) 0 v'
  obtain ⟨va, vc, rfl⟩ := own_slice ho
  have HM4 := hide M4
  have HK5 := hide K5
  clear M4 K4 K5 M3 HM2 K2 ho hg hn' bx c3 f3 c4 o2 b2
  go_upto_region 4 with fail
  have M5 := unhide HM4
  have K6 := unhide HK5
  clear HM4 HK5 c3' f3'
  generalize hw1 : World.setCell _ _ _ = w3 at M5 K6 ⊢
  clear hw1
  have c4 := cell_of_one M5.obw
  have o4 := M5.oww
  have b4 := M5.sz
  have HM5 := hide M5
  clear M5
  obtain ⟨wa, wc, rfl⟩ := own_slice o4
  go_wp2_with (at_builtin; refine wpList_push _ rfl (.tmp 25) (.tmp 27) 24 rfl K.base 3 (.int .i64 0) 8 Try.underlying24 Try.info3 rfl _ _ _ rfl (o4.alloc _) ⟨w3.heap.size, 0, none⟩ 1 1 [ival a] rfl (by decide) rfl (cell_one_new _ _ _) (ival_one a) (by omega) (by omega) (by simp; omega) ?_)
  intro v2 w4 ho hg hn'
  have M3 := (unhide HM5).alloc (.cells #[.int .i64 (a : Int)] 3)
  have bx := M3.boxW hg
  have c3' := cell_of_one bx
  have f3' := free_of_one bx
  have M4 := M3.setWalk (wl' := wl ++ [a]) hg (by simpa using ho) (by simpa using hn')
  have K4 := (K6.alloc (.cells #[.int .i64 (a : Int)] 3)).grownW (wv2 := v2) hg (by simpa using hn')
  have K5 := K4.set 4 (by decide) 0 v2
  obtain ⟨va2, vc2, rfl⟩ := own_slice ho
  have HM4 := hide M4
  have HK5 := hide K5
  clear M4 K4 K5 M3 HM5 K6 ho hg hn' bx c4 o4 b4
  go_wp2
  go_end0
  exact ⟨rfl, _, _, unhide HM4, unhide HK5⟩
end Go.Proofs.Qxb6617531a
