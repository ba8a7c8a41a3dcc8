import Derived.Test.Qxb6617569aA
namespace Go.Proofs.Qxb6617569a
open Go.RowKit
set_option linter.unusedVariables false

/-- a list of stamps, told by its two functions -/
def At (l : List (Int × Int)) (T M : Nat → Int) : Prop := ∀ j, j < l.length → l[j]? = some (T j, M j)
def keep (id : Int) (l : List (Int × Int)) : List (Int × Int) := l.filter fun p => p.2 != id
theorem At.push {l : List (Int × Int)} {T M : Nat → Int} (h : At l T M) (x y : Int) : At (l ++ [(x, y)]) (upd T l.length x) (upd M l.length y) := by
  intro j hj
  unfold upd
  by_cases e : j = l.length
  · subst e
    rw [if_pos rfl, if_pos rfl, List.getElem?_append_right (Nat.le_refl _), Nat.sub_self]
    rfl
  · simp at hj
    rw [if_neg e, if_neg e, List.getElem?_append_left (by omega)]
    exact h j (by omega)
theorem keep_take {id : Int} {l : List (Int × Int)} {i : Nat} {x y : Int} (h : l[i]? = some (x, y)) : keep id (l.take (i + 1)) = keep id (l.take i) ++ (if y = id then [] else [(x, y)]) := by
  unfold keep
  rw [List.take_add_one, h, List.filter_append]
  congr 1
  by_cases e : y = id
  · simp [e]
  · simp [e]
theorem keep_le (id : Int) (l : List (Int × Int)) (i : Nat) : (keep id (l.take i)).length ≤ i := by
  have h1 := List.length_filter_le (fun p : Int × Int => p.2 != id) (l.take i)
  have h2 := List.length_take (i := i) (l := l)
  unfold keep
  omega

/-- what a step leaves of all but the blocks g and L -/
structure Fr (g L : Nat) (w w' : World) : Prop where
  os : w'.os = w.os
  tape : w'.tape = w.tape
  output : w'.output = w.output
  size : w.heap.size ≤ w'.heap.size
  block : ∀ k, k < w.heap.size → k ≠ g → k ≠ L → w'.heap[k]? = w.heap[k]?
section
variable {g L : Nat} {w a : World}
theorem Fr.refl (g L : Nat) (w : World) : Fr g L w w := ⟨rfl, rfl, rfl, Nat.le_refl _, fun _ _ _ _ => rfl⟩
theorem Fr.drew (h : Fr g L a w) : Fr g L a w.drew := ⟨h.os, h.tape, h.output, h.size, h.block⟩
theorem Fr.alloc (h : Fr g L a w) (o : Obj) : Fr g L a (w.alloc o) :=
  ⟨h.os, h.tape, h.output, by have := h.size; simp; omega, fun k hk h1 h2 => (Below.heap_alloc w o k (Nat.lt_of_lt_of_le hk h.size)).trans (h.block k hk h1 h2)⟩
theorem Fr.setNew (h : Fr g L a w) {p : Addr} (hp : a.heap.size ≤ p.block) (u : Value) : Fr g L a (w.setCell p u) :=
  ⟨h.os, h.tape, h.output, by have := h.size; simpa using this, fun k hk h1 h2 => (Below.heap_setCell w p u k (by omega)).trans (h.block k hk h1 h2)⟩
theorem Fr.below (h : Fr g g a w) (hg : g ≤ a.heap.size) : Below g a w := ⟨h.os, h.tape, h.output, h.size, fun k hk => h.block k (Nat.lt_of_lt_of_le hk hg) (Nat.ne_of_lt hk) (Nat.ne_of_lt hk)⟩
theorem Fr.setCell (h : Fr g L a w) {p : Addr} (hp : p.block = g ∨ p.block = L) (u : Value) : Fr g L a (w.setCell p u) :=
  ⟨h.os, h.tape, h.output, by have := h.size; simpa using this, fun k hk h1 h2 => (Below.heap_setCell w p u k (by rcases hp with e | e <;> rw [e] <;> assumption)).trans (h.block k hk h1 h2)⟩
end

/-- a lock in memory: the open request's two numbers and the queue -/
def lockf (ot om : Int) (v : Value) (j : Nat) : Value := if j = 0 then .int .u64 ot else if j = 1 then .int .u64 om else v
def Lock (w : World) (L : Nat) (ot om : Int) (v : Value) : Prop := w.rowIs L 38 3 (lockf ot om v)
theorem Lock.c0 {w : World} {L : Nat} {ot om : Int} {v : Value} (h : Lock w L ot om v) : w.cell? ⟨L, 0, none⟩ = some (.int .u64 ot) := World.rowIs.cell h (by decide)
theorem Lock.c1 {w : World} {L : Nat} {ot om : Int} {v : Value} (h : Lock w L ot om v) : w.cell? ⟨L, 1, none⟩ = some (.int .u64 om) := World.rowIs.cell h (by decide)
theorem Lock.c2 {w : World} {L : Nat} {ot om : Int} {v : Value} (h : Lock w L ot om v) : w.cell? ⟨L, 2, none⟩ = some v := World.rowIs.cell h (by decide)
theorem Lock.set {w : World} {L : Nat} {ot om : Int} {v : Value} (h : Lock w L ot om v) (u : Value) : Lock (w.setCell ⟨L, 2, none⟩ u) L ot om u := by
  refine (World.rowIs.set h 2 u).congr fun j hj => ?_
  unfold lockf
  by_cases e : j = 2
  · subst e; simp
  · rw [if_neg e]
    by_cases e0 : j = 0
    · simp [e0]
    · have e1 : j = 1 := by omega
      simp [e1]

set_option maxRecDepth 100000 in
theorem forget_any (L g cap : Nat) (ot om id : Int) (l : List (Int × Int)) (T M : Nat → Int) (w : World) (hL : Lock w L ot om (.slice (some ⟨g, 0, none⟩) l.length cap)) (hrow : Row w g cap T M) (hat : At l T M) (hlc : l.length ≤ cap) (hcap : cap ≤ 1048576) (hgL : g < L) :
    Calls Try.prog 12 #[.pointer (some ⟨L, 0, none⟩), .int .u64 id] w fun e w' => e = .returned (.tuple #[]) ∧
      (Lock w' L ot om (.slice (some ⟨g, 0, none⟩) (keep id l).length cap) ∧ ∃ T' M', Row w' g cap T' M' ∧ At (keep id l) T' M' ∧ Fr g L w w') := by
  have hLl := World.rowIs.lt hL
  have hLg : L ≠ g := by omega
  have c2 := hL.c2
  have HL := hide hL
  have H := hide hrow
  have HA := hide hat
  clear hrow hat hL
  go_enter Try.func12, Try.ntmps12
  go_wp2
  go_loopw [4, 17] (fun v i wr => ∃ (r kk : Nat) (T1 M1 : Nat → Int), r ≤ l.length ∧ kk = (keep id (l.take r)).length ∧ v = .slice (some ⟨g, 0, none⟩) kk cap ∧ i = .int .i64 r ∧ Row wr g cap T1 M1 ∧ At (keep id (l.take r)) T1 M1 ∧ (∀ j, r ≤ j → j < l.length → l[j]? = some (T1 j, M1 j)) ∧ Lock wr L ot om (.slice (some ⟨g, 0, none⟩) l.length cap) ∧ Fr g L w wr) (fun _ i _ => l.length - (intOf i).toNat)
  case atStart => exact ⟨0, 0, T, M, Nat.zero_le _, by simp [keep], rfl, rfl, unhide H, fun j hj => absurd hj (by simp [keep]), fun j _ hj => unhide HA j hj, unhide HL, Fr.refl _ _ _⟩
  case round =>
    obtain ⟨r, kk, T1, M1, hr, hkk, rfl, rfl, hrow, hat, hrest, hlock, hfr⟩ := hrel
    clear HL H c2
    have hkr : kk ≤ r := by rw [hkk]; exact keep_le id l r
    have HKK := hide hkk
    have HAT := hide hat
    have HREST := hide hrest
    have hgl := hrow.lt
    have hll := World.rowIs.lt hlock
    have HROW := hide hrow
    have HLOCK := hide hlock
    have HFR := hide hfr
    clear hkk hat hrest hlock hfr
    by_cases hlt : r < l.length
    · have c0 := hrow.c0 (i := r) (by omega)
      have c1 := hrow.c1 (i := r) (by omega)
      have hget := unhide HREST r (Nat.le_refl _) hlt
      have hstep := keep_take (id := id) hget
      have HSTEP := hide hstep
      clear hstep hget
      by_cases hid : M1 r = id
      · have hd : (M1 r != id) = false := by simp [hid]
        have HID := hide hid
        clear hrow hid
        go_wp2
        refine ⟨⟨r + 1, kk, T1, M1, by omega, ?_, rfl, by go_num, (unhide HROW).alloc _, ?_, fun j h1 h2 => unhide HREST j (by omega) h2, World.rowIs.alloc (unhide HLOCK) _, (unhide HFR).alloc _⟩, by simp [intOf]; omega⟩
        · rw [unhide HSTEP, if_pos (unhide HID), List.append_nil]; exact unhide HKK
        · rw [unhide HSTEP, if_pos (unhide HID), List.append_nil]; exact unhide HAT
      · have hd : (M1 r != id) = true := by simp [hid]
        have HID := hide hid
        have s0 := hrow.c0 (i := kk) (by omega)
        have s1 := hrow.c1 (i := kk) (by omega)
        have f0 := World.rowIs.frozen hrow (kk * 2)
        have f1 := World.rowIs.frozen hrow (kk * 2 + 1)
        clear hrow hid
        go_wp2
        refine ⟨⟨r + 1, kk + 1, upd T1 kk (T1 r), upd M1 kk (M1 r), by omega, ?_, rfl, by go_num, ((((unhide HROW).set kk (T1 r) (M1 r)).alloc _).alloc _), ?_, fun j h1 h2 => ?_, World.rowIs.alloc (World.rowIs.alloc (World.rowIs.setOther (World.rowIs.setOther (unhide HLOCK) (by exact hLg) _) (by exact hLg) _) _) _, ((((unhide HFR).setCell (Or.inl rfl) _).setCell (Or.inl rfl) _).alloc _).alloc _⟩, by simp [intOf]; omega⟩
        · rw [unhide HSTEP, if_neg (unhide HID), List.length_append, ← unhide HKK]; rfl
        · rw [unhide HSTEP, if_neg (unhide HID), unhide HKK]; exact (unhide HAT).push _ _
        · rw [unhide HREST j (by omega) h2]
          unfold upd
          rw [if_neg (by omega), if_neg (by omega)]
    · have hc2 := (unhide HLOCK).c2
      have hf2 := World.rowIs.frozen (unhide HLOCK) 2
      clear hrow
      go_wp2
      go_end0
      have hrl : r = l.length := by omega
      have e1 : keep id (l.take r) = keep id l := by rw [hrl, List.take_length]
      rw [← e1, ← unhide HKK]
      exact ⟨rfl, (unhide HLOCK).set _, T1, M1, World.rowIs.setOther (unhide HROW) (by exact Ne.symm hLg) _, unhide HAT, (unhide HFR).setCell (Or.inr rfl) _⟩

theorem size_alloc (w : World) (o : Obj) : (w.alloc o).heap.size = w.heap.size + 1 := by simp
theorem lock_new (w : World) (ot om : Int) (v : Value) : Lock (w.alloc (.cells #[.int .u64 ot, .int .u64 om, v] 38)) w.heap.size ot om v := by
  refine World.rowIs_alloc w #[.int .u64 ot, .int .u64 om, v] 38 (lockf ot om v) fun i hi => ?_
  have hi : i < 3 := hi
  have : i = 0 ∨ i = 1 ∨ i = 2 := by omega
  rcases this with rfl | rfl | rfl <;> rfl
theorem pair_new (w : World) (x y : Int) : Row (w.alloc (.cells #[.int .u64 x, .int .u64 y] 26)) w.heap.size 1 (fun _ => x) (fun _ => y) := by
  refine World.rowIs_alloc w #[.int .u64 x, .int .u64 y] 26 (St (fun _ => x) (fun _ => y)) fun i hi => ?_
  have hi : i < 2 := hi
  have : i = 0 ∨ i = 1 := by omega
  rcases this with rfl | rfl <;> rfl

set_option maxRecDepth 100000 in
theorem zzforget_any (g cap : Nat) (ot om id : Int) (l : List (Int × Int)) (T M : Nat → Int) (w : World) (hrow : Row w g cap T M) (hat : At l T M) (hlc : l.length ≤ cap) (hcap : cap ≤ 1048576) :
    Calls Try.prog 7 #[.agg #[.int .u64 ot, .int .u64 om], .slice (some ⟨g, 0, none⟩) l.length cap, .int .u64 id] w fun e w' => e = .returned (.tuple #[.agg #[.int .u64 ot, .int .u64 om], .slice (some ⟨g, 0, none⟩) (keep id l).length cap]) ∧
      ∃ T' M', Row w' g cap T' M' ∧ At (keep id l) T' M' ∧ Fr g g w w' := by
  have hgl := hrow.lt
  have H := hide hrow
  have HA := hide hat
  clear hrow hat
  go_enter Try.func7, Try.ntmps7
  go_wp2_with fail
  have hlk := lock_new ((w.alloc (.cells #[.int .u64 ot, .int .u64 om] 26)).alloc (.cells #[.int .u64 0, .int .u64 0] 26)) ot om (.slice (some ⟨g, 0, none⟩) l.length cap)
  have hr2 := (pair_new (w.alloc (.cells #[.int .u64 ot, .int .u64 om] 26)) 0 0).alloc (.cells #[.int .u64 ot, .int .u64 om, .slice (some ⟨g, 0, none⟩) l.length cap] 38)
  have hro := (((unhide H).alloc (.cells #[.int .u64 ot, .int .u64 om] 26)).alloc (.cells #[.int .u64 0, .int .u64 0] 26)).alloc (.cells #[.int .u64 ot, .int .u64 om, .slice (some ⟨g, 0, none⟩) l.length cap] 38)
  have hb0 : Fr g g w (((w.alloc (.cells #[.int .u64 ot, .int .u64 om] 26)).alloc (.cells #[.int .u64 0, .int .u64 0] 26)).alloc (.cells #[.int .u64 ot, .int .u64 om, .slice (some ⟨g, 0, none⟩) l.length cap] 38)) :=
    (((Fr.refl g g w).alloc _).alloc _).alloc _
  simp only [size_alloc] at hlk hr2
  have CF := forget_any _ g cap ot om id l T M _ hlk hro (unhide HA) hlc hcap (by omega)
  refine CF.mono ?_
  rintro e w2 ⟨rfl, hlk2, T', M', hrow2, hat2, hfr⟩
  have hR2 : Row w2 (w.heap.size + 1) 1 (fun _ => 0) (fun _ => 0) := hr2.of_block (hfr.block _ (by rw [size_alloc, size_alloc, size_alloc]; omega) (by omega) (by omega))
  have hb2 : Fr g g w w2 := ⟨hfr.os.trans hb0.os, hfr.tape.trans hb0.tape, hfr.output.trans hb0.output, Nat.le_trans hb0.size hfr.size, fun k hk h1 h2 => (hfr.block k (by rw [size_alloc, size_alloc, size_alloc]; omega) h1 (by omega)).trans (hb0.block k hk h1 h2)⟩
  have l0 := hlk2.c0
  have l1 := hlk2.c1
  have l2 := hlk2.c2
  have r0 : w2.cell? ⟨w.heap.size + 1, 0, none⟩ = some (.int .u64 0) := hR2.c0 (i := 0) (by decide)
  have r1 : w2.cell? ⟨w.heap.size + 1, 1, none⟩ = some (.int .u64 0) := hR2.c1 (i := 0) (by decide)
  have f0 : w2.frozen? ⟨w.heap.size + 1, 0, none⟩ = false := World.rowIs.frozen hR2 0
  have f1 : w2.frozen? ⟨w.heap.size + 1, 1, none⟩ = false := World.rowIs.frozen hR2 1
  have HROW2 := hide hrow2
  have HAT2 := hide hat2
  have HB2 := hide hb2
  have HR2 := hide hR2
  have hR1 : g < w.heap.size + 1 := by omega
  clear hlk hr2 hro hb0 CF hlk2 hrow2 hat2 hfr hR2 hb2 H HA
  go_wp2
  go_region
  go_wp2
  have q := ((unhide HR2).set 0 ot om).drew
  have q0 : (((w2.setCell ⟨w.heap.size + 1, 0, none⟩ (.int .u64 ot)).setCell ⟨w.heap.size + 1, 1, none⟩ (.int .u64 om)).drew).cell? ⟨w.heap.size + 1, 0, none⟩ = some (.int .u64 ot) := q.c0 (i := 0) (by decide)
  have q1 : (((w2.setCell ⟨w.heap.size + 1, 0, none⟩ (.int .u64 ot)).setCell ⟨w.heap.size + 1, 1, none⟩ (.int .u64 om)).drew).cell? ⟨w.heap.size + 1, 1, none⟩ = some (.int .u64 om) := q.c1 (i := 0) (by decide)
  have q2 : Row (((w2.setCell ⟨w.heap.size + 1, 0, none⟩ (.int .u64 ot)).setCell ⟨w.heap.size + 1, 1, none⟩ (.int .u64 om)).drew) g cap T' M' := World.rowIs.setOther (World.rowIs.setOther (unhide HROW2) (by show g ≠ w.heap.size + 1; omega) _) (by show g ≠ w.heap.size + 1; omega) _
  have q3 : Fr g g w (((w2.setCell ⟨w.heap.size + 1, 0, none⟩ (.int .u64 ot)).setCell ⟨w.heap.size + 1, 1, none⟩ (.int .u64 om)).drew) := (((unhide HB2).setNew (by show w.heap.size ≤ w.heap.size + 1; omega) _).setNew (by show w.heap.size ≤ w.heap.size + 1; omega) _).drew
  clear q
  generalize hwf : World.drew _ = wf at q0 q1 q2 q3 ⊢
  clear hwf
  refine bodyPost_ret (v := .tuple #[.agg #[.int .u64 ot, .int .u64 om], .slice (some ⟨g, 0, none⟩) (keep id l).length cap]) (by simp [results, Try.results7, go_sem, q0, q1]) rfl ⟨rfl, T', M', q2, unhide HAT2, q3⟩
end Go.Proofs.Qxb6617569a
