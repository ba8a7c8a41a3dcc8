import Derived.Test.Qxb6617569aM
import Derived.StillTailTactics
namespace Go.Proofs.Qxb6617569a
open Go.RowKit
set_option linter.unusedVariables false

theorem Try.mixed : Try.prog.follows .mixedOrders = true := by kernel_rfl
theorem Try.info26 : (Try.prog.info? 26).map (fun i => (i.zero, i.size, i.bytes)) = some (some (.agg #[.int .u64 0, .int .u64 0]), 2, 16) := by kernel_rfl

def upd (T : Nat → Int) (k : Nat) (x : Int) (i : Nat) : Int := if i = k then x else T i
/-- what cell j of a row of stamps holds -/
def St (T M : Nat → Int) (j : Nat) : Value := .int .u64 (if j % 2 = 0 then T (j / 2) else M (j / 2))
theorem St_even (T M : Nat → Int) (i : Nat) : St T M (i * 2) = .int .u64 (T i) := by
  unfold St
  rw [if_pos (by omega), show i * 2 / 2 = i by omega]
theorem St_odd (T M : Nat → Int) (i : Nat) : St T M (i * 2 + 1) = .int .u64 (M i) := by
  unfold St
  rw [if_neg (by omega), show (i * 2 + 1) / 2 = i by omega]
/-- block b is a row of cap stamps -/
def Row (w : World) (b cap : Nat) (T M : Nat → Int) : Prop := w.rowIs b 26 (cap * 2) (St T M)
section
variable {w w' : World} {b cap : Nat} {T M T' M' : Nat → Int}
theorem Row.c0 (h : Row w b cap T M) {i : Nat} (hi : i < cap) : w.cell? ⟨b, i * 2, none⟩ = some (.int .u64 (T i)) := by
  rw [World.rowIs.cell h (by omega), St_even]
theorem Row.c1 (h : Row w b cap T M) {i : Nat} (hi : i < cap) : w.cell? ⟨b, i * 2 + 1, none⟩ = some (.int .u64 (M i)) := by
  rw [World.rowIs.cell h (by omega), St_odd]
theorem Row.pairs (h : Row w b cap T M) {n : Nat} (hn : n ≤ cap) : Pairs w (some ⟨b, 0, none⟩) n T M := fun i hi =>
  ⟨b, 0, rfl, by rw [Nat.zero_add]; exact h.c0 (by omega), by rw [Nat.zero_add]; exact h.c1 (by omega)⟩
theorem Row.of_block (h : Row w b cap T M) (e : w'.heap[b]? = w.heap[b]?) : Row w' b cap T M := World.rowIs.of_block h e
theorem Row.lt (h : Row w b cap T M) : b < w.heap.size := World.rowIs.lt h
theorem Row.congr (h : Row w b cap T M) (e : ∀ i, i < cap → T i = T' i ∧ M i = M' i) : Row w b cap T' M' := by
  refine World.rowIs.congr h fun j hj => ?_
  have := e (j / 2) (by omega)
  unfold St
  rw [this.1, this.2]
theorem Row.set (h : Row w b cap T M) (i : Nat) (x y : Int) : Row ((w.setCell ⟨b, i * 2, none⟩ (.int .u64 x)).setCell ⟨b, i * 2 + 1, none⟩ (.int .u64 y)) b cap (upd T i x) (upd M i y) := by
  refine ((World.rowIs.set h (i * 2) _).set (i * 2 + 1) _).congr fun j hj => ?_
  unfold St upd
  by_cases e1 : j = i * 2 + 1
  · subst e1
    rw [if_pos rfl, if_neg (by omega), if_pos (by omega)]
  · rw [if_neg e1]
    by_cases e2 : j = i * 2
    · subst e2
      rw [if_pos rfl, if_pos (by omega), if_pos (by omega)]
    · rw [if_neg e2]
      by_cases e3 : j % 2 = 0
      · rw [if_pos e3, if_pos e3, if_neg (by omega)]
      · rw [if_neg e3, if_neg e3, if_neg (by omega)]
theorem Row.alloc (h : Row w b cap T M) (o : Obj) : Row (w.alloc o) b cap T M := World.rowIs.alloc h o
theorem Row.drew (h : Row w b cap T M) : Row w.drew b cap T M := h
theorem row_made (w : World) (n : Nat) : Row (w.alloc (.cells (madeCells #[.int .u64 0, .int .u64 0] (n * 2)) 26)) w.heap.size n (fun _ => 0) (fun _ => 0) := by
  refine ⟨_, heap_alloc_new w _, size_madeCells _ _, fun i hi => ?_⟩
  have h2 : i % 2 = 0 ∨ i % 2 = 1 := by omega
  simp only [madeCells, St]
  rw [Array.getElem?_map]
  simp [hi]
  rcases h2 with e | e <;> simp [e]
end
theorem run_make_stamps (l c : Nat) (hl : l ≤ c) (h : c ≤ 1048576) (w : World) :
    (Instr.makeSlice 27 (.int .i64 (l : Int)) (.int .i64 (c : Int))).run Try.prog w = .ok (.slice (some ⟨w.heap.size, 0, none⟩) l c) (w.alloc (.cells (madeCells #[.int .u64 0, .int .u64 0] (c * 2)) 26)) := by
  obtain ⟨i, hi, hzz⟩ := Option.map_eq_some_iff.1 Try.info26
  simp only [Prod.mk.injEq] at hzz
  obtain ⟨hz, hs, hb⟩ := hzz
  have hr := run_make (P := Try.prog) w 27 26 i _ Try.underlying27 hi hz .i64 .i64 l c (by omega) (by omega) (by rw [hb]; omega) (by omega)
  simp only [Int.toNat_natCast, hs] at hr
  exact hr

set_option maxRecDepth 100000 in
theorem stamps_any (a : Option Addr) (n c : Nat) (T M : Nat → Int) (w : World) (h : Pairs w a n T M) (hn : n ≤ 65536) :
    Calls Try.prog 8 #[.slice a n c] w fun e w' => e = .returned (.slice (some ⟨w.heap.size, 0, none⟩) n n) ∧ Row w' w.heap.size n T M ∧ Below w.heap.size w w' := by
  have H := hide h
  clear h
  have hmk := run_make_stamps n n (Nat.le_refl _) (by omega)
  go_enter Try.func8, Try.ntmps8
  go_wp2
  go_loopw [4] (fun i wr => ∃ (r : Nat) (T1 M1 : Nat → Int), r ≤ n ∧ i = .int .i64 r ∧ Row wr w.heap.size n T1 M1 ∧ (∀ i', i' < r → T1 i' = T i' ∧ M1 i' = M i') ∧ Below w.heap.size w wr) (fun i _ => n - (intOf i).toNat)
  case atStart => exact ⟨0, _, _, Nat.zero_le _, rfl, row_made w n, fun i' hi => absurd hi (Nat.not_lt_zero i'), (Below.refl _ _).alloc (Nat.le_refl _) _⟩
  case round =>
    obtain ⟨r, T1, M1, hr, rfl, hrow, hf, hbel⟩ := hrel
    have HF := hide hf
    clear hf
    by_cases hlt : r < n
    · obtain ⟨b0, o0, rfl, h1, h2⟩ := unhide H r hlt
      have c1 : wr.cell? ⟨b0, o0 + r * 2, none⟩ = some (.int .u64 (T r)) := by rw [hbel.cell (p := ⟨b0, o0 + r * 2, none⟩) (World.block_lt_of_cell? w _ h1)]; exact h1
      have c2 : wr.cell? ⟨b0, o0 + r * 2 + 1, none⟩ = some (.int .u64 (M r)) := by rw [hbel.cell (p := ⟨b0, o0 + r * 2 + 1, none⟩) (World.block_lt_of_cell? w _ h2)]; exact h2
      have s0 := hrow.c0 hlt
      have s1 := hrow.c1 hlt
      have f0 := World.rowIs.frozen hrow (r * 2)
      have f1 := World.rowIs.frozen hrow (r * 2 + 1)
      have HROW := hide hrow
      have HBEL := hide hbel
      clear hrow hbel h1 h2
      go_wp2
      go_still_tail 14, Try.mixed
      rw [World.drew_eq wr]
      go_wp2
      go_roundw
      case rel =>
        refine ⟨r + 1, _, _, by omega, by go_num, ((unhide HROW).set r (T r) (M r)).drew, fun i' hi' => ?_, (((unhide HBEL).setCell (Nat.le_refl _) _).setCell (Nat.le_refl _) _).drew⟩
        unfold upd
        by_cases e : i' = r
        · subst e; simp
        · rw [if_neg e, if_neg e]
          exact unhide HF i' (by omega)
      case measure => simp [intOf]; omega
    · have HALL := hide (And.intro (hrow.congr (T' := T) (M' := M) fun i hi => unhide HF i (by omega)) hbel)
      clear hrow hbel
      go_wp2
      go_ret
      exact ⟨rfl, (unhide HALL).1, (unhide HALL).2⟩

set_option maxRecDepth 100000 in
theorem clone_any (a : Option Addr) (n c : Nat) (T M : Nat → Int) (w : World) (h : Pairs w a n T M) (hn : n ≤ 65536) :
    Calls Try.prog 11 #[.slice a n c] w fun e w' => e = .returned (.slice (some ⟨w.heap.size, 0, none⟩) n n) ∧ Row w' w.heap.size n T M ∧ Below w.heap.size w w' := by
  have H := hide h
  clear h
  have hmk := run_make_stamps n n (Nat.le_refl _) (by omega)
  go_enter Try.func11, Try.ntmps11
  go_wp2
  go_loopw [4] (fun i wr => ∃ (r : Nat) (T1 M1 : Nat → Int), r ≤ n ∧ i = .int .i64 r ∧ Row wr w.heap.size n T1 M1 ∧ (∀ i', i' < r → T1 i' = T i' ∧ M1 i' = M i') ∧ Below w.heap.size w wr) (fun i _ => n - (intOf i).toNat)
  case atStart => exact ⟨0, _, _, Nat.zero_le _, rfl, row_made w n, fun i' hi => absurd hi (Nat.not_lt_zero i'), (Below.refl _ _).alloc (Nat.le_refl _) _⟩
  case round =>
    obtain ⟨r, T1, M1, hr, rfl, hrow, hf, hbel⟩ := hrel
    have HF := hide hf
    clear hf
    by_cases hlt : r < n
    · obtain ⟨b0, o0, rfl, h1, h2⟩ := unhide H r hlt
      have c1 : wr.cell? ⟨b0, o0 + r * 2, none⟩ = some (.int .u64 (T r)) := by rw [hbel.cell (p := ⟨b0, o0 + r * 2, none⟩) (World.block_lt_of_cell? w _ h1)]; exact h1
      have c2 : wr.cell? ⟨b0, o0 + r * 2 + 1, none⟩ = some (.int .u64 (M r)) := by rw [hbel.cell (p := ⟨b0, o0 + r * 2 + 1, none⟩) (World.block_lt_of_cell? w _ h2)]; exact h2
      have s0 := hrow.c0 hlt
      have s1 := hrow.c1 hlt
      have f0 := World.rowIs.frozen hrow (r * 2)
      have f1 := World.rowIs.frozen hrow (r * 2 + 1)
      have HROW := hide hrow
      have HBEL := hide hbel
      clear hrow hbel h1 h2
      go_wp2
      go_roundw
      case rel =>
        refine ⟨r + 1, _, _, by omega, by go_num, (unhide HROW).set r (T r) (M r), fun i' hi' => ?_, ((unhide HBEL).setCell (Nat.le_refl _) _).setCell (Nat.le_refl _) _⟩
        unfold upd
        by_cases e : i' = r
        · subst e; simp
        · rw [if_neg e, if_neg e]
          exact unhide HF i' (by omega)
      case measure => simp [intOf]; omega
    · have HALL := hide (And.intro (hrow.congr (T' := T) (M' := M) fun i hi => unhide HF i (by omega)) hbel)
      clear hrow hbel
      go_wp2
      go_ret
      exact ⟨rfl, (unhide HALL).1, (unhide HALL).2⟩
end Go.Proofs.Qxb6617569a
