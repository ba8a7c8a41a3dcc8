import Derived.Test.Qxb6617558aMp
import Derived.Test.Qxb6617558aFl
namespace Go.Proofs.Qxb6617558a
open Go.RowKit
set_option linter.unusedVariables false
@[go_sem] theorem run_store_float {P : Program} {w : World} {a : Addr} {m : Mode} (k : FloatKind) (n : Nat) : (store a (.float k n) m).run P w = stored P w a (.float k n) m := run_store P w a _ m rfl
/-- alike, or both no numbers -/
def FEq (r x : Nat) : Prop := FloatKind.f64.format.order r x = some .eq ∨ (¬ FloatKind.f64.format.order r r = some .eq ∧ ¬ FloatKind.f64.format.order x x = some .eq)
set_option maxRecDepth 100000 in
theorem feq_any (r x : Nat) (w : World) (h : FEq r x) : Calls Try.prog 28 #[.float .f64 r, .float .f64 x] w fun e w' => e = .returned (.bool true) ∧ w' = w := by
  by_cases h0 : FloatKind.f64.format.order r x = some .eq
  · have h1 : (FloatKind.f64.format.order r x == some .eq) = true := by simp [h0]
    clear h h0
    go_enter Try.func28, Try.ntmps28
    go_wp2
    go_ret
    exact ⟨rfl, rfl⟩
  · have h1 : (FloatKind.f64.format.order r x == some .eq) = false := by simp [h0]
    have h2 : (FloatKind.f64.format.order r r != some .eq) = true := by
      rcases h with h | h
      · exact absurd h h0
      · simp [h.1]
    have h3 : (FloatKind.f64.format.order x x != some .eq) = true := by
      rcases h with h | h
      · exact absurd h h0
      · simp [h.2]
    clear h h0
    go_enter Try.func28, Try.ntmps28
    go_wp2
    go_ret
    exact ⟨rfl, rfl⟩
theorem order_nan (x : Nat) (h : (Ieee.double.read x).isNaN = true) : ¬ FloatKind.f64.format.order x x = some .eq := by
  show ¬ (Ieee.double.order x x = some .eq)
  unfold Ieee.Format.order
  revert h
  cases Ieee.double.read x <;> simp [Ieee.Datum.isNaN, Ieee.Datum.order]
/-- what an addition to nought draws where there is no number -/
def nanOf (p : Nat) (W : World) : Nat := (Question.nanBits .f64 0 p).cut (W.tape W.drawn (Question.nanBits .f64 0 p))
theorem nan_read (p : Nat) (W : World) : (Ieee.double.read (nanOf p W)).isNaN = true ∧ nanOf p W < 18446744073709551616 := by
  unfold nanOf
  generalize W.tape W.drawn (Question.nanBits .f64 0 p) = t
  simp only [Question.cut]
  generalize hq : (t / 2) % (2 ^ 52 - 1) = q
  generalize ht : t % 2 = s
  have h1 : q < 4503599627370495 := by omega
  have h2 : s < 2 := by omega
  rw [read_eq]
  have e1 : (s * 2 ^ 63 + 0x7ff0000000000000 + 1 + q) % 9223372036854775808 = 0x7ff0000000000000 + 1 + q := by omega
  rw [e1, if_neg (by omega), if_neg (by omega), if_neg (by omega)]
  exact ⟨rfl, by omega⟩
theorem fadd_run (p : Nat) (hp : p < 18446744073709551616) : (∃ r, FEq r p ∧ r < 18446744073709551616 ∧ ∀ W, (binOp .add 39 (.float .f64 0) (.float .f64 p)).run Try.prog W = .ok (.float .f64 r) W) ∨
    ((∀ W, FEq (nanOf p W) p) ∧ ∀ W, (binOp .add 39 (.float .f64 0) (.float .f64 p)).run Try.prog W = .ok (.float .f64 (nanOf p W)) W.drew) := by
  rcases zero_add p hp with ⟨h1, h2⟩ | ⟨r, h1, h2, h3⟩
  · right
    have h1 : FloatKind.f64.format.add 0 p = none := h1
    refine ⟨fun W => Or.inr ⟨order_nan _ (nan_read p W).1, order_nan _ h2⟩, fun W => ?_⟩
    simp [binOp, Op.floatArith, h1]
    rfl
  · left
    have h1 : FloatKind.f64.format.add 0 p = some r := h1
    refine ⟨r, Or.inl h2, h3, fun W => ?_⟩
    simp [binOp, Op.floatArith, h1]

/-- w' is w but for block g and new blocks; in block g the row f has turned into f' -/
structure Turn (g : Nat) (w w' : World) (T : (Nat → Value) → Nat → Value) : Prop where
  grown : w.grownBy w' (some g)
  row : ∀ t n f, w.rowIs g t n f → w'.rowIs g t n (T f)
theorem Turn.refl (g : Nat) (w : World) : Turn g w w id := ⟨⟨rfl, rfl, rfl, Nat.le_refl _, fun _ _ _ => rfl⟩, fun _ _ _ h => h⟩
theorem Turn.set {g : Nat} {w w' : World} {T : (Nat → Value) → Nat → Value} (h : Turn g w w' T) (i : Nat) (v : Value) : Turn g w (w'.setCell ⟨g, i, none⟩ v) (fun f => upd (T f) i v) :=
  ⟨⟨h.grown.os, h.grown.tape, h.grown.output, by have := h.grown.size; simpa using this, fun k hk hne => (Below.heap_setCell w' ⟨g, i, none⟩ v k (fun e => hne (by rw [e]))).trans (h.grown.block k hk hne)⟩, fun t n f hf => World.rowIs.set (h.row t n f hf) i v⟩
theorem Turn.alloc {g : Nat} {w w' : World} {T : (Nat → Value) → Nat → Value} (h : Turn g w w' T) (o : Obj) : Turn g w (w'.alloc o) T :=
  ⟨⟨h.grown.os, h.grown.tape, h.grown.output, by have := h.grown.size; simp; omega, fun k hk hne => (Below.heap_alloc w' o k (Nat.lt_of_lt_of_le hk h.grown.size)).trans (h.grown.block k hk hne)⟩, fun t n f hf => World.rowIs.alloc (h.row t n f hf) o⟩
theorem Turn.drew {g : Nat} {w w' : World} {T : (Nat → Value) → Nat → Value} (h : Turn g w w' T) : Turn g w w'.drew T := ⟨⟨h.grown.os, h.grown.tape, h.grown.output, h.grown.size, h.grown.block⟩, h.row⟩
theorem Turn.trans {g : Nat} {w w' w'' : World} {T T' : (Nat → Value) → Nat → Value} (h : Turn g w w' T) (k : Turn g w' w'' T') : Turn g w w'' (fun f => T' (T f)) :=
  ⟨⟨k.grown.os.trans h.grown.os, k.grown.tape.trans h.grown.tape, k.grown.output.trans h.grown.output, Nat.le_trans h.grown.size k.grown.size, fun j hj hne => (k.grown.block j (Nat.lt_of_lt_of_le hj h.grown.size) hne).trans (h.grown.block j hj hne)⟩, fun t n f hf => k.row t n _ (h.row t n f hf)⟩

def SumTurn (g o p s : Nat) (w w' : World) : Prop := ∃ r1 r2, FEq r1 p ∧ FEq r2 s ∧ Turn g w w' fun f => upd (upd f o (.float .f64 r1)) (o + 1) (.float .f64 r2)
set_option maxRecDepth 100000 in
theorem summerge_any (g o p s : Nat) (w : World) (h0 : w.cell? ⟨g, o, none⟩ = some (.float .f64 0)) (h1 : w.cell? ⟨g, o + 1, none⟩ = some (.float .f64 0)) (f0 : w.frozen? ⟨g, o, none⟩ = false) (f1 : w.frozen? ⟨g, o + 1, none⟩ = false) (hp : p < 18446744073709551616) (hs : s < 18446744073709551616) :
    Calls Try.prog 34 #[.pointer (some ⟨g, o, none⟩), .agg #[.float .f64 p, .float .f64 s]] w fun e w' => e = .returned (.tuple #[]) ∧ SumTurn g o p s w w' := by
  have hlt : g < w.heap.size := World.block_lt_of_cell? w _ h0
  go_enter Try.func34, Try.ntmps34
  go_upto_region 1 with fail
  generalize hwk : World.alloc w _ = wk
  have HT : Hid (Turn g w wk id) := by rw [← hwk]; exact (Turn.refl g w).alloc _
  have c0 : wk.cell? ⟨g, o, none⟩ = some (.float .f64 0) := by rw [← hwk, World.cell?_alloc_past _ _ _ hlt]; exact h0
  have c1 : wk.cell? ⟨g, o + 1, none⟩ = some (.float .f64 0) := by rw [← hwk, World.cell?_alloc_past _ _ _ hlt]; exact h1
  have k0 : wk.frozen? ⟨g, o, none⟩ = false := by rw [← hwk, World.frozen?_alloc_past _ _ _ hlt]; exact f0
  have k1 : wk.frozen? ⟨g, o + 1, none⟩ = false := by rw [← hwk, World.frozen?_alloc_past _ _ _ hlt]; exact f1
  have b0 : wk.cell? ⟨w.heap.size, 0, none⟩ = some (.float .f64 p) := by rw [← hwk]; simp
  have b1 : wk.cell? ⟨w.heap.size, 1, none⟩ = some (.float .f64 s) := by rw [← hwk]; simp
  have hgb : (w.heap.size = g) = False := by simp; omega
  clear hwk h0 h1 f0 f1
  generalize w.heap.size = B at hlt b0 b1 hgb ⊢
  rcases fadd_run p hp with ⟨r1, e1, _, a1⟩ | ⟨e1, a1⟩
  · rcases fadd_run s hs with ⟨r2, e2, _, a2⟩ | ⟨e2, a2⟩
    · have E1 := hide e1
      have E2 := hide e2
      clear e1 e2 hp hs
      go_region
      go_wp2
      go_region
      go_wp2
      go_end0
      refine ⟨rfl, _, _, ?_, ?_, ((((unhide HT).set o _).set (o + 1) _).drew).drew⟩
      · exact unhide E1
      · exact unhide E2
    · have E1 := hide e1
      have E2 := hide e2
      clear e1 e2 hp hs
      go_region
      go_wp2
      go_region
      go_wp2
      go_end0
      refine ⟨rfl, _, _, ?_, ?_, (((((unhide HT).set o _).set (o + 1) _).drew).drew).drew⟩
      · exact unhide E1
      · exact unhide E2 _
  · rcases fadd_run s hs with ⟨r2, e2, _, a2⟩ | ⟨e2, a2⟩
    · have E1 := hide e1
      have E2 := hide e2
      clear e1 e2 hp hs
      go_region
      go_wp2
      go_region
      go_wp2
      go_end0
      refine ⟨rfl, _, _, ?_, ?_, (((((unhide HT).set o _).set (o + 1) _).drew).drew).drew⟩
      · exact unhide E1 _
      · exact unhide E2
    · have E1 := hide e1
      have E2 := hide e2
      clear e1 e2 hp hs
      go_region
      go_wp2
      go_region
      go_wp2
      go_end0
      refine ⟨rfl, _, _, ?_, ?_, ((((((unhide HT).set o _).set (o + 1) _).drew).drew).drew).drew⟩
      · exact unhide E1 _
      · exact unhide E2 _
end Go.Proofs.Qxb6617558a
