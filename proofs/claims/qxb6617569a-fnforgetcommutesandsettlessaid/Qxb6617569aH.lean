import Derived.Test.Qxb6617569aL
import Derived.Deep.RegionWith
import Derived.Deep.DeepCutAuto
import Derived.Deep.CutRange
namespace Go.Proofs.Qxb6617569a
open Go.RowKit
set_option linter.unusedVariables false

theorem Pairs.block {w : World} {a : Option Addr} {n : Nat} {T M : Nat → Int} (h : Pairs w a n T M) {g : Nat} (hg : w.heap.size ≤ g) : 0 < n → ∀ p, a = some p → p.block < g := by
  intro hn p hp
  obtain ⟨b, o, rfl, h1, _⟩ := h 0 hn
  cases hp
  have : b < w.heap.size := World.block_lt_of_cell? w _ h1
  show b < g
  omega
/-- one stamp in a block of its own -/
def One (w : World) (p : Nat) (x y : Int) : Prop := Row w p 1 (fun _ => x) (fun _ => y)
section
variable {w w' : World} {p B : Nat} {x y : Int}
theorem One.c0 (h : One w p x y) : w.cell? ⟨p, 0, none⟩ = some (.int .u64 x) := Row.c0 (i := 0) h (by decide)
theorem One.c1 (h : One w p x y) : w.cell? ⟨p, 1, none⟩ = some (.int .u64 y) := Row.c1 (i := 0) h (by decide)
theorem One.f0 (h : One w p x y) : w.frozen? ⟨p, 0, none⟩ = false := World.rowIs.frozen h 0
theorem One.f1 (h : One w p x y) : w.frozen? ⟨p, 1, none⟩ = false := World.rowIs.frozen h 1
theorem One.lt (h : One w p x y) : p < w.heap.size := Row.lt h
theorem One.below (h : One w p x y) (hb : Below B w w') (hp : p < B) : One w' p x y := Row.of_block h (hb.block p hp)
theorem One.of_block (h : One w p x y) (e : w'.heap[p]? = w.heap[p]?) : One w' p x y := Row.of_block h e
theorem one_new (w : World) (x y : Int) : One (w.alloc (.cells #[.int .u64 x, .int .u64 y] 26)) w.heap.size x y := pair_new w x y
theorem One.set (h : One w p x y) (a b : Int) : One ((w.setCell ⟨p, 0, none⟩ (.int .u64 a)).setCell ⟨p, 1, none⟩ (.int .u64 b)) p a b :=
  Row.congr (Row.set h 0 a b) fun i hi => by
    have : i = 0 := by omega
    subst this
    exact ⟨rfl, rfl⟩
end

/-! ### 'forget' of a row that is made by a call of its own, in a statement that draws its order -/
structure Laid (w8 w9 : World) (G n : Nat) (T M : Nat → Int) (p0 : Nat) (ot om : Int) : Prop where
  row : Row w9 G n T M
  o : One w9 p0 ot om
  bel : Below w8.heap.size w8 w9
  hG : w8.heap.size ≤ G
structure Done (w8 w10 : World) (G n : Nat) (l : List (Int × Int)) : Prop where
  row : ∃ TA MA, Row w10 G n TA MA ∧ At l TA MA
  bel : Below w8.heap.size w8 w10
  hG : w8.heap.size ≤ G
  len : l.length ≤ n
/-- what the statement leaves: the open request again, and the row that is left -/
def Half (w8 : World) (ot om : Int) (n : Nat) (l : List (Int × Int)) (s20 s21 : Value) (wx : World) : Prop :=
  ∃ q gA TA MA, s20 = .pointer (some ⟨q, 0, none⟩) ∧ s21 = .slice (some ⟨gA, 0, none⟩) l.length n ∧ One wx q ot om ∧ Row wx gA n TA MA ∧ At l TA MA ∧ Below w8.heap.size w8 wx ∧ w8.heap.size ≤ gA ∧ w8.heap.size ≤ q ∧ l.length ≤ n
def SrcOk (f : Nat) (arg : Value) (w8 : World) (n : Nat) (T M : Nat → Int) : Prop := ∀ W, Below w8.heap.size w8 W → Calls Try.prog f #[arg] W fun e w' => e = .returned (.slice (some ⟨W.heap.size, 0, none⟩) n n) ∧ Row w' W.heap.size n T M ∧ Below W.heap.size W w'
theorem src8 {w8 : World} {a : Option Addr} {n c : Nat} {T M : Nat → Int} (h : Pairs w8 a n T M) (hn : n ≤ 65536) : SrcOk 8 (.slice a n c) w8 n T M := fun W hW => stamps_any a n c T M W (h.below hW) hn
theorem src11 {w8 : World} {a : Option Addr} {n c : Nat} {T M : Nat → Int} (h : Pairs w8 a n T M) (hn : n ≤ 65536) : SrcOk 11 (.slice a n c) w8 n T M := fun W hW => clone_any a n c T M W (h.below hW) hn
section
variable {f : Nat} {arg : Value} {w8 w9 w10 : World} {n p0 G z : Nat} {T M : Nat → Int} {ot om id : Int} {l l0 : List (Int × Int)}
theorem srcA (h : SrcOk f arg w8 n T M) (ho : One w8 p0 ot om) : Calls Try.prog f #[arg] w8.drew fun e w' => e = .returned (.slice (some ⟨w8.heap.size, 0, none⟩) n n) ∧ Laid w8 w' w8.heap.size n T M p0 ot om :=
  (h w8.drew (Below.refl _ _).drew).mono fun e w' ⟨h1, h2, h3⟩ => ⟨h1, h2, (show One w8.drew p0 ot om from ho).below h3 ho.lt, (Below.refl _ _).drew.trans h3, Nat.le_refl _⟩
theorem srcB (h : SrcOk f arg w8 n T M) (ho : One w8 p0 ot om) : Calls Try.prog f #[arg] (w8.alloc (.cells #[.int .u64 0, .int .u64 0] 26)).drew fun e w' => e = .returned (.slice (some ⟨w8.heap.size + 1, 0, none⟩) n n) ∧ Laid w8 w' (w8.heap.size + 1) n T M p0 ot om ∧ One w' w8.heap.size 0 0 := by
  have e1 : (w8.alloc (.cells #[.int .u64 0, .int .u64 0] 26)).drew.heap.size = w8.heap.size + 1 := size_alloc _ _
  have hb : Below w8.heap.size w8 (w8.alloc (.cells #[.int .u64 0, .int .u64 0] 26)).drew := ((Below.refl _ _).alloc (Nat.le_refl _) _).drew
  have h0 := h _ hb
  rw [e1] at h0
  refine h0.mono fun e w' ⟨h1, h2, h3⟩ => ⟨h1, ⟨h2, (One.below ho hb ho.lt).below h3 (Nat.lt_succ_of_lt ho.lt), hb.trans (h3.mono (Nat.le_succ _)), Nat.le_succ _⟩, ?_⟩
  exact (show One (w8.alloc (.cells #[.int .u64 0, .int .u64 0] 26)).drew w8.heap.size 0 0 from one_new w8 0 0).below h3 (Nat.lt_succ_self _)
theorem frAny {W : World} (hb : Below w8.heap.size w8 W) (hG : w8.heap.size ≤ G) (hrow : Row W G n T M) (hat : At l0 T M) (hl0 : l0.length = n) (hl : keep id l0 = l) (hn : n ≤ 1048576) :
    Calls Try.prog 7 #[.agg #[.int .u64 ot, .int .u64 om], .slice (some ⟨G, 0, none⟩) n n, .int .u64 id] W fun e w' => e = .returned (.tuple #[.agg #[.int .u64 ot, .int .u64 om], .slice (some ⟨G, 0, none⟩) l.length n]) ∧ Done w8 w' G n l ∧ Fr G G W w' := by
  have h0 := zzforget_any G n ot om id l0 T M W hrow hat (by omega) hn
  rw [hl0, hl] at h0
  refine h0.mono fun e w' ⟨h1, TA, MA, h2, h3, h4⟩ => ⟨h1, ⟨⟨TA, MA, h2, h3⟩, hb.trans ((h4.below (Nat.le_of_lt hrow.lt)).mono hG), hG, ?_⟩, h4⟩
  rw [← hl, ← hl0]
  exact List.length_filter_le _ _
theorem frA (h : Laid w8 w9 G n T M p0 ot om) (hat : At l0 T M) (hl0 : l0.length = n) (hl : keep id l0 = l) (hn : n ≤ 1048576) :
    Calls Try.prog 7 #[.agg #[.int .u64 ot, .int .u64 om], .slice (some ⟨G, 0, none⟩) n n, .int .u64 id] w9 fun e w' => e = .returned (.tuple #[.agg #[.int .u64 ot, .int .u64 om], .slice (some ⟨G, 0, none⟩) l.length n]) ∧ Done w8 w' G n l :=
  (frAny h.bel h.hG h.row hat hl0 hl hn).mono fun e w' ⟨h1, h2, _⟩ => ⟨h1, h2⟩
theorem frB (h : Laid w8 w9 G n T M p0 ot om) (hz : One w9 z 0 0) (hzG : z ≠ G) (hat : At l0 T M) (hl0 : l0.length = n) (hl : keep id l0 = l) (hn : n ≤ 1048576) :
    Calls Try.prog 7 #[.agg #[.int .u64 ot, .int .u64 om], .slice (some ⟨G, 0, none⟩) n n, .int .u64 id] w9 fun e w' => e = .returned (.tuple #[.agg #[.int .u64 ot, .int .u64 om], .slice (some ⟨G, 0, none⟩) l.length n]) ∧ Done w8 w' G n l ∧ One w' z 0 0 :=
  (frAny h.bel h.hG h.row hat hl0 hl hn).mono fun e w' ⟨h1, h2, h3⟩ => ⟨h1, h2, hz.of_block (h3.block z hz.lt hzG hzG)⟩
theorem frC (h : Laid w8 w9 G n T M p0 ot om) (hat : At l0 T M) (hl0 : l0.length = n) (hl : keep id l0 = l) (hn : n ≤ 1048576) :
    Calls Try.prog 7 #[.agg #[.int .u64 ot, .int .u64 om], .slice (some ⟨G, 0, none⟩) n n, .int .u64 id] (w9.alloc (.cells #[.int .u64 0, .int .u64 0] 26)) fun e w' => e = .returned (.tuple #[.agg #[.int .u64 ot, .int .u64 om], .slice (some ⟨G, 0, none⟩) l.length n]) ∧ Done w8 w' G n l ∧ One w' w9.heap.size 0 0 := by
  have hGl := h.row.lt
  refine (frAny (h.bel.alloc h.bel.size _) h.hG (h.row.alloc _) hat hl0 hl hn).mono fun e w' ⟨h1, h2, h3⟩ => ⟨h1, h2, ?_⟩
  exact (one_new w9 0 0).of_block (h3.block _ (by rw [size_alloc]; omega) (by omega) (by omega))
theorem endA (h : Done w8 w10 G n l) : Half w8 ot om n l (.pointer (some ⟨w10.heap.size, 0, none⟩)) (.slice (some ⟨G, 0, none⟩) l.length n) (w10.alloc (.cells #[.int .u64 ot, .int .u64 om] 26)) := by
  obtain ⟨TA, MA, h1, h2⟩ := h.row
  exact ⟨_, G, TA, MA, rfl, rfl, one_new w10 ot om, h1.alloc _, h2, h.bel.alloc h.bel.size _, h.hG, h.bel.size, h.len⟩
theorem endB (h : Done w8 w10 G n l) (hz : One w10 z 0 0) (hzG : z ≠ G) (hz8 : w8.heap.size ≤ z) : Half w8 ot om n l (.pointer (some ⟨z, 0, none⟩)) (.slice (some ⟨G, 0, none⟩) l.length n) ((w10.setCell ⟨z, 0, none⟩ (.int .u64 ot)).setCell ⟨z, 1, none⟩ (.int .u64 om)) := by
  obtain ⟨TA, MA, h1, h2⟩ := h.row
  exact ⟨z, G, TA, MA, rfl, rfl, hz.set ot om, World.rowIs.setOther (World.rowIs.setOther h1 (by exact Ne.symm hzG) _) (by exact Ne.symm hzG) _, h2, (h.bel.setCell (by exact hz8) _).setCell (by exact hz8) _, h.hG, hz8, h.len⟩
theorem Half.drew {s20 s21 : Value} {wx : World} (h : Half w8 ot om n l s20 s21 wx) : Half w8 ot om n l s20 s21 wx.drew := by
  obtain ⟨q, gA, TA, MA, h1, h2, h3, h4, h5, h6, h7⟩ := h
  exact ⟨q, gA, TA, MA, h1, h2, h3, h4, h5, h6.drew, h7⟩
end
end Go.Proofs.Qxb6617569a
