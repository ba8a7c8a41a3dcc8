import Derived.Test.Qxb6617531aD
import Derived.Test.Qxb6617531aV
namespace Go.Proofs.Qxb6617531a
open Go.RowKit
set_option linter.unusedVariables false

theorem run_make_steps (n : Nat) (h : n ≤ 32768) (w : World) :
    (Instr.makeSlice 29 (.int .i64 (n : Int)) (.int .i64 (n : Int))).run Try.prog w = .ok (.slice (some ⟨w.heap.size, 0, none⟩) n n) (w.alloc (.cells (madeCells #[.int .i64 0, .int .i64 0] (n * 2)) 31)) := by
  obtain ⟨i, hi, hzz⟩ := Option.map_eq_some_iff.1 Try.info31
  simp only [Prod.mk.injEq] at hzz
  obtain ⟨hz, hs, hb⟩ := hzz
  have hr := run_make (P := Try.prog) w 29 31 i _ Try.underlying29 hi hz .i64 .i64 n n (by omega) (Int.le_refl _) (by rw [hb]; omega) (by omega)
  simp only [Int.toNat_natCast, hs] at hr
  exact hr
theorem row_made (w : World) (n : Nat) : (w.alloc (.cells (madeCells #[.int .i64 0, .int .i64 0] n) 31)).rowIs w.heap.size 31 n (fun _ => .int .i64 0) := by
  refine ⟨_, heap_alloc_new w _, size_madeCells _ _, fun i hi => ?_⟩
  have h2 : i % 2 = 0 ∨ i % 2 = 1 := by omega
  simp only [madeCells]
  rw [Array.getElem?_map]
  simp [hi]
  rcases h2 with e | e <;> simp [e]

theorem two_set {w : World} {S m : Nat} {f : Nat → Value} {L : Nat} (h : w.rowIs S 31 m f) (j : Nat) (x y : Int) :
    ((w.setCell ⟨S, j * 2, none⟩ (.int .i64 x)).setCell ⟨S, j * 2 + 1, none⟩ (.int .i64 y)).rowIs S 31 m (fun i => if i = j * 2 + 1 then .int .i64 y else if i = j * 2 then .int .i64 x else f i) :=
  (h.set (j * 2) _).set (j * 2 + 1) _

theorem CompOut.wide {n : Nat} {deg : Nat → Nat} {E : Nat → Nat → Nat} {w w1 w' : World} {e : Ending} (h : CompOut n deg E w1 e w') (hb : Below w.heap.size w w1) : CompOut n deg E w e w' := by
  obtain ⟨gv, gvs, grs, ord, low, nxt, opn, cnt, base, h1, h2, h3, h4, h5, h6⟩ := h.ex
  exact ⟨gv, gvs, grs, ord, low, nxt, opn, cnt, base, h1, h2, h3, h4, h5, hb.trans (h6.mono hb.size)⟩

/-- row r of the steps that have been laid -/
def RowLaid (w : World) (F r : Nat) (L : Nat → Nat) (Z : Nat → Nat → Int) (v : Value) : Prop :=
  ∃ S f, v = .slice (some ⟨S, 0, none⟩) (L r) (L r) ∧ F < S ∧ w.rowIs S 31 (L r * 2) f ∧ ∀ i, i < L r → f (i * 2 + 1) = .int .i64 (Z r i)

theorem RowLaid.keep {w w' : World} {F r : Nat} {L : Nat → Nat} {Z : Nat → Nat → Int} {v : Value} (h : RowLaid w F r L Z v) (hk : ∀ b, F < b → b < w.heap.size → w'.heap[b]? = w.heap[b]?) : RowLaid w' F r L Z v := by
  obtain ⟨S, f, h1, h2, h3, h4⟩ := h
  exact ⟨S, f, h1, h2, h3.of_block (hk S h2 h3.lt), h4⟩
theorem from_laid {w : World} {F n : Nat} {g : Nat → Value} {L : Nat → Nat} {Z : Nat → Nat → Int} (h : w.rowIs F 29 n g) (hl : ∀ r, r < n → RowLaid w F r L Z (g r)) (hZ : ∀ r i, r < n → i < L r → 0 ≤ Z r i ∧ Z r i < n) : FromOk w w.heap.size F 0 n L (fun r i => (Z r i).toNat) := by
  refine ⟨h.lt, fun a ha => ?_⟩
  obtain ⟨S, f, h1, h2, h3, h4⟩ := hl a ha
  refine ⟨some ⟨S, 0, none⟩, L a, ?_, fun i hi => ⟨S, 0, rfl, h3.lt, ?_⟩⟩
  · rw [Nat.zero_add, h.cell ha, h1]
  · rw [Nat.zero_add, h3.cell (by omega), h4 i hi]
    have := hZ a i ha hi
    rw [Int.toNat_of_nonneg this.1]

set_option maxHeartbeats 1000000 in
theorem conv_any (a b : Option Addr) (n c d : Nat) (A A' : Nat → Option Addr) (L C C' : Nat → Nat) (Z Z' : Nat → Nat → Int) (w : World) (h : Rows2 w a n A L C Z) (h' : Rows2 w b n A' L C' Z') (hn : n ≤ 512) (hL : ∀ r, r < n → L r ≤ 32768) (hZ : ∀ r i, r < n → i < L r → 0 ≤ Z r i ∧ Z r i < n) :
    Calls Try.prog 5 #[.slice a n c, .slice b n d] w fun e w' => CompOut n L (fun r i => (Z r i).toNat) w e w' := by
  have H := hide h
  have H' := hide h'
  have HL := hide hL
  have HZ := hide hZ
  clear h h' hL hZ
  have hmk := run_make_row' (P := Try.prog) 28 29 (.slice none 0 0) 24 Try.underlying28 Try.info29 rfl .i64 .i64 n (by omega) (by omega)
  go_enter Try.func5, Try.ntmps5
  go_wp2
  go_loopg [6] n (fun k i wr => ∃ (r : Nat) (g : Nat → Value), r ≤ n ∧ k = n - r ∧ i = .int .i64 r ∧ wr.rowIs w.heap.size 29 n g ∧ (∀ r', r' < r → RowLaid wr w.heap.size r' L Z (g r')) ∧ Below w.heap.size w wr)
  case atStart => exact ⟨0, _, Nat.zero_le _, by omega, rfl, World.rowIs_made w (.slice none 0 0) n 29, fun r' hr => absurd hr (Nat.not_lt_zero r'), (Below.refl _ _).alloc (Nat.le_refl _) _⟩
  case round =>
    obtain ⟨r, g, hr, hk, rfl, hrow, hlaid, hbel⟩ := hrel
    have HKK := hide hk
    clear hk
    by_cases hlt : r < n
    · obtain ⟨⟨b0, o0, rfl, hc⟩, _, hz⟩ := unhide H r hlt
      obtain ⟨⟨b1, o1, rfl, hc'⟩, _, hz'⟩ := unhide H' r hlt
      have hLr := unhide HL r hlt
      have hms := run_make_steps (L r) hLr
      have c0 : wr.cell? ⟨b0, o0 + r, none⟩ = some (.slice (A r) (L r) (C r)) := by rw [hbel.cell (p := ⟨b0, o0 + r, none⟩) (World.block_lt_of_cell? w _ hc)]; exact hc
      have HLAID := hide hlaid
      have HROW := hide hrow
      have HBEL := hide hbel
      have hF := hrow.lt
      clear hlaid hrow hbel
      rename World => wo
      go_wp2_with fail
      go_loopg [8] (L r) (fun k i w2 => ∃ (j : Nat) (f : Nat → Value), j ≤ L r ∧ k = L r - j ∧ i = .int .i64 j ∧ w2.rowIs wo.heap.size 31 (L r * 2) f ∧ (∀ i', i' < j → f (i' * 2 + 1) = .int .i64 (Z r i')) ∧ Below wo.heap.size wo w2)
      case atStart => exact ⟨0, _, Nat.zero_le _, by omega, rfl, row_made wo _, fun i' hi => absurd hi (Nat.not_lt_zero i'), (Below.refl _ _).alloc (Nat.le_refl _) _⟩
      case round =>
        obtain ⟨j, f, hj, hk2, rfl, hrow2, hf, hbel2⟩ := hrel
        have HK2 := hide hk2
        have HF := hide hf
        clear hk2 hf
        have lt0 : b0 < wo.heap.size := World.block_lt_of_cell? wo _ c0
        have c2 : wr.cell? ⟨b0, o0 + r, none⟩ = some (.slice (A r) (L r) (C r)) := by rw [hbel2.cell (p := ⟨b0, o0 + r, none⟩) lt0]; exact c0
        by_cases hjl : j < L r
        · obtain ⟨e0, q0, he0, hz0⟩ := hz j hjl
          obtain ⟨e1, q1, he1, hz1⟩ := hz' j hjl
          rw [he0] at c2
          have hbl := unhide HBEL
          have c3 : wr.cell? ⟨b1, o1 + r, none⟩ = some (.slice (A' r) (L r) (C' r)) := by
            have l1 := World.block_lt_of_cell? w _ hc'
            rw [hbel2.cell (p := ⟨b1, o1 + r, none⟩) (Nat.lt_of_lt_of_le l1 hbl.size), hbl.cell (p := ⟨b1, o1 + r, none⟩) l1]; exact hc'
          rw [he1] at c3
          have c4 : wr.cell? ⟨e0, q0 + j, none⟩ = some (.int .i64 (Z r j)) := by
            have l1 := World.block_lt_of_cell? w _ hz0
            rw [hbel2.cell (p := ⟨e0, q0 + j, none⟩) (Nat.lt_of_lt_of_le l1 hbl.size), hbl.cell (p := ⟨e0, q0 + j, none⟩) l1]; exact hz0
          have c5 : wr.cell? ⟨e1, q1 + j, none⟩ = some (.int .i64 (Z' r j)) := by
            have l1 := World.block_lt_of_cell? w _ hz1
            rw [hbel2.cell (p := ⟨e1, q1 + j, none⟩) (Nat.lt_of_lt_of_le l1 hbl.size), hbl.cell (p := ⟨e1, q1 + j, none⟩) l1]; exact hz1
          have s0 := hrow2.cell (i := j * 2) (by omega)
          have s1 := hrow2.cell (i := j * 2 + 1) (by omega)
          have f0 := hrow2.frozen (j * 2)
          have f1 := hrow2.frozen (j * 2 + 1)
          have HROW2 := hide hrow2
          have HBEL2 := hide hbel2
          clear hrow2 hbel2 hbl he0 he1
          go_wp2
          go_still_tail 17, Try.mixed
          rw [World.drew_eq wr]
          go_wp2
          go_roundg (L r - (j + 1))
          case measure => have := unhide HK2; omega
          case rel =>
            refine ⟨j + 1, _, by omega, rfl, by go_num, (two_set (L := 0) (unhide HROW2) j (Z' r j) (Z r j)).drew, fun i' hi' => ?_, (((unhide HBEL2).setCell (Nat.le_refl _) _).setCell (Nat.le_refl _) _).drew⟩
            by_cases e : i' = j
            · subst e; simp
            · rw [if_neg (by omega), if_neg (by omega)]
              exact unhide HF i' (by omega)
        · have hbl := unhide HBEL
          have hrw : wr.rowIs w.heap.size 29 n g := (unhide HROW).of_block (hbel2.block _ hF)
          have s0 := hrw.cell hlt
          have f0 := hrw.frozen r
          have hlaid2 : ∀ r', r' < r → RowLaid wr w.heap.size r' L Z (g r') := fun r' hr' => (unhide HLAID r' hr').keep fun b _ hb => hbel2.block b hb
          have hj' : j = L r := by omega
          have hthis : RowLaid wr w.heap.size r L Z (.slice (some ⟨wo.heap.size, 0, none⟩) (L r) (L r)) := ⟨wo.heap.size, f, rfl, hF, hrow2, fun i hi => unhide HF i (by omega)⟩
          have HALL := hide (And.intro hrw (And.intro hlaid2 (And.intro hthis (hbl.trans (hbel2.mono hbl.size)))))
          clear hrw hlaid2 hthis hbl hj' hrow2 hbel2
          go_wp2
          go_roundg (n - (r + 1))
          case measure => have := unhide HKK; omega
          case rel =>
            obtain ⟨h1, h2, h3, h4⟩ := unhide HALL
            refine ⟨r + 1, _, by omega, rfl, by go_num, h1.set r _, fun r' hr' => ?_, h4.setCell (Nat.le_refl _) _⟩
            have hkeep : ∀ b, w.heap.size < b → b < wr.heap.size → (wr.setCell ⟨w.heap.size, r, none⟩ (.slice (some ⟨wo.heap.size, 0, none⟩) (L r) (L r))).heap[b]? = wr.heap[b]? := fun b hb _ => set_ne wr (by omega) _
            by_cases e : r' = r
            · subst e
              rw [if_pos rfl]
              exact h3.keep hkeep
            · rw [if_neg e]
              exact (h2 r' (by omega)).keep hkeep
    · have hall := from_laid hrow (fun r' hr' => hlaid r' (by omega)) (unhide HZ)
      have HALL := hide hall
      have HBEL := hide hbel
      clear hall hrow hlaid hbel
      go_wp2_with fail
      refine (comp_any w.heap.size 0 n n L (fun r i => (Z r i).toNat) wr hn (unhide HL) (fun a i ha hi => by have := unhide HZ a i ha hi; omega) (unhide HALL)).mono ?_
      intro e w2 hout
      have hw := hout.wide (unhide HBEL)
      obtain ⟨gv, gvs, grs, ord, low, nxt, opn, cnt, base, rfl, h2, h3, h4, h5, h6⟩ := hw.ex
      have HO := hide hw
      clear hw hout h2 h3 h4 h5 h6
      go_wp2
      go_ret
      exact unhide HO
end Go.Proofs.Qxb6617531a
