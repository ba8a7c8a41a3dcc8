import Derived.Test.Qxb6617473aRows
import Derived.WalkKit
import Derived.WalkSpells
import Derived.WalkLawsBesides
import Derived.Deep.QuietTactic
import Derived.BigQuiet
import Derived.Deep.OwnRows
import Derived.Lib.SliceRun
namespace Go.Proofs.Qxb6617473a
open Go.RowKit

theorem hide {p : Prop} (h : p) : Hid p := h
theorem unhide {p : Prop} (h : Hid p) : p := h

set_option maxHeartbeats 400000 in
theorem bytes_any (a : Option Addr) (len cap : Nat) (f : Bool) (k : Int) (w : World) (hl : len ≤ 9223372036854775807) :
    Calls Try.prog 4 #[.slice a len cap, .bool f, .int .u64 k] w fun e w' => e = .returned (.bool (decide (len ≤ 1048576))) ∧ w' = w := by
  by_cases h : len ≤ 1048576
  · have hd : decide (len ≤ 1048576) = true := decide_eq_true h
    have h1 : ¬ (1048576 : Int) < (len : Int) := by omega
    go_enter Try.func4, Try.ntmps4
    go_wp2
    go_ret
    exact ⟨by simp, rfl⟩
  · have h1 : (1048576 : Int) < (len : Int) := by omega
    go_enter Try.func4, Try.ntmps4
    go_wp2
    go_ret
    exact ⟨by simp [h], rfl⟩

/-- a slice of bytes: 'D i' is element i -/
def Bs (w : World) (a : Option Addr) (n : Nat) (D : Nat → Int) : Prop :=
  ∀ i, i < n → ∃ b o, a = some ⟨b, o, none⟩ ∧ w.cell? ⟨b, o + i, none⟩ = some (.int .u8 (D i))

theorem ret_bool {a b : Bool} (h : a = b) : Ending.returned (.bool a) = .returned (.bool b) := by rw [h]

def sameB (n1 n2 : Nat) (D1 D2 : Nat → Int) : Bool := decide (n1 = n2 ∧ ∀ i, i < n1 → D1 i = D2 i)

theorem same_no {n k : Nat} {D1 D2 : Nat → Int} (hk : k < n) (h : (D1 k != D2 k) = true) : false = sameB n n D1 D2 := by
  symm; simp only [sameB, decide_eq_false_iff_not]; intro ⟨_, hh⟩; simp [hh k hk] at h
theorem same_step {k : Nat} {D1 D2 : Nat → Int} (h : (D1 k != D2 k) = false) (H : Hid (∀ i, i < k → D1 i = D2 i)) : ∀ i, i < k + 1 → D1 i = D2 i := by
  intro i hi
  by_cases e : i = k
  · subst e; simpa using h
  · exact H.out i (by omega)
theorem same_yes {n k : Nat} {D1 D2 : Nat → Int} (hk : ¬ k < n) (H : Hid (∀ i, i < k → D1 i = D2 i)) : true = sameB n n D1 D2 := by
  symm; simp only [sameB, decide_eq_true_eq]; exact ⟨trivial, fun i hi => H.out i (by omega)⟩

set_option maxHeartbeats 400000 in
theorem same_any (a1 a2 : Option Addr) (n1 n2 c1 c2 : Nat) (D1 D2 : Nat → Int) (w : World) (h1 : Bs w a1 n1 D1) (h2 : Bs w a2 n2 D2) (hl : n1 ≤ 1048576) (hl2 : n2 ≤ 1048576) :
    Calls Try.prog 12 #[.slice a1 n1 c1, .slice a2 n2 c2] w fun e w' => e = .returned (.bool (sameB n1 n2 D1 D2)) ∧ ∃ n, w' = w.drewN n := by
  by_cases hne : n1 = n2
  · subst hne
    go_enter Try.func12, Try.ntmps12
    go_wp2
    go_loopw [5] (fun i wr => ∃ k m : Nat, k ≤ n1 ∧ i = .int .i64 k ∧ wr = w.drewN m ∧ ∀ i, i < k → D1 i = D2 i) (fun i _ => n1 - (intOf i).toNat)
    case atStart => exact ⟨0, 0, Nat.zero_le _, rfl, rfl, fun i hi => absurd hi (Nat.not_lt_zero i)⟩
    case round =>
      obtain ⟨k, m, hk, rfl, rfl, heq⟩ := hrel
      have HQ : Hid (∀ i, i < k → D1 i = D2 i) := heq
      clear heq
      by_cases hlt : k < n1
      · obtain ⟨b1, o1, rfl, hc1⟩ := h1 k (by omega)
        obtain ⟨b2, o2, rfl, hc2⟩ := h2 k (by omega)
        have hlt' : (k : Int) < (n1 : Int) := by omega
        go_wp2
        go_quiet (fail)
        go_wp2
        · go_ret
          exact ⟨ret_bool (same_no hlt ‹_›), _, World.drewN_drewN _ _ _⟩
        · go_roundw
          case rel => exact ⟨k + 1, _, by omega, by go_num, rfl, same_step ‹_› HQ⟩
          case measure => simp [intOf]; omega
      · go_wp2
        go_ret
        exact ⟨ret_bool (same_yes hlt HQ), _, rfl⟩
  · have hne' : ((n1 : Int) != (n2 : Int)) = true := by simp; omega
    go_enter Try.func12, Try.ntmps12
    go_wp2
    go_ret
    exact ⟨ret_bool (by simp [sameB, hne]), 0, rfl⟩

theorem Try.cells5 : Try.prog.cellsOf 5 = 1 := by kernel_rfl
theorem Try.info5 : (Try.prog.info? 5).map (fun i => (i.zero, i.size, i.bytes)) = some (some (.int .u8 0), 1, 1) := by kernel_rfl

/-- a part of a loop that fills a fresh row: the first k cells are D, the rest zero -/
def part (k : Nat) (D : Nat → Int) (i : Nat) : Value := if i < k then .int .u8 (D i) else .int .u8 0

theorem part_step {wr : World} {B n k : Nat} {D : Nat → Int} (h : wr.rowIs B 5 n (part k D)) :
    (wr.setCell ⟨B, k, none⟩ (.int .u8 (D k))).rowIs B 5 n (part (k + 1) D) := by
  refine (h.set k _).congr fun i _ => ?_
  unfold part
  by_cases e : i = k
  · subst e; simp
  · have : (i < k + 1) ↔ i < k := by omega
    simp [e, this]

/-- what a clone leaves -/
structure Cloned (w : World) (n : Nat) (D : Nat → Int) (e : Ending) (w' : World) : Prop where
  got : ∃ a', e = .returned (.slice a' n n) ∧ Bs w' a' n D ∧ (a' = none → n = 0)
  bel : Below w.heap.size w w'

set_option maxHeartbeats 400000 in
theorem clone_any (a : Option Addr) (n c : Nat) (D : Nat → Int) (w : World) (h : Bs w a n D) (hl : n ≤ 1048576) (ha : a = none → n = 0) :
    Calls Try.prog 5 #[.slice a n c] w fun e w' => Cloned w n D e w' := by
  have hnil := fun (w : World) => Lib.run_eql_slice_nil (P := Try.prog) w 22 5 a n c 0 0 Try.underlying22
  have hmk := run_make_row' (P := Try.prog) 22 5 (.int .u8 0) 1 Try.underlying22 Try.info5 rfl .i64 .i64 n (by omega) (by omega)
  cases a with
  | none =>
    have := ha rfl
    subst this
    go_enter Try.func5, Try.ntmps5
    go_wp2
    go_ret
    exact ⟨⟨none, rfl, fun i hi => absurd hi (Nat.not_lt_zero i), fun _ => rfl⟩, Below.refl _ _⟩
  | some x =>
    go_enter Try.func5, Try.ntmps5
    go_wp2
    go_loopw [4] (fun i wr => ∃ k : Nat, k ≤ n ∧ i = .int .i64 k ∧ wr.rowIs w.heap.size 5 n (part k D) ∧ Below w.heap.size w wr) (fun i _ => n - (intOf i).toNat)
    case atStart => exact ⟨0, Nat.zero_le _, rfl, (World.rowIs_made w (.int .u8 0) n 5).congr fun i _ => by simp [part], (Below.refl _ _).alloc (Nat.le_refl _) _⟩
    case round =>
      obtain ⟨k, hk, rfl, hrow, hbel⟩ := hrel
      by_cases hkn : k < n
      · obtain ⟨b, o, hx, hc⟩ := h k hkn
        cases hx
        have hlt0 : b < w.heap.size := World.block_lt_of_cell? w _ hc
        have hc' : wr.cell? ⟨b, o + k, none⟩ = some (.int .u8 (D k)) := by rw [hbel.cell (by exact hlt0)]; exact hc
        have hst := hrow.cell hkn
        have hfz := hrow.frozen k
        go_wp2
        go_roundw
        case rel => exact ⟨k + 1, by omega, by go_num, part_step hrow, hbel.setCell (Nat.le_refl _) _⟩
        case measure => simp [intOf]; omega
      · go_wp2
        go_ret
        refine ⟨⟨some ⟨w.heap.size, 0, none⟩, rfl, fun i hi => ⟨w.heap.size, 0, rfl, ?_⟩, fun h => (by cases h)⟩, hbel⟩
        rw [Nat.zero_add, hrow.cell hi]
        have : i < k := by omega
        simp [part, this]

end Go.Proofs.Qxb6617473a
