import Derived.Test.Qxb6617569aF
namespace Go.Proofs.Qxb6617569a
open Go.RowKit
set_option linter.unusedVariables false

def IsBool (e : Ending) : Prop := ∃ x, e = .returned (.bool x)
theorem isBool (x : Bool) : IsBool (.returned (.bool x)) := ⟨x, rfl⟩

set_option maxRecDepth 100000 in
theorem bytes3_any (x0 x1 x3 x4 x6 : Int) (a b : Option Addr) (n m c d : Nat) (w : World) (hn : n ≤ 9223372036854775807) (hm : m ≤ 9223372036854775807) :
    Calls Try.prog 5 #[.int .u64 x0, .int .u64 x1, .slice a n c, .int .u64 x3, .int .u64 x4, .slice b m d, .int .u64 x6] w fun e w' => IsBool e ∧ w' = w := by
  by_cases h1 : 1048576 < n
  · go_enter Try.func5, Try.ntmps5
    go_wp2
    go_ret
    exact ⟨isBool _, rfl⟩
  · by_cases h2 : 1048576 < m
    · go_enter Try.func5, Try.ntmps5
      go_wp2
      go_ret
      exact ⟨isBool _, rfl⟩
    · by_cases h3 : (1048576 : Int) < (n : Int) + (m : Int)
      · go_enter Try.func5, Try.ntmps5
        go_wp2
        go_ret
        exact ⟨isBool _, rfl⟩
      · go_enter Try.func5, Try.ntmps5
        go_wp2
        go_ret
        exact ⟨isBool _, rfl⟩
set_option maxRecDepth 100000 in
theorem bytes4_any (x0 x1 x3 x4 : Int) (a : Option Addr) (n c : Nat) (w : World) (hn : n ≤ 9223372036854775807) :
    Calls Try.prog 10 #[.int .u64 x0, .int .u64 x1, .slice a n c, .int .u64 x3, .int .u64 x4] w fun e w' => IsBool e ∧ w' = w := by
  by_cases h1 : 1048576 < n
  · go_enter Try.func10, Try.ntmps10
    go_wp2
    go_ret
    exact ⟨isBool _, rfl⟩
  · go_enter Try.func10, Try.ntmps10
    go_wp2
    go_ret
    exact ⟨isBool _, rfl⟩

/-! ### plain: lists of stamps -/
def seq (n : Nat) (T M : Nat → Int) : List (Int × Int) := (List.range n).map fun i => (T i, M i)
theorem seq_length (n : Nat) (T M : Nat → Int) : (seq n T M).length = n := by simp [seq]
theorem seq_at (n : Nat) (T M : Nat → Int) : At (seq n T M) T M := by
  intro j hj
  rw [seq_length] at hj
  simp [seq, hj]
theorem At.congr {l : List (Int × Int)} {T M T' M' : Nat → Int} (h : At l T M) (e : ∀ i, i < l.length → T i = T' i ∧ M i = M' i) : At l T' M' := fun j hj => by
  rw [h j hj, (e j hj).1, (e j hj).2]
theorem At.same {l : List (Int × Int)} {T M T' M' : Nat → Int} (h : At l T M) (h' : At l T' M') : ∀ i, i < l.length → T i = T' i ∧ M i = M' i := fun i hi => by
  have := (h i hi).symm.trans (h' i hi)
  simpa using this
theorem At.append {l l' : List (Int × Int)} {T M T' M' T1 M1 : Nat → Int} (h : At l T M) (h' : At l' T' M') (e : ∀ i, i < l.length → T1 i = T i ∧ M1 i = M i) (e' : ∀ i, i < l'.length → T1 (l.length + i) = T' i ∧ M1 (l.length + i) = M' i) : At (l ++ l') T1 M1 := by
  intro j hj
  simp at hj
  by_cases hl : j < l.length
  · rw [List.getElem?_append_left hl, h j hl, (e j hl).1, (e j hl).2]
  · have := e' (j - l.length) (by omega)
    rw [show l.length + (j - l.length) = j by omega] at this
    rw [List.getElem?_append_right (by omega), h' _ (by omega), this.1, this.2]

def flat : List (Int × Int) → List Value
  | [] => []
  | p :: l => .int .u64 p.1 :: .int .u64 p.2 :: flat l
theorem flat_length (l : List (Int × Int)) : (flat l).length = l.length * 2 := by
  induction l with
  | nil => rfl
  | cons p l ih => simp only [flat, List.length_cons, ih]; omega
theorem flat_get : ∀ (l : List (Int × Int)) (T M : Nat → Int), At l T M → ∀ j, j < l.length * 2 → (flat l)[j]? = some (St T M j)
  | [], _, _, _, j, hj => absurd hj (by simp)
  | p :: l, T, M, h, j, hj => by
    have h0 : p = (T 0, M 0) := by simpa using h 0 (by simp)
    have ih := flat_get l (fun i => T (i + 1)) (fun i => M (i + 1)) (fun i hi => by simpa using h (i + 1) (by simp; omega))
    match j with
    | 0 => simp [flat, St, h0]
    | 1 => simp [flat, St, h0]
    | j + 2 =>
      have := ih j (by simp at hj; omega)
      simp only [flat, List.getElem?_cons_succ]
      rw [this]
      unfold St
      rw [show (j + 2) % 2 = j % 2 by omega, show (j + 2) / 2 = j / 2 + 1 by omega]
theorem flat_one (l : List (Int × Int)) : ∀ u ∈ flat l, u.oneCell' = true := by
  induction l with
  | nil => intro u hu; cases hu
  | cons p l ih =>
    intro u hu
    simp only [flat, List.mem_cons] at hu
    rcases hu with rfl | rfl | hu
    · rfl
    · rfl
    · exact ih u hu

theorem setCells_other {b p : Nat} (hp : p ≠ b) : ∀ (vs : List Value) (o : Nat) (w : World), (w.setCells b o vs).heap[p]? = w.heap[p]?
  | [], _, _ => rfl
  | v :: r, o, w => (setCells_other hp r (o + 1) _).trans (Below.heap_setCell w ⟨b, o, none⟩ v p hp)
/-- one row's stamps laid behind those of another -/
theorem wpList_bulk (w : World) {ops : Array Oper} {rest : List Oper} {o : Oper} {a : Act} {Q : Exit → Act → World → Prop} (hgd : o.guard = none) (s x : Operand)
    (ho : o.op = .call { callee := .builtin .append, args := #[s, x], argTypes := #[27, 27] })
    (b k cap : Nat) (l : List (Int × Int)) (T M : Nat → Int) (hs : a.eval s = .slice (some ⟨b, 0, none⟩) k cap) (hrow : Row w b cap T M) (hat : At l T M) (hk : k = l.length)
    (q n c cq : Nat) (l' : List (Int × Int)) (T' M' : Nat → Int) (hx : a.eval x = .slice (some ⟨q, 0, none⟩) n c) (hrow' : Row w q cq T' M') (hat' : At l' T' M') (hn : n = l'.length) (hcq : n ≤ cq) (hroom : k + n ≤ cap)
    (h : ∀ w' T2 M2, Row w' b cap T2 M2 → At (l ++ l') T2 M2 → Below b w w' → (∀ p, p ≠ b → w'.heap[p]? = w.heap[p]?) → wpList Try.prog ops Q rest (a.put o.dst (.slice (some ⟨b, 0, none⟩) (k + n) cap)) w') : wpList Try.prog ops Q (o :: rest) a w := by
  obtain ⟨i, hi, hzz⟩ := Option.map_eq_some_iff.1 Try.info26
  simp only [Prod.mk.injEq] at hzz
  obtain ⟨hz, hsz, hb⟩ := hzz
  have hfl := flat_length l'
  refine wpList_append_room_src w hgd s x 27 27 ho 26 i Try.underlying27 hi b 0 k cap hs _ hx n (flat l') ?_ hroom ?_ ?_ ?_
  · rw [hsz]
    refine Src.ofSlice _ Try.underlying27 ⟨q, 0, none⟩ n c _ (by rw [hfl, hn]) ?_ (flat_one l')
    intro j u hj
    have hjl : j < l'.length * 2 := by rw [← hfl]; exact (List.getElem?_eq_some_iff.1 hj).1
    rw [flat_get l' T' M' hat' j hjl] at hj
    rw [Addr.add_lit, Nat.zero_add, World.rowIs.cell hrow' (by omega)]
    exact hj
  · intro j hj
    rw [hsz, Nat.zero_add, World.rowIs.cell hrow (by omega)]
    rfl
  · intro j hj
    exact World.rowIs.frozen hrow _
  · rw [hsz, Nat.zero_add]
    refine h _ (fun i => if k ≤ i ∧ i < k + n then T' (i - k) else T i) (fun i => if k ≤ i ∧ i < k + n then M' (i - k) else M i) ?_ ?_ (below_setCells (Nat.le_refl _) _ _ _ (Below.refl _ _)) (fun p hp => ?_)
    · refine (rowIs_setCells (flat l') (k * 2) w _ hrow).congr fun j hj => ?_
      by_cases e : k * 2 ≤ j ∧ j < k * 2 + (flat l').length
      · rw [if_pos e, flat_get l' T' M' hat' _ (by omega)]
        simp only [Option.getD_some]
        unfold St
        simp only [if_pos (show k ≤ j / 2 ∧ j / 2 < k + n by omega)]
        rw [show (j - k * 2) % 2 = j % 2 by omega, show (j - k * 2) / 2 = j / 2 - k by omega]
      · rw [if_neg e]
        unfold St
        simp only [if_neg (show ¬ (k ≤ j / 2 ∧ j / 2 < k + n) by omega)]
    · refine hat.append hat' (fun i hi => ?_) (fun i hi => ?_)
      · simp only [if_neg (show ¬ (k ≤ i ∧ i < k + n) by omega), and_self]
      · simp only [if_pos (show k ≤ l.length + i ∧ l.length + i < k + n by omega), show l.length + i - k = i by omega, and_self]
    · exact setCells_other hp _ _ _
end Go.Proofs.Qxb6617569a
