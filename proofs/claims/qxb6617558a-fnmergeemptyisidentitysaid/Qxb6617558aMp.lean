import Derived.Test.Qxb6617558aTm
import Derived.Maps.RangeWalk
import Derived.DeepKeys4
import Derived.Deep.AppendLies
namespace Go.Proofs.Qxb6617558a
open Go.RowKit Go.Maps
open Go.ChangeMaps (setBlock)
set_option linter.unusedVariables false
theorem laid0 : laidOutB Try.prog = true := by kernel_rfl
theorem row68 : (68 : TypeId) < Try.prog.types.size := of_decide_eq_true (by kernel_rfl)
theorem wide68 : (match Try.prog.underlying 68 with | some (.array _ _) | some (.struct _) => true | _ => false) = true := by rw [Try.underlying68]
theorem cells68 : Try.prog.cellsOf 68 = 2 := by kernel_rfl
theorem cells9 : Try.prog.cellsOf 9 = 1 := by kernel_rfl
set_option maxRecDepth 100000 in
theorem keyT68 : Try.prog.keyType 68 = true := by kernel_rfl
set_option maxRecDepth 100000 in
theorem keyAt68 : Try.prog.keyTypeAt 2 68 = true := by kernel_rfl
theorem lawS : Keyed Try.prog 9 := string_keyed Try.underlying9
set_option maxRecDepth 100000 in
theorem lawV : Keyed Try.prog 68 := Keyed.of_law (deep_law_laid laid0 (m := 2) (by decide) row68 keyAt68 wide68)
theorem okS (s : ByteArray) (h : s.size ≤ maxLen) : ∃ l, keyOf Try.prog 9 (.string s) = some l := ⟨_, WideMaps.keyOf_string_mk Try.underlying9 h⟩
theorem okV (s t : ByteArray) (h : s.size ≤ maxLen) (h2 : t.size ≤ maxLen) : ∃ l, keyOf Try.prog 68 (.agg #[.string s, .string t]) = some l := by
  have hf : (Value.agg #[.string s, .string t]).formed Try.prog 68 = true := by simp [Value.formed, Try.underlying68, cells68]
  obtain ⟨m, hm⟩ : ∃ m, Try.prog.types.size = m + 1 := ⟨Try.prog.types.size - 1, by have h0 : 68 < Try.prog.types.size := row68; omega⟩
  unfold keyOf
  simp only [Try.underlying68, keyT68, hf, hm]
  unfold Program.keyLits
  simp only [Try.underlying68]
  have e1 : Try.prog.keyLits (m + 1) 9 [.string s] = some [.string s.data.toList] := by simp [Program.keyLits, Try.underlying9, h]
  have e2 : Try.prog.keyLits (m + 1) 9 [.string t] = some [.string t.data.toList] := by simp [Program.keyLits, Try.underlying9, h2]
  simp [Value.cells, cells68, cells9, e1, e2]

def upd {α : Type} (f : Nat → α) (i : Nat) (x : α) : Nat → α := fun j => if j = i then x else f j
theorem upd_at {α : Type} (f : Nat → α) (i : Nat) (x : α) : upd f i x i = x := by simp [upd]
theorem upd_ne {α : Type} (f : Nat → α) (i : Nat) (x : α) {j : Nat} (h : j < i) : upd f i x j = f j := by
  unfold upd
  rw [if_neg (by omega)]

/-- a map's entries, in the order in which they were laid -/
def mk (n : Nat) (key val : Nat → Value) : Array MapEntry := ((List.range n).map fun i => (⟨key i, val i, i⟩ : MapEntry)).toArray
def MapIs (w : World) (b n : Nat) (key val : Nat → Value) : Prop := w.heap[b]? = some (.map (mk n key val) n)
theorem mk_list (n : Nat) (key val : Nat → Value) : (mk n key val).toList = (List.range n).map fun i => (⟨key i, val i, i⟩ : MapEntry) := by simp [mk]
theorem mk_size (n : Nat) (key val : Nat → Value) : (mk n key val).size = n := by simp [mk]
theorem mk_mem {n : Nat} {key val : Nat → Value} {e : MapEntry} : e ∈ (mk n key val).toList ↔ ∃ i, i < n ∧ e = ⟨key i, val i, i⟩ := by
  rw [mk_list]
  simp
  constructor
  · rintro ⟨a, h, rfl⟩; exact ⟨a, h, rfl⟩
  · rintro ⟨a, h, rfl⟩; exact ⟨a, h, rfl⟩
theorem mk_get {n : Nat} {key val : Nat → Value} {j : Nat} {e : MapEntry} (h : (mk n key val).toList[j]? = some e) : j < n ∧ e = ⟨key j, val j, j⟩ := by
  rw [mk_list] at h
  simp at h
  obtain ⟨a, ha, he⟩ := h
  obtain ⟨h1, h2⟩ := List.getElem?_eq_some_iff.1 ha
  simp at h1 h2
  subst h2
  exact ⟨h1, he.symm⟩
theorem mk_congr {n : Nat} {key val key' val' : Nat → Value} (h : ∀ i, i < n → key i = key' i) (h2 : ∀ i, i < n → val i = val' i) : mk n key val = mk n key' val' := by
  unfold mk
  congr 1
  apply List.map_congr_left
  intro i hi
  have := List.mem_range.1 hi
  rw [h i this, h2 i this]
theorem mk_push (n : Nat) (key val : Nat → Value) (v : Value) : (mk n key val).push ⟨key n, v, n⟩ = mk (n + 1) key (upd val n v) := by
  have e : mk n key val = mk n key (upd val n v) := mk_congr (fun _ _ => rfl) (fun i hi => (upd_ne _ _ _ hi).symm)
  rw [e]
  unfold mk
  rw [List.range_succ, List.map_append]
  simp [upd_at]
theorem MapIs.congr {w : World} {b n : Nat} {key val key' val' : Nat → Value} (h : MapIs w b n key val) (h1 : ∀ i, i < n → key i = key' i) (h2 : ∀ i, i < n → val i = val' i) : MapIs w b n key' val' := by
  unfold MapIs at *
  rw [← mk_congr h1 h2]
  exact h
theorem MapIs.lt {w : World} {b n : Nat} {key val : Nat → Value} (h : MapIs w b n key val) : b < w.heap.size := (Array.getElem?_eq_some_iff.1 h).1
theorem MapIs.of_block {w w' : World} {b n : Nat} {key val : Nat → Value} (h : MapIs w b n key val) (e : w'.heap[b]? = w.heap[b]?) : MapIs w' b n key val := e.trans h
theorem MapIs.alloc {w : World} {b n : Nat} {key val : Nat → Value} (h : MapIs w b n key val) (o : Obj) : MapIs (w.alloc o) b n key val := h.of_block (Below.heap_alloc w o b h.lt)
theorem MapIs.set {w : World} {b n : Nat} {key val : Nat → Value} (h : MapIs w b n key val) {p : Addr} (hp : b ≠ p.block) (v : Value) : MapIs (w.setCell p v) b n key val := h.of_block (Below.heap_setCell w p v b hp)
theorem MapIs.below {w w' : World} {b n : Nat} {key val : Nat → Value} (h : MapIs w b n key val) {B : Nat} (hb : Below B w w') (hB : b < B) : MapIs w' b n key val := h.of_block (hb.block b hB)

/-- keys that can be looked up, no two alike -/
structure Keys (k : TypeId) (n : Nat) (key : Nat → Value) : Prop where
  ok : ∀ i, i < n → ∃ l, keyOf Try.prog k (key i) = some l
  inj : ∀ i j, i < n → j < n → key i = key j → i = j

section
variable {k t e : TypeId} {w : World} {b n : Nat} {key val : Nat → Value}
theorem look_hit (K : Keyed Try.prog k) (ht : Try.prog.underlying t = some (.map k e)) (h : MapIs w b n key val) (hk : Keys k n key) {i : Nat} (hi : i < n) (c : Bool) :
    (Instr.lookup t (.map (some b)) (key i) c).run Try.prog w = .ok (if c then .tuple #[val i, .bool true] else val i) w := by
  obtain ⟨l, hl⟩ := hk.ok i hi
  have hks : ∀ x ∈ (mk n key val).toList, ∃ l, keyOf Try.prog k x.key = some l := by
    intro x hx
    obtain ⟨j, hj, rfl⟩ := mk_mem.1 hx
    exact hk.ok j hj
  rcases K.find w hl (mk n key val).toList hks with ⟨_, h2⟩ | ⟨j, e0, h1, h2, h3⟩
  · exact absurd rfl (h2 ⟨key i, val i, i⟩ (mk_mem.2 ⟨i, hi, rfl⟩))
  · obtain ⟨hj, rfl⟩ := mk_get h2
    have : j = i := hk.inj j i hj hi h3
    subst this
    cases c <;> simp [Instr.lookup, run_underlying ht, MapKept.run_getObj_map h, K.check w _ hl, h1, Result.andThen]
theorem look_miss (K : Keyed Try.prog k) (ht : Try.prog.underlying t = some (.map k e)) (h : MapIs w b n key val) (hk : ∀ i, i < n → ∃ l, keyOf Try.prog k (key i) = some l) {x z : Value} (hx : ∃ l, keyOf Try.prog k x = some l) (hne : ∀ i, i < n → key i ≠ x) (hz : (zeroValue e).run Try.prog w = .ok z w) :
    (Instr.lookup t (.map (some b)) x false).run Try.prog w = .ok z w := by
  obtain ⟨l, hl⟩ := hx
  have hks : ∀ x ∈ (mk n key val).toList, ∃ l, keyOf Try.prog k x.key = some l := by
    intro x hx
    obtain ⟨j, hj, rfl⟩ := mk_mem.1 hx
    exact hk j hj
  rcases K.find w hl (mk n key val).toList hks with ⟨h1, _⟩ | ⟨j, e0, h1, h2, h3⟩
  · simp [Instr.lookup, run_underlying ht, MapKept.run_getObj_map h, K.check w _ hl, h1, Result.andThen, hz]
  · obtain ⟨hj, rfl⟩ := mk_get h2
    exact absurd h3 (hne j hj)
theorem store_new (K : Keyed Try.prog k) (ht : Try.prog.underlying t = some (.map k e)) (h : MapIs w b n key val) (hk : ∀ i, i < n → ∃ l, keyOf Try.prog k (key i) = some l) {v : Value} (hx : ∃ l, keyOf Try.prog k (key n) = some l) (hne : ∀ i, i < n → key i ≠ key n) :
    (Instr.mapUpdate t (.map (some b)) (key n) v).run Try.prog w = .ok () (setBlock w b (.map (mk (n + 1) key (upd val n v)) (n + 1))) := by
  obtain ⟨l, hl⟩ := hx
  have hks : ∀ x ∈ (mk n key val).toList, ∃ l, keyOf Try.prog k x.key = some l := by
    intro x hx
    obtain ⟨j, hj, rfl⟩ := mk_mem.1 hx
    exact hk j hj
  rcases K.find w hl (mk n key val).toList hks with ⟨h1, _⟩ | ⟨j, e0, h1, h2, h3⟩
  · rw [← mk_push]
    simp [Instr.mapUpdate, run_underlying ht, MapKept.run_getObj_map h, K.check w false hl, h1, MapKept.run_setObj_map _ h, Result.andThen, setBlock]
  · obtain ⟨hj, rfl⟩ := mk_get h2
    exact absurd h3 (hne j hj)
theorem blk_same {o : Obj} (h : w.heap[b]? = some o) (o' : Obj) : (setBlock w b o').heap[b]? = some o' := by
  have := (Array.getElem?_eq_some_iff.1 h).1
  simp [setBlock, this]
theorem blk_other (o' : Obj) {i : Nat} (hi : i ≠ b) : (setBlock w b o').heap[i]? = w.heap[i]? := by
  simp only [setBlock]
  rw [Array.getElem?_setIfInBounds_ne (by omega)]
/-- the one block that the store turns -/
theorem grown_set {o o' : Obj} (h : w.heap[b]? = some o) : w.grownBy (setBlock w b o') (some b) := ⟨rfl, rfl, rfl, by simp [setBlock], fun i _ hi => blk_other _ (fun e => hi (by rw [e]))⟩
theorem MapIs.stored (h : MapIs w b n key val) (v : Value) : MapIs (setBlock w b (.map (mk (n + 1) key (upd val n v)) (n + 1))) b (n + 1) key (upd val n v) := blk_same h _

/-- an iterator over the map of block b, n entries, those of pi handed out -/
def Iter (w : World) (b r n : Nat) (pi : List Nat) : Prop := w.heap[r]? = some (.mapIter (some b) n pi.toArray n)
theorem range_run (ht : Try.prog.underlying t = some (.map k e)) (h : MapIs w b n key val) :
    (Instr.range t (.map (some b))).run Try.prog w = .ok (.pointer (some ⟨w.heap.size, 0, none⟩)) (w.alloc (.mapIter (some b) n #[] n)) := run_range_map w t k e b _ _ ht h
theorem iter_new (w : World) (b n : Nat) : Iter (w.alloc (.mapIter (some b) n #[] n)) b w.heap.size n [] := (MapKept.heap_alloc w _).1
theorem next_run (ty : TypeId) {r : Nat} {pi : List Nat} (h : MapIs w b n key val) (hr : Iter w b r n pi) :
    ((∀ i, i < n → i ∈ pi) ∧ (Instr.next (.pointer (some ⟨r, 0, none⟩)) false ty).run Try.prog w = .ok (.tuple #[.bool false]) w) ∨
    ∃ i w', i < n ∧ i ∉ pi ∧ (Instr.next (.pointer (some ⟨r, 0, none⟩)) false ty).run Try.prog w = .ok (.tuple #[.bool true, key i, val i]) w' ∧ Iter w' b r n (pi ++ [i]) ∧ w.grownBy w' (some r) ∧ w'.heap.size = w.heap.size ∧ w'.rangeLeft b r < w.rangeLeft b r ∧
      (Instr.entry (.pointer (some ⟨r, 0, none⟩))).run Try.prog w' = .ok (.tuple #[key i, val i]) w' := by
  have hne : r ≠ b := by intro e; rw [e] at hr; unfold Iter at hr; rw [h] at hr; cases hr
  have hold : ∀ x ∈ (mk n key val).toList, x.born < n := by
    intro x hx
    obtain ⟨j, hj, rfl⟩ := mk_mem.1 hx
    exact hj
  rcases run_next_at (P := Try.prog) w ty r b n n pi.toArray (mk n key val) n hr h hold (Nat.le_refl _) with ⟨h0, hrun⟩ | ⟨e, he, w1, hal, hrun⟩
  · refine Or.inl ⟨fun i hi => ?_, hrun⟩
    have := all_seen _ _ h0 ⟨key i, val i, i⟩ (mk_mem.2 ⟨i, hi, rfl⟩)
    simpa using this
  · obtain ⟨hem, hes⟩ := mem_left he
    obtain ⟨i, hi, rfl⟩ := mk_mem.1 hem
    have hr1 : w1.heap[r]? = some (.mapIter (some b) n pi.toArray n) := by rcases hal with rfl | rfl <;> exact hr
    have hb1 : w1.heap[b]? = some (.map (mk n key val) n) := by rcases hal with rfl | rfl <;> exact h
    have hp : pi.toArray.push i = (pi ++ [i]).toArray := by simp
    have hs1 : (setBlock w1 r (.mapIter (some b) n (pi.toArray.push i) n)).heap[r]? = some (.mapIter (some b) n (pi.toArray.push i) n) := blk_same hr1 _
    have hs2 : (setBlock w1 r (.mapIter (some b) n (pi.toArray.push i) n)).heap[b]? = some (.map (mk n key val) n) := (blk_other _ (fun e => hne e.symm)).trans hb1
    refine Or.inr ⟨i, _, hi, by simpa using hes, hrun, hs1.trans (by rw [hp]), ?_, ?_, ?_, ?_⟩
    · rcases hal with rfl | rfl <;> exact ⟨rfl, rfl, rfl, by simp [setBlock], fun j _ hj => blk_other _ (fun e => hj (by rw [e]))⟩
    · rcases hal with rfl | rfl <;> simp [setBlock]
    · unfold World.rangeLeft
      rw [hs1, hs2, h, hr]
      exact left_shrinks _ _ _ he
    · refine run_entry_at _ r b n pi.toArray (mk n key val) n ⟨key i, val i, i⟩ hs1 hs2 hem ?_
      rw [mk_list, List.map_map]
      have : ((fun x : MapEntry => x.born) ∘ fun i => (⟨key i, val i, i⟩ : MapEntry)) = id := rfl
      rw [this, List.map_id]
      exact List.nodup_range
theorem Iter.of_block {w' : World} {r : Nat} {pi : List Nat} (h : Iter w b r n pi) (e : w'.heap[r]? = w.heap[r]?) : Iter w' b r n pi := e.trans h
theorem Iter.lt {r : Nat} {pi : List Nat} (h : Iter w b r n pi) : r < w.heap.size := (Array.getElem?_eq_some_iff.1 h).1
theorem left_same {w' : World} {r : Nat} (e : w'.heap[r]? = w.heap[r]?) (e2 : w'.heap[b]? = w.heap[b]?) : w'.rangeLeft b r = w.rangeLeft b r := by
  unfold World.rangeLeft
  rw [e, e2]
end

section
variable {ops : Array Oper} {rest : List Oper} {o : Oper} {a : Act} {Q : Exit → Act → World → Prop} {w : World} {b n : Nat} {key val : Nat → Value}
theorem wpList_hit (hg : o.guard = none) (m x : Operand) (t : TypeId) (c : Bool) (hop : o.op = Op.lookup t m x c) {k e : TypeId} (K : Keyed Try.prog k) (ht : Try.prog.underlying t = some (.map k e)) (h : MapIs w b n key val) (hk : Keys k n key) {i : Nat} (hi : i < n)
    (hm : a.eval m = .map (some b)) (hx : a.eval x = key i) (hK : wpList Try.prog ops Q rest (a.put o.dst (if c then .tuple #[val i, .bool true] else val i)) w) : wpList Try.prog ops Q (o :: rest) a w := by
  refine wpList_plain hg fun K' hK' => ?_
  have hrun := look_hit K ht h hk hi c
  unfold Oper.wp
  simp [execOp, hop, hm, hx, hrun, Result.andThen]
  exact hK' _ _ hK
theorem wpList_miss (hg : o.guard = none) (m x : Operand) (t : TypeId) (hop : o.op = Op.lookup t m x false) {k e : TypeId} (K : Keyed Try.prog k) (ht : Try.prog.underlying t = some (.map k e)) (h : MapIs w b n key val) (hk : ∀ i, i < n → ∃ l, keyOf Try.prog k (key i) = some l) (u z : Value) (hu : ∃ l, keyOf Try.prog k u = some l) (hne : ∀ i, i < n → key i ≠ u) (hz : (zeroValue e).run Try.prog w = .ok z w)
    (hm : a.eval m = .map (some b)) (hx : a.eval x = u) (hK : wpList Try.prog ops Q rest (a.put o.dst z) w) : wpList Try.prog ops Q (o :: rest) a w := by
  refine wpList_plain hg fun K' hK' => ?_
  have hrun := look_miss K ht h hk hu hne hz
  unfold Oper.wp
  simp [execOp, hop, hm, hx, hrun, Result.andThen]
  exact hK' _ _ hK
theorem wpList_store (hg : o.guard = none) (m x v : Operand) (t : TypeId) (hop : o.op = Op.mapUpdate t m x v) {k e : TypeId} (K : Keyed Try.prog k) (ht : Try.prog.underlying t = some (.map k e)) (h : MapIs w b n key val) (hk : ∀ i, i < n → ∃ l, keyOf Try.prog k (key i) = some l) (hu : ∃ l, keyOf Try.prog k (key n) = some l) (hne : ∀ i, i < n → key i ≠ key n) (u : Value)
    (hm : a.eval m = .map (some b)) (hx : a.eval x = key n) (hv : a.eval v = u) (hK : ∀ w', MapIs w' b (n + 1) key (upd val n u) → w.grownBy w' (some b) → w'.heap.size = w.heap.size → wpList Try.prog ops Q rest (a.put o.dst undef) w') : wpList Try.prog ops Q (o :: rest) a w := by
  refine wpList_plain hg fun K' hK' => ?_
  have hrun := store_new (v := u) K ht h hk hu hne
  unfold Oper.wp
  simp [execOp, hop, hm, hx, hv, hrun, Result.andThen]
  exact hK' _ _ (hK _ (h.stored u) (grown_set h) (by simp [setBlock]))
theorem wpList_range (hg : o.guard = none) (m : Operand) (t : TypeId) (hop : o.op = Op.range t m) {k e : TypeId} (ht : Try.prog.underlying t = some (.map k e)) (h : MapIs w b n key val)
    (hm : a.eval m = .map (some b)) (hK : wpList Try.prog ops Q rest (a.put o.dst (.pointer (some ⟨w.heap.size, 0, none⟩))) (w.alloc (.mapIter (some b) n #[] n))) : wpList Try.prog ops Q (o :: rest) a w := by
  refine wpList_plain hg fun K' hK' => ?_
  have hrun := range_run ht h
  unfold Oper.wp
  simp [execOp, hop, hm, hrun, Result.andThen]
  exact hK' _ _ hK
theorem wpList_next (hg : o.guard = none) (it : Operand) (hop : o.op = Op.next it false) {r : Nat} {pi : List Nat} (h : MapIs w b n key val) (hr : Iter w b r n pi) (hit : a.eval it = .pointer (some ⟨r, 0, none⟩))
    (hDone : (∀ i, i < n → i ∈ pi) → wpList Try.prog ops Q rest (a.put o.dst (.tuple #[.bool false])) w)
    (hMore : ∀ i w', i < n → i ∉ pi → Iter w' b r n (pi ++ [i]) → w.grownBy w' (some r) → w'.heap.size = w.heap.size → w'.rangeLeft b r < w.rangeLeft b r → (Instr.entry (.pointer (some ⟨r, 0, none⟩))).run Try.prog w' = .ok (.tuple #[key i, val i]) w' → wpList Try.prog ops Q rest (a.put o.dst (.tuple #[.bool true, key i, val i])) w') : wpList Try.prog ops Q (o :: rest) a w := by
  refine wpList_plain hg fun K' hK' => ?_
  unfold Oper.wp
  rcases next_run o.type h hr with ⟨h0, hrun⟩ | ⟨i, w', hi, hn, hrun, h1, h2, h3, h4, h5⟩
  · simp [execOp, hop, hit, hrun, Result.andThen]
    exact hK' _ _ (hDone h0)
  · simp [execOp, hop, hit, hrun, Result.andThen]
    exact hK' _ _ (hMore i w' hi hn h1 h2 h3 h4 h5)
theorem wpList_maplen (hg : o.guard = none) (m : Operand) (t : TypeId) (hop : o.op = Op.call { callee := Callee.builtin Builtin.len, args := #[m], argTypes := #[t] }) {k e : TypeId} (ht : Try.prog.underlying t = some (.map k e)) (h : MapIs w b n key val)
    (hm : a.eval m = .map (some b)) (hK : wpList Try.prog ops Q rest (a.put o.dst (.int .i64 n)) w) : wpList Try.prog ops Q (o :: rest) a w := by
  refine wpList_plain hg fun K' hK' => ?_
  unfold Oper.wp
  simp [execOp, hop, resolve, invoke, builtin, hm, Builtin.len_, run_underlying ht, MapKept.run_getObj_map h, Result.andThen, mk_size]
  exact hK' _ _ hK
end

/-! lists of numbers, none twice -/
theorem nodup_len : ∀ (n : Nat) (l : List Nat), l.Nodup → (∀ x, x ∈ l → x < n) → l.length ≤ n
  | 0, l, _, h => by
    cases l with
    | nil => simp
    | cons a r => exact absurd (h a (by simp)) (by omega)
  | n + 1, l, hd, h => by
    by_cases hm : n ∈ l
    · have e1 := List.length_erase_of_mem hm
      have h1 : (l.erase n).length ≤ n := nodup_len n (l.erase n) (hd.erase n) (fun x hx => by
        have hx' := (hd.mem_erase_iff).1 hx
        have := h x hx'.2
        have := hx'.1
        omega)
      omega
    · have := nodup_len n l hd (fun x hx => by
        have := h x hx
        have : x ≠ n := fun e => hm (e ▸ hx)
        omega)
      omega
theorem len_nodup : ∀ (n : Nat) (l : List Nat), (∀ x, x < n → x ∈ l) → n ≤ l.length
  | 0, _, _ => Nat.zero_le _
  | n + 1, l, h => by
    have hm := h n (by omega)
    have e1 := List.length_erase_of_mem hm
    have h1 := len_nodup n (l.erase n) (fun x hx => (List.mem_erase_of_ne (by omega)).2 (h x (by omega)))
    have : 0 < l.length := List.length_pos_of_mem hm
    omega
end Go.Proofs.Qxb6617558a
