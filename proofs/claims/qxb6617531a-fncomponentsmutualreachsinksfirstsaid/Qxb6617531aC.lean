import Derived.Test.Qxb6617531aI
namespace Go.Proofs.Qxb6617531a
open Go.RowKit
set_option linter.unusedVariables false

theorem heap_four (w : World) (o0 o1 o2 o3 : Obj) : ((((w.alloc o0).alloc o1).alloc o2).alloc o3).drew.heap[w.heap.size]? = some o0 ∧ ((((w.alloc o0).alloc o1).alloc o2).alloc o3).drew.heap[w.heap.size + 1]? = some o1 ∧
    ((((w.alloc o0).alloc o1).alloc o2).alloc o3).drew.heap[w.heap.size + 1 + 1]? = some o2 ∧ ((((w.alloc o0).alloc o1).alloc o2).alloc o3).drew.heap[w.heap.size + 1 + 1 + 1]? = some o3 ∧
    ((((w.alloc o0).alloc o1).alloc o2).alloc o3).drew.heap.size = w.heap.size + 4 ∧ Below w.heap.size w ((((w.alloc o0).alloc o1).alloc o2).alloc o3).drew := by
  have e : ((((w.alloc o0).alloc o1).alloc o2).alloc o3).drew.heap = (((w.heap.push o0).push o1).push o2).push o3 := rfl
  refine ⟨?_, ?_, ?_, ?_, ?_, ?_⟩
  · rw [e, Array.getElem?_push, if_neg (by simp only [Array.size_push]; omega), Array.getElem?_push, if_neg (by simp only [Array.size_push]; omega), Array.getElem?_push, if_neg (by simp only [Array.size_push]; omega), Array.getElem?_push, if_pos rfl]
  · rw [e, Array.getElem?_push, if_neg (by simp only [Array.size_push]; omega), Array.getElem?_push, if_neg (by simp only [Array.size_push]; omega), Array.getElem?_push, if_pos (by simp)]
  · rw [e, Array.getElem?_push, if_neg (by simp), Array.getElem?_push, if_pos (by simp)]
  · rw [e, Array.getElem?_push, if_pos (by simp)]
  · rw [e]; simp
  · exact ((((((Below.refl _ _).alloc (Nat.le_refl _) _).alloc (by simp) _).alloc (by simp; omega) _).alloc (by simp; omega) _)).drew

def box (x n : Nat) : Obj := .cells #[.slice (some ⟨x, 0, none⟩) n n] 24 (0, 0)
def made (n : Nat) : Obj := .cells (madeCells #[.int .i64 0] n) 3 (0, 0)
/-- behind the first statement of 'components' -/
structure Pre (n : Nat) (w : World) (p q x y : Nat) (w' : World) : Prop where
  hp : w'.heap[p]? = some (box x n)
  hq : w'.heap[q]? = some (box y n)
  hx : w'.heap[x]? = some (made n)
  hy : w'.heap[y]? = some (made n)
  sz : w'.heap.size = w.heap.size + 4
  bel : Below w.heap.size w w'
  dis : p ≠ q ∧ p ≠ x ∧ p ≠ y ∧ q ≠ x ∧ q ≠ y ∧ x ≠ y
  lo : w.heap.size ≤ p ∧ w.heap.size ≤ q ∧ w.heap.size ≤ x ∧ w.heap.size ≤ y

theorem heap_six (w : World) (o0 o1 o2 o3 o4 o5 : Obj) :
    (∀ b, b < w.heap.size → ((((((w.alloc o0).alloc o1).alloc o2).alloc o3).alloc o4).alloc o5).heap[b]? = w.heap[b]?) ∧
    ((((((w.alloc o0).alloc o1).alloc o2).alloc o3).alloc o4).alloc o5).heap[w.heap.size]? = some o0 ∧ ((((((w.alloc o0).alloc o1).alloc o2).alloc o3).alloc o4).alloc o5).heap[w.heap.size + 1]? = some o1 ∧
    ((((((w.alloc o0).alloc o1).alloc o2).alloc o3).alloc o4).alloc o5).heap[w.heap.size + 1 + 1]? = some o2 ∧ ((((((w.alloc o0).alloc o1).alloc o2).alloc o3).alloc o4).alloc o5).heap[w.heap.size + 1 + 1 + 1]? = some o3 ∧
    ((((((w.alloc o0).alloc o1).alloc o2).alloc o3).alloc o4).alloc o5).heap[w.heap.size + 1 + 1 + 1 + 1]? = some o4 ∧ ((((((w.alloc o0).alloc o1).alloc o2).alloc o3).alloc o4).alloc o5).heap[w.heap.size + 1 + 1 + 1 + 1 + 1]? = some o5 ∧
    ((((((w.alloc o0).alloc o1).alloc o2).alloc o3).alloc o4).alloc o5).heap.size = w.heap.size + 1 + 1 + 1 + 1 + 1 + 1 ∧ Below w.heap.size w ((((((w.alloc o0).alloc o1).alloc o2).alloc o3).alloc o4).alloc o5) := by
  have hnew : ∀ (u : World) (o : Obj), (u.alloc o).heap[u.heap.size]? = some o := fun u o => heap_alloc_new u o
  have hold : ∀ (u : World) (o : Obj) (k : Nat), k < u.heap.size → (u.alloc o).heap[k]? = u.heap[k]? := fun u o k hk => Below.heap_alloc u o k hk
  have s1 : (w.alloc o0).heap.size = w.heap.size + 1 := by simp
  have s2 : ((w.alloc o0).alloc o1).heap.size = w.heap.size + 1 + 1 := by simp
  have s3 : (((w.alloc o0).alloc o1).alloc o2).heap.size = w.heap.size + 1 + 1 + 1 := by simp
  have s4 : ((((w.alloc o0).alloc o1).alloc o2).alloc o3).heap.size = w.heap.size + 1 + 1 + 1 + 1 := by simp
  have s5 : (((((w.alloc o0).alloc o1).alloc o2).alloc o3).alloc o4).heap.size = w.heap.size + 1 + 1 + 1 + 1 + 1 := by simp
  refine ⟨?_, ?_, ?_, ?_, ?_, ?_, ?_, by simp, ?_⟩
  · intro b hb
    rw [hold _ _ _ (by omega), hold _ _ _ (by omega), hold _ _ _ (by omega), hold _ _ _ (by omega), hold _ _ _ (by omega), hold _ _ _ hb]
  · rw [hold _ _ _ (by omega), hold _ _ _ (by omega), hold _ _ _ (by omega), hold _ _ _ (by omega), hold _ _ _ (by omega), hnew]
  · rw [hold _ _ _ (by omega), hold _ _ _ (by omega), hold _ _ _ (by omega), hold _ _ _ (by omega), ← s1, hnew]
  · rw [hold _ _ _ (by omega), hold _ _ _ (by omega), hold _ _ _ (by omega), ← s2, hnew]
  · rw [hold _ _ _ (by omega), hold _ _ _ (by omega), ← s3, hnew]
  · rw [hold _ _ _ (by omega), ← s4, hnew]
  · rw [← s5, hnew]
  · exact ((((((Below.refl _ _).alloc (Nat.le_refl _) _).alloc (by omega) _).alloc (by omega) _).alloc (by omega) _).alloc (by omega) _).alloc (by omega) _

theorem rowIs_of {w : World} {b t n : Nat} {c : Array Value} {f : Nat → Value} (h : w.heap[b]? = some (.cells c t (0, 0))) (hs : c.size = n) (hc : ∀ i, i < n → c[i]? = some (f i)) : w.rowIs b t n f := ⟨c, h, hs, hc⟩
theorem made_at (z : Value) (n i : Nat) (hi : i < n) : (madeCells #[z] n)[i]? = some z := by simp [madeCells, hi, Nat.mod_one]

/-- the blocks of 'components' -/
def mkK (S p q x y : Nat) : Blks := ⟨fun i => [p, q, S + 1 + 1, S + 1 + 1 + 1, S + 1 + 1 + 1 + 1, S + 1 + 1 + 1 + 1 + 1, x, y, S, S + 1].getD i 0, S + 1 + 1 + 1 + 1 + 1 + 1⟩
theorem getD_inj {l : List Nat} (h : l.Nodup) {i j : Nat} (hi : i < l.length) (hj : j < l.length) (hij : i ≠ j) : l.getD i 0 ≠ l.getD j 0 := by
  rw [List.getD_eq_getElem?_getD, List.getD_eq_getElem?_getD, List.getElem?_eq_getElem hi, List.getElem?_eq_getElem hj]
  intro e
  exact hij ((List.getElem_inj h).1 e)

theorem mem_init {n : Nat} {w wc : World} {p q x y : Nat} (h : Pre n w p q x y wc) :
    Mem (mkK (w.heap.size + 4) p q x y) n (fun _ => 0) (fun _ => 0) (fun _ => 0) (fun _ => false) [] [] 0 (.slice none 0 0) (.slice none 0 0)
      ((((((wc.alloc (.cells (madeCells #[.int .i64 0] n) 3)).alloc (.cells (madeCells #[.bool false] n) 4)).alloc (.cells #[.slice (some ⟨w.heap.size + 4 + 1, 0, none⟩) n n] 26)).alloc (.cells #[.slice none 0 0] 24)).alloc (.cells #[.slice none 0 0] 24)).alloc (.cells #[.int .i64 0] 3)) := by
  obtain ⟨h0, h1, h2, h3, h4, h5, h6, h7, _⟩ := heap_six wc (.cells (madeCells #[.int .i64 0] n) 3) (.cells (madeCells #[.bool false] n) 4) (.cells #[.slice (some ⟨w.heap.size + 4 + 1, 0, none⟩) n n] 26) (.cells #[.slice none 0 0] 24) (.cells #[.slice none 0 0] 24) (.cells #[.int .i64 0] 3)
  have hsz := h.sz
  have hd := h.dis
  have hl := h.lo
  have hpl : p < wc.heap.size := by obtain ⟨e, _⟩ := Array.getElem?_eq_some_iff.1 h.hp; exact e
  have hql : q < wc.heap.size := by obtain ⟨e, _⟩ := Array.getElem?_eq_some_iff.1 h.hq; exact e
  have hxl : x < wc.heap.size := by obtain ⟨e, _⟩ := Array.getElem?_eq_some_iff.1 h.hx; exact e
  have hyl : y < wc.heap.size := by obtain ⟨e, _⟩ := Array.getElem?_eq_some_iff.1 h.hy; exact e
  rw [hsz] at h1 h2 h3 h4 h5 h6 h7
  have hnd : [p, q, w.heap.size + 4 + 1 + 1, w.heap.size + 4 + 1 + 1 + 1, w.heap.size + 4 + 1 + 1 + 1 + 1, w.heap.size + 4 + 1 + 1 + 1 + 1 + 1, x, y, w.heap.size + 4, w.heap.size + 4 + 1].Nodup := by
    obtain ⟨d1, d2, d3, d4, d5, d6⟩ := hd
    simp only [List.nodup_cons, List.mem_cons, List.not_mem_nil, or_false, not_or, List.nodup_nil, not_false_eq_true, and_true]
    refine ⟨⟨?_, ?_, ?_, ?_, ?_, ?_, ?_, ?_, ?_⟩, ⟨?_, ?_, ?_, ?_, ?_, ?_, ?_, ?_⟩, ⟨?_, ?_, ?_, ?_, ?_, ?_, ?_⟩, ⟨?_, ?_, ?_, ?_, ?_, ?_⟩, ⟨?_, ?_, ?_, ?_, ?_⟩, ⟨?_, ?_, ?_, ?_⟩, ⟨?_, ?_, ?_⟩, ⟨?_, ?_⟩, ?_⟩ <;> first | assumption | (clear d1 d2 d3 d4 d5 d6; omega)
  refine ⟨fun i j hi hj hij => getD_inj hnd (by simpa using hi) (by simpa using hj) hij, fun i hi => ?_, by rw [h7]; exact Nat.le_refl _, (h0 p hpl).trans h.hp, (h0 q hql).trans h.hq, h3, h4, h5, h6,
    rowIs_of ((h0 x hxl).trans h.hx) (size_madeCells _ _) (fun i hi => made_at _ n i hi), rowIs_of ((h0 y hyl).trans h.hy) (size_madeCells _ _) (fun i hi => made_at _ n i hi), rowIs_of h1 (size_madeCells _ _) (fun i hi => made_at _ n i hi), rowIs_of h2 (size_madeCells _ _) (fun i hi => made_at _ n i hi),
    World.ownsRow_nil _ _ _ _, World.ownsRow_nil _ _ _ _, .inl rfl⟩
  rcases (show i = 0 ∨ i = 1 ∨ i = 2 ∨ i = 3 ∨ i = 4 ∨ i = 5 ∨ i = 6 ∨ i = 7 ∨ i = 8 ∨ i = 9 from by omega) with rfl | rfl | rfl | rfl | rfl | rfl | rfl | rfl | rfl | rfl <;> simp [mkK] <;> omega
theorem mkK_ge {S p q x y B : Nat} (h : B ≤ S ∧ B ≤ p ∧ B ≤ q ∧ B ≤ x ∧ B ≤ y) : ∀ i, i < 10 → B ≤ (mkK S p q x y).b i := by
  intro i hi
  rcases (show i = 0 ∨ i = 1 ∨ i = 2 ∨ i = 3 ∨ i = 4 ∨ i = 5 ∨ i = 6 ∨ i = 7 ∨ i = 8 ∨ i = 9 from by omega) with rfl | rfl | rfl | rfl | rfl | rfl | rfl | rfl | rfl | rfl <;> simp [mkK] <;> omega

end Go.Proofs.Qxb6617531a
