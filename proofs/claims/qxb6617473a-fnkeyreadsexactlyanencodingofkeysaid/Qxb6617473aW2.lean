import Derived.Test.Qxb6617473aW1
namespace Go.Proofs.Qxb6617473a
open Go.RowKit

/-- A Reader in block R: its two fields. -/
def Rd (w : World) (R : Nat) (v : Value) (f : Bool) : Prop := w.heap[R]? = some (.cells #[v, .bool f] 36 (0, 0))
theorem Rd.c0 {w : World} {R : Nat} {v : Value} {f : Bool} (h : Rd w R v f) : w.cell? ⟨R, 0, none⟩ = some v := by
  unfold Rd at h; simp [World.cell?, h]
theorem Rd.c1 {w : World} {R : Nat} {v : Value} {f : Bool} (h : Rd w R v f) : w.cell? ⟨R, 1, none⟩ = some (.bool f) := by
  unfold Rd at h; simp [World.cell?, h]
theorem Rd.fz {w : World} {R : Nat} {v : Value} {f : Bool} (h : Rd w R v f) (i : Nat) : w.frozen? ⟨R, i, none⟩ = false := by
  unfold Rd at h; simp [World.frozen?, h]
theorem Rd.set0 {w : World} {R : Nat} {v : Value} {f : Bool} (h : Rd w R v f) (u : Value) : Rd (w.setCell ⟨R, 0, none⟩ u) R u f := by
  unfold Rd at *; simp [World.setCell, Array.getElem?_modify, h]
theorem Rd.set1 {w : World} {R : Nat} {v : Value} {f : Bool} (h : Rd w R v f) (u : Bool) : Rd (w.setCell ⟨R, 1, none⟩ (.bool u)) R v u := by
  unfold Rd at *; simp [World.setCell, Array.getElem?_modify, h]
theorem Rd.lt {w : World} {R : Nat} {v : Value} {f : Bool} (h : Rd w R v f) : R < w.heap.size := by
  unfold Rd at h
  obtain ⟨hlt, _⟩ := Array.getElem?_eq_some_iff.1 h
  exact hlt
theorem grown_set {w : World} (R i : Nat) (u : Value) : w.grownBy (w.setCell ⟨R, i, none⟩ u) (some R) :=
  ⟨rfl, rfl, rfl, by simp, fun k _ hk => Below.heap_setCell _ _ _ _ (fun e => hk (by simp [e]))⟩
theorem grown_trans {w w1 w2 : World} {R : Option Nat} (h : w.grownBy w1 R) (h' : w1.grownBy w2 R) : w.grownBy w2 R :=
  ⟨h'.os.trans h.os, h'.tape.trans h.tape, h'.output.trans h.output, Nat.le_trans h.size h'.size,
    fun k hk hr => (h'.block k (Nat.lt_of_lt_of_le hk h.size) hr).trans (h.block k hk hr)⟩
theorem grown_refl (w : World) (R : Option Nat) : w.grownBy w R := ⟨rfl, rfl, rfl, Nat.le_refl _, fun _ _ _ => rfl⟩

/-- what a call on the reader in block R leaves: x is what it returns -/
structure RdOut (w : World) (R : Nat) (x : Int) (v : Value) (f : Bool) (e : Ending) (w' : World) : Prop where
  ret : e = .returned (.int .u64 x)
  rd : Rd w' R v f
  gr : w.grownBy w' (some R)

theorem fail_any (R : Nat) (v : Value) (f : Bool) (w : World) (h : Rd w R v f) :
    Calls Try.prog 16 #[.pointer (some ⟨R, 0, none⟩)] w fun e w' => RdOut w R 0 (.slice none 0 0) true e w' := by
  have h0 := h.c0
  have h1 := h.c1
  have f0 := h.fz 0
  have f1 := h.fz 1
  go_enter Try.func16, Try.ntmps16
  go_wp2
  go_ret
  exact ⟨rfl, (h.set1 true).set0 _, grown_trans (grown_set R 1 _) (grown_set R 0 _)⟩

/-! ### the plain head -/
def szOf (x : Int) : Nat := if x = 24 then 1 else if x = 25 then 2 else if x = 26 then 4 else 8
def val : Nat → (Nat → Int) → Int
  | 0, _ => 0
  | k + 1, E => val k E * 256 + E k
/-- how many bytes the head takes, and its number; none: no head -/
def hd (n : Nat) (D : Nat → Int) : Option (Nat × Int) :=
  if n = 0 then none else
  if 28 ≤ D 0 then none else
  if D 0 < 24 then some (1, D 0) else
  if n < 1 + szOf (D 0) then none else some (1 + szOf (D 0), val (szOf (D 0)) fun i => D (1 + i))

theorem and224_lt (x : Int) (h0 : 0 ≤ x) (h : x < 32) : bits .and .u8 x 224 = 0 := by
  rw [u8_and x 224 h0 (by omega) (by decide) (by decide)]
  obtain ⟨m, rfl⟩ := Int.eq_ofNat_of_zero_le h0
  have hm : m < 32 := by omega
  have : ∀ m : Fin 32, (m.val &&& 224) = 0 := by decide
  have := this ⟨m, hm⟩
  simpa using this
set_option maxRecDepth 20000 in
theorem and224_ge (x : Int) (h0 : 32 ≤ x) (h : x < 256) : (bits .and .u8 x 224 != 0) = true := by
  rw [u8_and x 224 (by omega) (by omega) (by decide) (by decide)]
  obtain ⟨m, rfl⟩ := Int.eq_ofNat_of_zero_le (a := x) (by omega)
  have hm : m < 256 := by omega
  have h32 : 32 ≤ m := by omega
  have : ∀ m : Fin 256, 32 ≤ m.val → (m.val &&& 224) ≠ 0 := by decide
  have := this ⟨m, hm⟩ h32
  simp only [bne_iff_ne, ne_eq]
  intro e
  apply this
  simp only [Int.toNat_natCast] at e
  have e2 : ((m &&& 224 : Nat) : Int) = ((0 : Nat) : Int) := e
  exact Int.ofNat.inj e2
theorem and31_lt (x : Int) (h0 : 0 ≤ x) (h : x < 32) : bits .and .u8 x 31 = x := by
  rw [u8_and x 31 h0 (by omega) (by decide) (by decide)]
  obtain ⟨m, rfl⟩ := Int.eq_ofNat_of_zero_le h0
  have hm : m < 32 := by omega
  have : ∀ m : Fin 32, (m.val &&& 31) = m.val := by decide
  have := this ⟨m, hm⟩
  exact congrArg Int.ofNat this

theorem Bs.ne {w : World} {R : Nat} {v : Value} {f : Bool} (h : Rd w R v f) (hv : ∀ z, v ≠ .int .u8 z) {b o : Nat} {z : Int} (hc : w.cell? ⟨b, o, none⟩ = some (.int .u8 z)) : b ≠ R := by
  rintro rfl
  unfold Rd at h
  simp only [World.cell?, h] at hc
  match o with
  | 0 => simp at hc; exact hv z hc
  | 1 => simp at hc
  | _ + 2 => simp at hc

theorem Bs.grown {w w' : World} {R : Nat} {v : Value} {f : Bool} {a : Option Addr} {n : Nat} {D : Nat → Int} (hB : Bs w a n D) (h : Rd w R v f) (hv : ∀ z, v ≠ .int .u8 z) (hg : w.grownBy w' (some R)) : Bs w' a n D := by
  intro i hi
  obtain ⟨b, o, ha, hc⟩ := hB i hi
  exact ⟨b, o, ha, hg.cell hc (by have := Bs.ne h hv hc; simpa using this)⟩

theorem Bs.drop {w : World} {a : Option Addr} {n c m : Nat} {D : Nat → Int} (hB : Bs w a n D) (hc : n ≤ c) :
    Bs w (if c = m then a else a.map (·.add m)) (n - m) (fun i => D (m + i)) := by
  intro i hi
  obtain ⟨b, o, ha, hcell⟩ := hB (m + i) (by omega)
  have hne : ¬ c = m := by omega
  rw [if_neg hne]
  subst ha
  refine ⟨b, o + m, ?_, by rw [Nat.add_assoc]; exact hcell⟩
  simp only [Option.map_some, Addr.add]
  split
  · rename_i h; simp [h]
  · rfl

/-- a head's way out: it returns x, m bytes are cut away -/
structure HeadYes (w : World) (R : Nat) (x : Int) (m n c : Nat) (D : Nat → Int) (e : Ending) (w' : World) : Prop where
  ex : ∃ a', RdOut w R x (.slice a' (n - m) (c - m)) false e w' ∧ Bs w' a' (n - m) (fun i => D (m + i)) ∧ (a' = none → n - m = 0)

theorem sl_ne (a : Option Addr) (n c : Nat) (z : Int) : Value.slice a n c ≠ .int .u8 z := by simp

/-- a head's way out by a cut of its data -/
theorem head_done {w : World} {R : Nat} {b o n c m : Nat} {x : Int} {D : Nat → Int} {a' : Option Addr} {e : Ending} (h : Rd w R (.slice (some ⟨b, o, none⟩) n c) false) (hB : Bs w (some ⟨b, o, none⟩) n D) (hc : n ≤ c)
    (ha : a' = if c = m then some ⟨b, o, none⟩ else (some ⟨b, o, none⟩ : Option Addr).map (·.add m)) (he : e = .returned (.int .u64 x)) :
    HeadYes w R x m n c D e (w.setCell ⟨R, 0, none⟩ (.slice a' (n - m) (c - m))) := by
  refine ⟨a', ⟨he, h.set0 _, grown_set R 0 _⟩, ?_, fun hn => ?_⟩
  · subst ha
    exact (Bs.drop hB hc).grown h (sl_ne _ _ _) (grown_set R 0 _)
  · subst ha; split at hn <;> simp at hn

set_option maxHeartbeats 400000 in
theorem head_failed (R : Nat) (v : Value) (w : World) (h : Rd w R v true) :
    Calls Try.prog 13 #[.pointer (some ⟨R, 0, none⟩), .int .u8 0] w fun e w' => RdOut w R 0 (.slice none 0 0) true e w' := by
  have h0 := h.c0
  have h1 := h.c1
  go_enter Try.func13, Try.ntmps13
  go_wp2_with (go_at_call 16; refine (fail_any R v true w h).mono ?_; rintro e w' hh; obtain ⟨rfl, h2, h3⟩ := hh)
  go_ret
  exact ⟨rfl, ‹_›, ‹_›⟩

set_option maxHeartbeats 400000 in
theorem head_empty (R : Nat) (a : Option Addr) (c : Nat) (w : World) (h : Rd w R (.slice a 0 c) false) :
    Calls Try.prog 13 #[.pointer (some ⟨R, 0, none⟩), .int .u8 0] w fun e w' => RdOut w R 0 (.slice none 0 0) true e w' := by
  have h0 := h.c0
  have h1 := h.c1
  go_enter Try.func13, Try.ntmps13
  go_wp2_with (go_at_call 16; refine (fail_any R _ false w h).mono ?_; rintro e w' hh; obtain ⟨rfl, h2, h3⟩ := hh)
  go_ret
  exact ⟨rfl, ‹_›, ‹_›⟩

set_option maxHeartbeats 400000 in
theorem head_one (R : Nat) (a : Option Addr) (n c : Nat) (D : Nat → Int) (w : World) (h : Rd w R (.slice a n c) false) (hD : Bs w a n D) (hn : 0 < n) (hm : n ≤ 1048576) (hc : n ≤ c) (hb : 0 ≤ D 0) (hb' : D 0 < 24) :
    Calls Try.prog 13 #[.pointer (some ⟨R, 0, none⟩), .int .u8 0] w fun e w' => HeadYes w R (D 0) 1 n c D e w' := by
  have h0 := h.c0
  have h1 := h.c1
  have f0 := h.fz 0
  have e1 : ((n : Int) == 0) = false := by simp; omega
  have e2 : (bits BinOp.and IntKind.u8 (D 0) 224 != 0) = false := by simp [and224_lt (D 0) hb (by omega)]
  have e3 := and31_lt (D 0) hb (by omega)
  obtain ⟨b, o, rfl, hc0⟩ := hD 0 hn
  rw [Nat.add_zero] at hc0
  by_cases hc1 : c = 1
  · subst hc1
    obtain rfl : n = 1 := by omega
    go_enter Try.func13, Try.ntmps13
    go_wp2
    go_ret
    exact head_done (m := 1) h hD hc (by simp) rfl
  · go_enter Try.func13, Try.ntmps13
    go_wp2
    go_ret
    exact head_done (m := 1) h hD hc (by simp [hc1, Addr.add]) rfl

set_option maxHeartbeats 400000 in
theorem head_bad (R : Nat) (a : Option Addr) (n c : Nat) (D : Nat → Int) (w : World) (h : Rd w R (.slice a n c) false) (hD : Bs w a n D) (hn : 0 < n) (hm : n ≤ 1048576) (hb : 28 ≤ D 0) (hb' : D 0 < 256) :
    Calls Try.prog 13 #[.pointer (some ⟨R, 0, none⟩), .int .u8 0] w fun e w' => RdOut w R 0 (.slice none 0 0) true e w' := by
  have h0 := h.c0
  have h1 := h.c1
  have e1 : ((n : Int) == 0) = false := by simp; omega
  obtain ⟨b, o, rfl, hc0⟩ := hD 0 hn
  rw [Nat.add_zero] at hc0
  by_cases h32 : 32 ≤ D 0
  · have e2 : (bits BinOp.and IntKind.u8 (D 0) 224 != 0) = true := and224_ge (D 0) h32 hb'
    go_enter Try.func13, Try.ntmps13
    go_wp2_with (go_at_call 16; refine (fail_any R _ false w h).mono ?_; rintro e w' hh; obtain ⟨rfl, h2, h3⟩ := hh)
    go_ret
    exact ⟨rfl, ‹_›, ‹_›⟩
  · have e2 : (bits BinOp.and IntKind.u8 (D 0) 224 != 0) = false := by simp [and224_lt (D 0) (by omega) (by omega)]
    have e3 := and31_lt (D 0) (by omega) (by omega)
    have d1 : (D 0 == 24) = false := by simp; omega
    have d2 : (D 0 == 25) = false := by simp; omega
    have d3 : (D 0 == 26) = false := by simp; omega
    have d4 : (D 0 == 27) = false := by simp; omega
    go_enter Try.func13, Try.ntmps13
    go_wp2_with (go_at_call 16; refine (fail_any R _ false w h).mono ?_; rintro e w' hh; obtain ⟨rfl, h2, h3⟩ := hh)
    go_ret
    exact ⟨rfl, ‹_›, ‹_›⟩

theorem sz_cases {x : Int} (h : 24 ≤ x) (h' : x < 28) : (x = 24 ∧ szOf x = 1) ∨ (x = 25 ∧ szOf x = 2) ∨ (x = 26 ∧ szOf x = 4) ∨ (x = 27 ∧ szOf x = 8) := by
  rcases (show x = 24 ∨ x = 25 ∨ x = 26 ∨ x = 27 from by omega) with rfl | rfl | rfl | rfl <;> decide

set_option maxHeartbeats 1000000 in
theorem head_short (R : Nat) (a : Option Addr) (n c : Nat) (D : Nat → Int) (w : World) (h : Rd w R (.slice a n c) false) (hD : Bs w a n D) (hn : 0 < n) (hm : n ≤ 1048576) (hb : 24 ≤ D 0) (hb' : D 0 < 28) (hs : n < 1 + szOf (D 0)) :
    Calls Try.prog 13 #[.pointer (some ⟨R, 0, none⟩), .int .u8 0] w fun e w' => RdOut w R 0 (.slice none 0 0) true e w' := by
  have h0 := h.c0
  have h1 := h.c1
  have e1 : ((n : Int) == 0) = false := by simp; omega
  obtain ⟨b, o, rfl, hc0⟩ := hD 0 hn
  rw [Nat.add_zero] at hc0
  have e2 : (bits BinOp.and IntKind.u8 (D 0) 224 != 0) = false := by simp [and224_lt (D 0) (by omega) (by omega)]
  have e3 := and31_lt (D 0) (by omega) (by omega)
  rcases sz_cases hb hb' with ⟨hx, hz⟩ | ⟨hx, hz⟩ | ⟨hx, hz⟩ | ⟨hx, hz⟩
  all_goals
    rw [hz] at hs
    rw [hx] at hc0 e2 e3
    clear hb hb' hz hx
    go_enter Try.func13, Try.ntmps13
    go_wp2_with (go_at_call 16; refine (fail_any R _ false w h).mono ?_; rintro e w' hh; obtain ⟨rfl, h2, h3⟩ := hh)
    go_ret
    exact ⟨rfl, ‹_›, ‹_›⟩

end Go.Proofs.Qxb6617473a
