import Derived.Test.Qxb6617558aUm
import Derived.Deep.RegionLaw
import Derived.OwnWalk
namespace Go.Proofs.Qxb6617558a
open Go.RowKit Go.Maps
set_option linter.unusedVariables false
/-- a VM's cells -/
def vmf (x y : Int) (nm tn : ByteArray) (v : Value) (j : Nat) : Value := if j = 0 then .int .u64 x else if j = 1 then .int .i64 y else if j = 2 then .pointer none else if j = 3 then .string nm else if j = 4 then .string tn else v
/-- a tally's cells -/
def tf (T0 T1 : Nat) (j : Nat) : Value := if j = 0 then .map (some T0) else .map (some T1)
theorem row_ne {w : World} {r g t t' n n' : Nat} {f f' : Nat → Value} (h : w.rowIs r t n f) (h' : w.rowIs g t' n' f') (ht : t ≠ t') : r ≠ g := by
  rintro rfl
  obtain ⟨c, h1, _⟩ := h
  obtain ⟨c', h2, _⟩ := h'
  rw [h1] at h2
  cases h2
  exact ht rfl
/-- the places of a VM: nothing, or a row of its own from block S on -/
def Places (w : World) (S : Nat) (v : Value) (n : Nat) (P : Nat → Pl) : Prop :=
  (v = .slice none 0 0 ∧ n = 0) ∨ ∃ r cap F, v = .slice (some ⟨r, 0, none⟩) n cap ∧ S ≤ r ∧ n ≤ cap ∧ cap ≤ maxLen ∧ w.rowIs r 76 (cap * 10) F ∧ ∀ j c, j < n → c < 10 → F (j * 10 + c) = (P j).cell c
theorem Places.own {w : World} {S : Nat} {v : Value} {n : Nat} {P : Nat → Pl} (h : Places w S v n P) : ∃ xs, w.ownsRow S 76 10 v n xs ∧ ∀ j c, j < n → c < 10 → xs[j * 10 + c]? = some ((P j).cell c) := by
  rcases h with ⟨rfl, rfl⟩ | ⟨r, cap, F, rfl, hS, hn, hc, ⟨cur, hb, hs, hF⟩, hP⟩
  · exact ⟨[], World.ownsRow_nil _ _ _ _, fun j c hj => absurd hj (by omega)⟩
  · refine ⟨cur.toList.take (n * 10), ⟨?_, .inr ⟨r, cap, cur, rfl, hS, hb, hn, hc, hs, rfl⟩⟩, fun j c hj hc' => ?_⟩
    · rw [List.length_take]
      simp
      omega
    · rw [List.getElem?_take, if_pos (by omega)]
      have := hF (j * 10 + c) (by omega)
      rw [hP j c hj hc'] at this
      simpa using this
theorem Places.of_own {w : World} {S : Nat} {r n cap : Nat} {xs news : List Value} {P : Nat → Pl} {p : Pl} (h : w.ownsRow S 76 10 (.slice (some ⟨r, 0, none⟩) (n + 1) cap) (n + 1) (xs ++ news)) (hx : xs.length = n * 10)
    (hP : ∀ j c, j < n → c < 10 → xs[j * 10 + c]? = some ((P j).cell c)) (hp : ∀ c, c < 10 → news[c]? = some (p.cell c)) : Places w S (.slice (some ⟨r, 0, none⟩) (n + 1) cap) (n + 1) (upd P n p) := by
  rcases h.2 with ⟨h0, _⟩ | ⟨g, cap', cur, hv, hS, hb, hn, hc, hs, ht⟩
  · cases h0
  · cases hv
    refine .inr ⟨r, cap, fun j => cur.getD j undef, rfl, hS, hn, hc, ⟨cur, hb, hs, fun i hi => ?_⟩, fun j c hj hc' => ?_⟩
    · rw [Array.getElem?_eq_getElem (by omega)]
      simp [Array.getD, show i < cur.size by omega]
    · have h1 : (cur.toList.take ((n + 1) * 10))[j * 10 + c]? = some (cur.getD (j * 10 + c) undef) := by
        rw [List.getElem?_take, if_pos (by omega)]
        have : j * 10 + c < cur.size := by omega
        simp [Array.getD, this]
      rw [ht] at h1
      by_cases e : j = n
      · subst e
        rw [upd_at]
        rw [List.getElem?_append_right (by omega), hx, Nat.add_sub_cancel_left, hp c hc'] at h1
        exact (Option.some.inj h1).symm
      · rw [upd_ne _ _ _ (by omega)]
        rw [List.getElem?_append_left (by omega), hP j c (by omega) hc'] at h1
        exact (Option.some.inj h1).symm
theorem info76 : (Try.prog.info? 76).map (fun i => (i.zero, i.size, i.bytes)) = some (some (.agg #[.string ByteArray.empty, .string ByteArray.empty, .int .i64 0, .int .i64 0, .float .f64 0, .float .f64 0, .float .f64 0, .float .f64 0, .float .f64 0, .float .f64 0]), 10, 96) := by kernel_rfl
def AddPost (S g : Nat) (x y : Int) (nm tn : ByteArray) (n : Nat) (P : Nat → Pl) (p : Pl) (w w' : World) : Prop := ∃ v', w'.rowIs g 66 6 (vmf x y nm tn v') ∧ Places w' S v' (n + 1) (upd P n p) ∧ Below S w w'
theorem own_far {w : World} {S : Nat} {v : Value} {n g t N : Nat} {f : Nat → Value} {xs : List Value} (h : w.ownsRow S 76 10 v n xs) (hg : w.rowIs g t N f) (ht : 76 ≠ t) : some g ≠ v.ownBlock := by
  rcases h.2 with ⟨rfl, _⟩ | ⟨r, cap, cur, rfl, _, hb, _⟩
  · simp [Value.ownBlock]
  · simp [Value.ownBlock]
    rintro rfl
    obtain ⟨c', h2, _⟩ := hg
    rw [hb] at h2
    cases h2
    exact ht rfl
theorem below_grown {S : Nat} {w w' : World} {v : Value} {n : Nat} {xs : List Value} {o : Obj} (hS : S ≤ w.heap.size) (h : w.ownsRow S 76 10 v n xs) (hg : (w.alloc o).grownBy w' v.ownBlock) : Below S w w' :=
  ((Below.refl S w).alloc hS o).grown hg (by simp; omega) (fun k hk => (h.lt k hk).1)

theorem plcells (p : Pl) (c : Nat) (hc : c < 10) : [Value.string p.tn, .string p.pl, .int .i64 p.sm, .int .i64 p.po, .float .f64 (p.f 0), .float .f64 (p.f 1), .float .f64 (p.f 2), .float .f64 (p.f 3), .float .f64 (p.f 4), .float .f64 (p.f 5)][c]? = some (p.cell c) := by
  have : c = 0 ∨ c = 1 ∨ c = 2 ∨ c = 3 ∨ c = 4 ∨ c = 5 ∨ c = 6 ∨ c = 7 ∨ c = 8 ∨ c = 9 := by omega
  rcases this with rfl | rfl | rfl | rfl | rfl | rfl | rfl | rfl | rfl | rfl <;> rfl
theorem Places.set {w : World} {S : Nat} {v : Value} {n : Nat} {P : Nat → Pl} (h : Places w S v n P) {a : Addr} (ha : some a.block ≠ v.ownBlock) (u : Value) : Places (w.setCell a u) S v n P := by
  rcases h with h | ⟨r, cap, F, rfl, hS, hn, hc, hb, hP⟩
  · exact .inl h
  · exact .inr ⟨r, cap, F, rfl, hS, hn, hc, World.rowIs.setOther hb (fun e => ha (by simp [Value.ownBlock, e])) u, hP⟩
theorem vm_set {w : World} {g : Nat} {x y : Int} {nm tn : ByteArray} {v : Value} (h : w.rowIs g 66 6 (vmf x y nm tn v)) (u : Value) : (w.setCell ⟨g, 5, none⟩ u).rowIs g 66 6 (vmf x y nm tn u) := by
  refine (World.rowIs.set h 5 u).congr fun j hj => ?_
  have : j = 0 ∨ j = 1 ∨ j = 2 ∨ j = 3 ∨ j = 4 ∨ j = 5 := by omega
  rcases this with rfl | rfl | rfl | rfl | rfl | rfl <;> simp [vmf]
theorem add_shut {S g n r cap : Nat} {x y : Int} {nm tn : ByteArray} {v : Value} {P : Nat → Pl} {p : Pl} {w w1 : World} {xs news : List Value} {o : Obj} (hSl : S ≤ w.heap.size) (hS : S ≤ g) (hg : w.rowIs g 66 6 (vmf x y nm tn v)) (ho : w.ownsRow S 76 10 v n xs)
    (hxs : ∀ j c, j < n → c < 10 → xs[j * 10 + c]? = some ((P j).cell c)) (hp : ∀ c, c < 10 → news[c]? = some (p.cell c)) (hfar : some g ≠ v.ownBlock) (hown1 : w1.ownsRow S 76 10 (.slice (some ⟨r, 0, none⟩) (n + 1) cap) (n + 1) (xs ++ news)) (hgrow : (w.alloc o).grownBy w1 v.ownBlock) :
    AddPost S g x y nm tn n P p w (w1.setCell ⟨g, 5, none⟩ (.slice (some ⟨r, 0, none⟩) (n + 1) cap)) := by
  have hg1 : w1.rowIs g 66 6 (vmf x y nm tn v) := World.rowIs.of_block (World.rowIs.alloc hg o) (hgrow.block g (by have := hg.lt; simp; omega) hfar)
  refine ⟨_, vm_set hg1 _, (Places.of_own hown1 ho.1 hxs hp).set (own_far hown1 hg1 (by decide)) _, (below_grown hSl ho hgrow).setCell hS _⟩

set_option maxRecDepth 100000 in
theorem addplace_any (S T T0 T1 m i g n : Nat) (key val : Nat → Value) (src id nm tn : ByteArray) (x y : Int) (v : Value) (P : Nat → Pl) (p : Pl) (w : World)
    (hT : w.rowIs T 50 2 (tf T0 T1)) (hM : MapIs w T1 m key val) (hK : Keys 68 m key) (hi : i < m) (hki : key i = .agg #[.string src, .string id]) (hvi : val i = .pointer (some ⟨g, 0, none⟩))
    (hg : w.rowIs g 66 6 (vmf x y nm tn v)) (hS : S ≤ g) (hpl : Places w S v n P) (hn : n < 1048576) :
    Calls Try.prog 14 #[.pointer (some ⟨T, 0, none⟩), .string src, .string id, .string p.tn, .string p.pl, .int .i64 p.sm, .int .i64 p.po, .float .f64 (p.f 0), .float .f64 (p.f 1), .float .f64 (p.f 2), .float .f64 (p.f 3), .float .f64 (p.f 4), .float .f64 (p.f 5)] w fun e w' =>
      e = .returned (.tuple #[]) ∧ AddPost S g x y nm tn n P p w w' := by
  have c1 : w.cell? ⟨T, 1, none⟩ = some (.map (some T1)) := hT.cell (i := 1) (by decide)
  have hgl := hg.lt
  have c5 : w.cell? ⟨g, 5, none⟩ = some v := hg.cell (i := 5) (by decide)
  have k5 : w.frozen? ⟨g, 5, none⟩ = false := hg.frozen _
  obtain ⟨xs, hown, hxs⟩ := hpl.own
  have hfar := own_far hown hg (by decide)
  obtain ⟨i0, hi0, hz, hsz, hby⟩ := info_parts info76
  have HG := hide hg
  have HXS := hide hxs
  have HF := hide hfar
  have HO := hide hown
  have HM := hide hM
  have HK := hide hK
  have hSl : S ≤ w.heap.size := by omega
  clear hg hT hpl hfar hxs hown hM hK
  go_enter Try.func14, Try.ntmps14
  go_wp2_with (first | (at_lookup; refine wpList_hit rfl _ _ _ _ rfl lawV Try.underlying48 (unhide HM) (unhide HK) hi rfl hki.symm ?_; simp only [hvi, Bool.false_eq_true, if_false]) | (at_builtin; refine wpList_append_lies _ rfl _ _ 64 rfl S 76 i0 _ 10 96 Try.underlying64 hi0 hz hsz hby rfl (by decide) v n xs rfl ((unhide HO).alloc _) ⟨w.heap.size, 0, none⟩ 1 1 [.string p.tn, .string p.pl, .int .i64 p.sm, .int .i64 p.po, .float .f64 (p.f 0), .float .f64 (p.f 1), .float .f64 (p.f 2), .float .f64 (p.f 3), .float .f64 (p.f 4), .float .f64 (p.f 5)] rfl rfl (World.news_of_block (heap_alloc_new w _)) (by simp [Value.oneCell']) (by decide) (by unfold maxLen; omega) (by omega) (by simp; omega) _ rfl ?_; intro r cap w1 hown1 hgrow hat hlt; have q5 : w1.cell? ⟨g, 5, none⟩ = some v := hgrow.cell (by rw [World.cell?_alloc_past _ _ _ hgl]; exact c5) (unhide HF); have q6 : w1.frozen? ⟨g, 5, none⟩ = false := (hgrow.frozen_far ⟨g, 5, none⟩ (by simp; omega) (unhide HF)).trans (by rw [World.frozen?_alloc_past _ _ _ hgl]; exact k5)))
  go_end0
  exact ⟨rfl, add_shut hSl hS (unhide HG) (unhide HO) (unhide HXS) (fun c hc => plcells p c hc) (unhide HF) hown1 hgrow⟩
end Go.Proofs.Qxb6617558a
