import Derived.Test.Qxb6617558aVm
namespace Go.Proofs.Qxb6617558a
open Go.RowKit Go.Maps
set_option linter.unusedVariables false
theorem toList_inj {s a : ByteArray} (h : s.toList = a.toList) : s = a := by
  have e : ∀ x : ByteArray, x.toList = x.data.toList := fun x => ByteArray.toList_eq x
  rw [e, e] at h
  cases s; cases a
  simp at h
  subst h
  rfl
def SeenPost (S g : Nat) (x y : Int) (nm tn : ByteArray) (w w' : World) : Prop := w'.rowIs g 66 6 (vmf x y nm tn (.slice none 0 0)) ∧ Below S w w'
set_option maxRecDepth 100000 in
theorem seen_any (S g : Nat) (x y : Int) (nm tn nm0 tn0 : ByteArray) (w : World) (hg : w.rowIs g 66 6 (vmf 0 0 nm0 tn0 (.slice none 0 0))) (hS : S ≤ g) :
    Calls Try.prog 23 #[.pointer (some ⟨g, 0, none⟩), .agg #[.int .u64 x, .int .i64 y, .pointer none], .string nm, .string tn] w fun e w' => e = .returned (.tuple #[]) ∧ SeenPost S g x y nm tn w w' := by
  have hgl := hg.lt
  go_enter Try.func23, Try.ntmps23
  go_upto_region 1 with fail
  generalize hwk : World.alloc w _ = wk
  have hR : wk.rowIs g 66 6 (vmf 0 0 nm0 tn0 (.slice none 0 0)) := by rw [← hwk]; exact World.rowIs.alloc hg _
  have HR := hide hR
  have HB : Hid (Below S w wk) := by rw [← hwk]; exact (Below.refl S w).alloc (by omega) _
  have b0 : wk.cell? ⟨w.heap.size, 0, none⟩ = some (.int .u64 x) := by rw [← hwk]; simp
  have b1 : wk.cell? ⟨w.heap.size, 1, none⟩ = some (.int .i64 y) := by rw [← hwk]; simp
  have b2 : wk.cell? ⟨w.heap.size, 2, none⟩ = some (.pointer none) := by rw [← hwk]; simp
  clear hwk
  generalize hBn : w.heap.size = B at hgl b0 b1 b2 ⊢
  have hgb : (B = g) = False := by simp; omega
  have c0 : wk.cell? ⟨g, 0, none⟩ = some (.int .u64 0) := hR.cell (i := 0) (by decide)
  have c1 : wk.cell? ⟨g, 1, none⟩ = some (.int .i64 0) := hR.cell (i := 1) (by decide)
  have c2 : wk.cell? ⟨g, 2, none⟩ = some (.pointer none) := hR.cell (i := 2) (by decide)
  have c3 : wk.cell? ⟨g, 3, none⟩ = some (.string nm0) := hR.cell (i := 3) (by decide)
  have c4 : wk.cell? ⟨g, 4, none⟩ = some (.string tn0) := hR.cell (i := 4) (by decide)
  have c5 : wk.cell? ⟨g, 5, none⟩ = some (.slice none 0 0) := hR.cell (i := 5) (by decide)
  have k0 : wk.frozen? ⟨g, 0, none⟩ = false := hR.frozen _
  have k1 : wk.frozen? ⟨g, 1, none⟩ = false := hR.frozen _
  have k2 : wk.frozen? ⟨g, 2, none⟩ = false := hR.frozen _
  have k3 : wk.frozen? ⟨g, 3, none⟩ = false := hR.frozen _
  have k4 : wk.frozen? ⟨g, 4, none⟩ = false := hR.frozen _
  clear hR hg
  go_region
  go_wp2
  go_end0
  refine ⟨rfl, ?_, ?_⟩
  · have r0 := World.rowIs.set (unhide HR) 0 (.int .u64 x)
    have r1 := World.rowIs.set r0 1 (.int .i64 y)
    have r2 := World.rowIs.set r1 2 (.pointer none)
    have r3 := World.rowIs.set r2 3 (.string nm)
    have r4 := World.rowIs.set r3 4 (.string tn)
    refine World.rowIs.drew (r4.congr fun j hj => ?_)
    have : j = 0 ∨ j = 1 ∨ j = 2 ∨ j = 3 ∨ j = 4 ∨ j = 5 := by omega
    rcases this with rfl | rfl | rfl | rfl | rfl | rfl <;> simp [vmf]
  · exact ((((((unhide HB).setCell hS _).setCell hS _).setCell hS _).setCell hS _).setCell hS _).drew

def fresh (a b : ByteArray) : Pl := ⟨a, b, 0, 0, fun _ => 0⟩
structure InPost (S g : Nat) (x y : Int) (nm tn : ByteArray) (v : Value) (n : Nat) (P : Nat → Pl) (a b : ByteArray) (r cap : Nat) (w w' : World) : Prop where
  row : w'.rowIs g 66 6 (vmf x y nm tn (.slice (some ⟨r, 0, none⟩) (n + 1) cap))
  pls : Places w' S (.slice (some ⟨r, 0, none⟩) (n + 1) cap) (n + 1) (upd P n (fresh a b))
  below : Below S w w'
  far : ∀ k, k < w.heap.size → k ≠ g → some k ≠ v.ownBlock → w'.heap[k]? = w.heap[k]?
theorem freshcells (a b : ByteArray) (c : Nat) (hc : c < 10) : [Value.string a, .string b, .int .i64 0, .int .i64 0, .float .f64 0, .float .f64 0, .float .f64 0, .float .f64 0, .float .f64 0, .float .f64 0][c]? = some ((fresh a b).cell c) := plcells (fresh a b) c hc
theorem in_shut {S g n r cap : Nat} {x y : Int} {nm tn a b : ByteArray} {v : Value} {P : Nat → Pl} {w0 w w1 : World} {xs : List Value} {o : Obj} (hb : Below S w0 w) (hh : ∀ k, k < w0.heap.size → w.heap[k]? = w0.heap[k]?) (hSl : S ≤ w.heap.size) (hS : S ≤ g) (hg : w.rowIs g 66 6 (vmf x y nm tn v)) (ho : w.ownsRow S 76 10 v n xs)
    (hxs : ∀ j c, j < n → c < 10 → xs[j * 10 + c]? = some ((P j).cell c)) (hfar : some g ≠ v.ownBlock) (hown1 : w1.ownsRow S 76 10 (.slice (some ⟨r, 0, none⟩) (n + 1) cap) (n + 1) (xs ++ [Value.string a, .string b, .int .i64 0, .int .i64 0, .float .f64 0, .float .f64 0, .float .f64 0, .float .f64 0, .float .f64 0, .float .f64 0])) (hgrow : (w.alloc o).drew.grownBy w1 v.ownBlock) :
    InPost S g x y nm tn v n P a b r cap w0 (w1.setCell ⟨g, 5, none⟩ (.slice (some ⟨r, 0, none⟩) (n + 1) cap)) := by
  have hgrow : (w.alloc o).grownBy w1 v.ownBlock := ⟨hgrow.os, hgrow.tape, hgrow.output, hgrow.size, hgrow.block⟩
  have hg1 : w1.rowIs g 66 6 (vmf x y nm tn v) := World.rowIs.of_block (World.rowIs.alloc hg o) (hgrow.block g (by have := hg.lt; simp; omega) hfar)
  refine ⟨vm_set hg1 _, (Places.of_own hown1 ho.1 hxs (freshcells a b)).set (own_far hown1 hg1 (by decide)) _, hb.trans ((below_grown hSl ho hgrow).setCell hS _), fun k hk h1 h2 => ?_⟩
  have hk2 : k < w.heap.size := Nat.lt_of_lt_of_le hk hb.size
  exact (Below.heap_setCell w1 _ _ k (by exact h1)).trans ((hgrow.block k (by simp; omega) h2).trans ((Below.heap_alloc w o k hk2).trans (hh k hk)))

set_option maxRecDepth 100000 in
theorem in_any (S g n : Nat) (x y : Int) (nm tn : ByteArray) (v : Value) (P : Nat → Pl) (a b : ByteArray) (w : World) (hg : w.rowIs g 66 6 (vmf x y nm tn v)) (hS : S ≤ g) (hpl : Places w S v n P) (hn : n < 1048576)
    (hne : ∀ j, j < n → ¬ ((P j).tn = a ∧ (P j).pl = b)) :
    Calls Try.prog 24 #[.pointer (some ⟨g, 0, none⟩), .agg #[.string a, .string b]] w fun e w' => ∃ r cap, e = .returned (.pointer (some ⟨r, n * 10 + 2, none⟩)) ∧ InPost S g x y nm tn v n P a b r cap w w' := by
  have hgl := hg.lt
  have hv : ∃ ad cap, v = .slice ad n cap := by
    rcases hpl with ⟨rfl, rfl⟩ | ⟨r, cap, F, rfl, _⟩
    · exact ⟨_, _, rfl⟩
    · exact ⟨_, _, rfl⟩
  obtain ⟨ad, vc, rfl⟩ := hv
  have HPL := hide hpl
  have HG := hide hg
  have HNE := hide hne
  clear hpl hne hg
  go_enter Try.func24, Try.ntmps24
  go_upto_region 1 with fail
  generalize hwk : World.alloc w _ = wk
  have hR : wk.rowIs g 66 6 (vmf x y nm tn (.slice ad n vc)) := by rw [← hwk]; exact World.rowIs.alloc (unhide HG) _
  have hP : Places wk S (.slice ad n vc) n P := by
    rcases unhide HPL with h | ⟨r, cap, F, hv, h1, h2, h3, h4, h5⟩
    · exact .inl h
    · exact .inr ⟨r, cap, F, hv, h1, h2, h3, by rw [← hwk]; exact World.rowIs.alloc h4 _, h5⟩
  have HB : Hid (Below S w wk) := by rw [← hwk]; exact (Below.refl S w).alloc (by omega) _
  have HBk : Hid (∀ k, k < w.heap.size → wk.heap[k]? = w.heap[k]?) := by rw [← hwk]; exact fun k hk => Below.heap_alloc w _ k hk
  have b0 : wk.cell? ⟨w.heap.size, 0, none⟩ = some (.string a) := by rw [← hwk]; simp
  have b1 : wk.cell? ⟨w.heap.size, 1, none⟩ = some (.string b) := by rw [← hwk]; simp
  clear hwk
  generalize hBn : w.heap.size = B at hgl b0 b1 ⊢
  have hgb : (B = g) = False := by simp; omega
  have HR := hide hR
  have HP := hide hP
  have c5 : wk.cell? ⟨g, 5, none⟩ = some (.slice ad n vc) := hR.cell (i := 5) (by decide)
  have k5 : wk.frozen? ⟨g, 5, none⟩ = false := hR.frozen _
  clear hR hP HG HPL
  go_wp2
  go_loopw [11] (fun i wr => ∃ r k : Nat, r ≤ n ∧ i = .int .i64 r ∧ wr = wk.drewN k) (fun i _ => n - (intOf i).toNat)
  case atStart => exact ⟨0, 0, Nat.zero_le _, rfl, rfl⟩
  case round =>
    obtain ⟨r, k, hr, rfl, rfl⟩ := hrel
    by_cases hlt : r < n
    · obtain ⟨rr, e1, e2⟩ : ∃ rr, ad = some ⟨rr, 0, none⟩ ∧ ∀ c, c < 10 → wk.cell? ⟨rr, r * 10 + c, none⟩ = some ((P r).cell c) := by
        rcases unhide HP with ⟨h, h0⟩ | ⟨rr, cap, F, hv, h1, h2, h3, h4, h5⟩
        · omega
        · cases hv
          exact ⟨rr, rfl, fun c hc => by rw [h4.cell (by omega), h5 r c hlt hc]⟩
      have d0 : wk.cell? ⟨rr, r * 10, none⟩ = some (.string (P r).tn) := e2 0 (by decide)
      have d1 : wk.cell? ⟨rr, r * 10 + 1, none⟩ = some (.string (P r).pl) := e2 1 (by decide)
      subst e1
      clear e2
      by_cases hq : (P r).tn.toList = a.toList
      · have hq2 : ((P r).pl.toList = b.toList) = False := by
          simp
          intro h
          exact unhide HNE r hlt ⟨toList_inj hq, toList_inj h⟩
        go_wp2
        go_region
        go_wp2
        go_roundw
        case rel => exact ⟨r + 1, _, by omega, by go_num, rfl⟩
        case measure => simp [intOf]; omega
      · have hq2 : ((P r).tn.toList = a.toList) = False := by simp [hq]
        clear hq
        go_wp2
        go_region
        go_wp2
        go_roundw
        case rel => exact ⟨r + 1, _, by omega, by go_num, rfl⟩
        case measure => simp [intOf]; omega
    · have hrn : r = n := by omega
      subst hrn
      clear hlt hr
      go_wp2
      generalize hw7 : wk.drewN k = w7
      have eh : w7.heap = wk.heap := by rw [← hw7]; rfl
      have hR7 : w7.rowIs g 66 6 (vmf x y nm tn (.slice ad r vc)) := World.rowIs.of_block (unhide HR) (by rw [eh])
      have hP7 : Places w7 S (.slice ad r vc) r P := by
        rcases unhide HP with h | ⟨r1, cap, F, hv, h1, h2, h3, h4, h5⟩
        · exact .inl h
        · exact .inr ⟨r1, cap, F, hv, h1, h2, h3, World.rowIs.of_block h4 (by rw [eh]), h5⟩
      have HB7 : Hid (Below S w w7) := by rw [← hw7]; exact ⟨(unhide HB).os, (unhide HB).tape, (unhide HB).output, (unhide HB).size, (unhide HB).block⟩
      have HH7 : Hid (∀ k, k < w.heap.size → w7.heap[k]? = w.heap[k]?) := fun k hk => by rw [eh]; exact unhide HBk k hk
      have d0 : w7.cell? ⟨B, 0, none⟩ = some (.string a) := by rw [← hw7]; exact b0
      have d1 : w7.cell? ⟨B, 1, none⟩ = some (.string b) := by rw [← hw7]; exact b1
      have d5 : w7.cell? ⟨g, 5, none⟩ = some (.slice ad r vc) := hR7.cell (i := 5) (by decide)
      have e5 : w7.frozen? ⟨g, 5, none⟩ = false := hR7.frozen _
      have hg7 : g < w7.heap.size := hR7.lt
      have hB7 : B < w7.heap.size := World.block_lt_of_cell? w7 _ d0
      have hSl : S ≤ w7.heap.size := by omega
      obtain ⟨xs, hown, hxs⟩ := hP7.own
      have hfar := own_far hown hR7 (by decide)
      obtain ⟨i0, hi0, hz, hsz, hby⟩ := info_parts info76
      have HF := hide hfar
      have HO := hide hown
      have HXS := hide hxs
      have HR7 := hide hR7
      clear hfar hown hxs hR7 hP7 eh hw7 b0 b1 c5 k5 HR HP HB HNE
      go_region_law (refine step_append_lies _ rfl (.tmp 36) (.tmp 39) 64 rfl S 76 i0 _ 10 96 Try.underlying64 hi0 hz hsz hby rfl (by decide) (.slice ad r vc) r xs (by simp [Act.eval]) (World.ownsRow.alloc (w := w7.drew) (unhide HO) _) ⟨w7.heap.size, 0, none⟩ 1 1 [.string a, .string b, .int .i64 0, .int .i64 0, .float .f64 0, .float .f64 0, .float .f64 0, .float .f64 0, .float .f64 0, .float .f64 0] (by simp [Act.eval]) rfl (World.news_of_block (heap_alloc_new w7.drew _)) (by simp [Value.oneCell']) (by decide) (by unfold maxLen; omega) (by omega) (by simp; omega) _ rfl ?_; intro r2 cap w1 hown1 hgrow hat hlt; have q5 : w1.cell? ⟨g, 5, none⟩ = some (.slice ad r vc) := hgrow.cell ((World.cell?_alloc_past (w := w7) _ _ _ hg7).trans d5) (unhide HF); have q6 : w1.frozen? ⟨g, 5, none⟩ = false := (hgrow.frozen_far ⟨g, 5, none⟩ (by simp; omega) (unhide HF)).trans ((World.frozen?_alloc_past (w := w7) _ _ _ hg7).trans e5))
      all_goals
        have hI := in_shut (unhide HB7) (unhide HH7) hSl hS (unhide HR7) (unhide HO) (unhide HXS) (unhide HF) hown1 hgrow
        generalize World.setCell w1 _ _ = w8 at hI ⊢
        have m5 : w8.cell? ⟨g, 5, none⟩ = some (.slice (some ⟨r2, 0, none⟩) (r + 1) cap) := hI.row.cell (i := 5) (by decide)
        have HI := hide hI
        clear hI hown1 hgrow hat hlt q5 q6 d0 d1 d5 e5 HO HXS HF HR7 HB7
        go_wp2
        go_region
        go_wp2
        go_ret
        exact ⟨r2, cap, rfl, (unhide HI).row, (unhide HI).pls, (unhide HI).below.drew, (unhide HI).far⟩
end Go.Proofs.Qxb6617558a
