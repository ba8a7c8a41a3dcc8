import Derived.Test.Qxb6617558aVi
namespace Go.Proofs.Qxb6617558a
open Go.RowKit Go.Maps
open Go.ChangeMaps (setBlock)
set_option linter.unusedVariables false
theorem zero3 (w : World) : (zeroValue 3).run Try.prog w = .ok (.int .i64 0) w := by kernel_rfl
theorem zero57 (w : World) : (zeroValue 57).run Try.prog w = .ok (.pointer none) w := by kernel_rfl
structure NewPost (w w' : World) : Prop where
  row : w'.rowIs (w.heap.size + 2) 50 2 (tf w.heap.size (w.heap.size + 1))
  m0 : ∀ key val, MapIs w' w.heap.size 0 key val
  m1 : ∀ key val, MapIs w' (w.heap.size + 1) 0 key val
  below : Below w.heap.size w w'
  size : w'.heap.size = w.heap.size + 3
theorem new_post (w : World) : NewPost w (((w.alloc (.map #[] 0)).alloc (.map #[] 0)).alloc (.cells #[.map (some w.heap.size), .map (some (w.heap.size + 1))] 50)) := by
  have e1 : (w.alloc (.map #[] 0)).heap.size = w.heap.size + 1 := by simp
  have e2 : ((w.alloc (.map #[] 0)).alloc (.map #[] 0)).heap.size = w.heap.size + 2 := by simp
  have h0 : ∀ key val, mk 0 key val = #[] := fun _ _ => rfl
  refine ⟨?_, fun key val => ?_, fun key val => ?_, ?_, by simp⟩
  · rw [← e2]
    refine World.rowIs_alloc _ #[.map (some w.heap.size), .map (some (w.heap.size + 1))] 50 _ fun i hi => ?_
    have hi : i < 2 := hi
    have : i = 0 ∨ i = 1 := by omega
    rcases this with rfl | rfl <;> rfl
  · refine MapIs.alloc (MapIs.alloc ?_ _) _
    unfold MapIs
    rw [h0]
    exact (MapKept.heap_alloc w _).1
  · refine MapIs.alloc ?_ _
    unfold MapIs
    rw [h0, ← e1]
    exact (MapKept.heap_alloc _ _).1
  · exact (((Below.refl _ w).alloc (Nat.le_refl _) _).alloc (by simp) _).alloc (by simp; omega) _
set_option maxRecDepth 100000 in
theorem new_any (w : World) : Calls Try.prog 9 #[] w fun e w' => e = .returned (.pointer (some ⟨w.heap.size + 2, 0, none⟩)) ∧ NewPost w w' := by
  have hmm := @run_makeMap Try.prog
  go_enter Try.func9, Try.ntmps9
  go_wp2
  go_ret
  exact ⟨by simp, new_post w⟩
set_option maxRecDepth 100000 in
theorem setsnap_any (T T0 T1 n : Nat) (key val : Nat → Value) (s : ByteArray) (c : Int) (w : World) (hT : w.rowIs T 50 2 (tf T0 T1)) (hM : MapIs w T0 n key val) (hk : ∀ i, i < n → ∃ l, keyOf Try.prog 9 (key i) = some l) (hu : ∃ l, keyOf Try.prog 9 (key n) = some l) (hne : ∀ i, i < n → key i ≠ key n) (hs : key n = .string s) :
    Calls Try.prog 12 #[.pointer (some ⟨T, 0, none⟩), .string s, .int .i64 c] w fun e w' => e = .returned (.tuple #[]) ∧ (MapIs w' T0 (n + 1) key (upd val n (.int .i64 c)) ∧ w.grownBy w' (some T0) ∧ w'.heap.size = w.heap.size) := by
  have c0 : w.cell? ⟨T, 0, none⟩ = some (.map (some T0)) := hT.cell (i := 0) (by decide)
  have H := hide (And.intro hM (And.intro hk (And.intro hu hne)))
  clear hT hM hk hu hne
  go_enter Try.func12, Try.ntmps12
  go_wp2_with (at_mapUpdate; refine wpList_store rfl _ _ _ _ rfl lawS Try.underlying47 (unhide H).1 (unhide H).2.1 (unhide H).2.2.1 (unhide H).2.2.2 (.int .i64 c) rfl hs.symm rfl ?_; intro w1 a1 a2 a3)
  go_end0
  exact ⟨rfl, a1, a2, a3⟩
set_option maxRecDepth 100000 in
theorem snaplen_any (T T0 T1 n : Nat) (key val : Nat → Value) (w : World) (hT : w.rowIs T 50 2 (tf T0 T1)) (hM : MapIs w T0 n key val) : Calls Try.prog 16 #[.pointer (some ⟨T, 0, none⟩)] w fun e w' => e = .returned (.int .i64 n) ∧ w' = w := by
  have c0 : w.cell? ⟨T, 0, none⟩ = some (.map (some T0)) := hT.cell (i := 0) (by decide)
  have H := hide hM
  clear hT hM
  go_enter Try.func16, Try.ntmps16
  go_wp2_with (at_len; refine wpList_maplen rfl _ _ rfl Try.underlying47 (unhide H) rfl ?_)
  go_ret
  exact ⟨rfl, rfl⟩
set_option maxRecDepth 100000 in
theorem vmlen_any (T T0 T1 n : Nat) (key val : Nat → Value) (w : World) (hT : w.rowIs T 50 2 (tf T0 T1)) (hM : MapIs w T1 n key val) : Calls Try.prog 17 #[.pointer (some ⟨T, 0, none⟩)] w fun e w' => e = .returned (.int .i64 n) ∧ w' = w := by
  have c0 : w.cell? ⟨T, 1, none⟩ = some (.map (some T1)) := hT.cell (i := 1) (by decide)
  have H := hide hM
  clear hT hM
  go_enter Try.func17, Try.ntmps17
  go_wp2_with (at_len; refine wpList_maplen rfl _ _ rfl Try.underlying48 (unhide H) rfl ?_)
  go_ret
  exact ⟨rfl, rfl⟩
set_option maxRecDepth 100000 in
theorem snap_any (T T0 T1 n i : Nat) (key val : Nat → Value) (s : ByteArray) (c : Int) (w : World) (hT : w.rowIs T 50 2 (tf T0 T1)) (hM : MapIs w T0 n key val) (hK : Keys 9 n key) (hi : i < n) (hs : key i = .string s) (hv : val i = .int .i64 c) :
    Calls Try.prog 18 #[.pointer (some ⟨T, 0, none⟩), .string s] w fun e w' => e = .returned (.tuple #[.int .i64 c, .bool true]) ∧ w' = w := by
  have c0 : w.cell? ⟨T, 0, none⟩ = some (.map (some T0)) := hT.cell (i := 0) (by decide)
  have H := hide (And.intro hM hK)
  clear hT hM hK
  go_enter Try.func18, Try.ntmps18
  go_wp2_with (at_lookup; refine wpList_hit rfl _ _ _ _ rfl lawS Try.underlying47 (unhide H).1 (unhide H).2 hi rfl hs.symm ?_; simp only [hv, if_true])
  refine bodyPost_ret (v := .tuple #[.int .i64 c, .bool true]) (by simp [results, Try.results18, go_sem]) rfl ⟨rfl, rfl⟩

structure SetVm (T1 n : Nat) (key val : Nat → Value) (x y : Int) (nm tn : ByteArray) (g : Nat) (w w' : World) : Prop where
  new : w.heap.size ≤ g
  row : w'.rowIs g 66 6 (vmf x y nm tn (.slice none 0 0))
  map : MapIs w' T1 (n + 1) key (upd val n (.pointer (some ⟨g, 0, none⟩)))
  grown : w.grownBy w' (some T1)
def SetVmPost (T1 n : Nat) (key val : Nat → Value) (x y : Int) (nm tn : ByteArray) (w w' : World) : Prop := ∃ g, SetVm T1 n key val x y nm tn g w w'
theorem vmrow_new (w : World) (x y : Int) (nm tn : ByteArray) : (w.alloc (.cells #[.int .u64 x, .int .i64 y, .pointer none, .string nm, .string tn, .slice none 0 0] 66)).rowIs w.heap.size 66 6 (vmf x y nm tn (.slice none 0 0)) := by
  refine World.rowIs_alloc _ #[.int .u64 x, .int .i64 y, .pointer none, .string nm, .string tn, .slice none 0 0] 66 _ fun i hi => ?_
  have hi : i < 6 := hi
  have : i = 0 ∨ i = 1 ∨ i = 2 ∨ i = 3 ∨ i = 4 ∨ i = 5 := by omega
  rcases this with rfl | rfl | rfl | rfl | rfl | rfl <;> rfl
theorem grownBy_set {w w' : World} {b : Nat} {o o' : Obj} (h : w.grownBy w' (some b)) (hb : w'.heap[b]? = some o) : w.grownBy (setBlock w' b o') (some b) :=
  ⟨h.os, h.tape, h.output, Nat.le_trans h.size (by simp [setBlock]), fun i hi hne => (blk_other _ (fun e => hne (by rw [e]))).trans (h.block i hi hne)⟩
theorem setvm_shut {T1 n : Nat} {key val : Nat → Value} {x y : Int} {nm tn : ByteArray} {w w2 : World} (hM : MapIs w T1 n key val) (hb : Below w.heap.size w w2) :
    SetVm T1 n key val x y nm tn w2.heap.size w (setBlock (w2.alloc (.cells #[.int .u64 x, .int .i64 y, .pointer none, .string nm, .string tn, .slice none 0 0] 66)) T1 (.map (mk (n + 1) key (upd val n (.pointer (some ⟨w2.heap.size, 0, none⟩)))) (n + 1))) := by
  have hM2 : MapIs w2 T1 n key val := hM.below hb hM.lt
  have hM3 := hM2.alloc (.cells #[.int .u64 x, .int .i64 y, .pointer none, .string nm, .string tn, .slice none 0 0] 66)
  have hlt := hM.lt
  have hs := hb.size
  refine ⟨hb.size, World.rowIs.of_block (vmrow_new w2 x y nm tn) (blk_other _ (by omega)), hM3.stored _, grownBy_set (w' := w2.alloc _) ?_ hM3⟩
  have hb2 := hb.alloc hb.size (.cells #[.int .u64 x, .int .i64 y, .pointer none, .string nm, .string tn, .slice none 0 0] 66)
  exact ⟨hb2.os, hb2.tape, hb2.output, hb2.size, fun i hi _ => hb2.block i hi⟩
set_option maxRecDepth 100000 in
theorem setvm_any (T T0 T1 n : Nat) (key val : Nat → Value) (src id nm tn : ByteArray) (d : Int) (w : World) (hT : w.rowIs T 50 2 (tf T0 T1)) (hM : MapIs w T1 n key val) (hk : ∀ i, i < n → ∃ l, keyOf Try.prog 68 (key i) = some l) (hu : ∃ l, keyOf Try.prog 68 (key n) = some l) (hne : ∀ i, i < n → key i ≠ key n) (hs : key n = .agg #[.string src, .string id]) (hd : -9223372036854775808 ≤ d) (hd2 : d ≤ 9223372036854775807) :
    Calls Try.prog 13 #[.pointer (some ⟨T, 0, none⟩), .string src, .string id, .int .i64 d, .string nm, .string tn] w fun e w' => e = .returned (.tuple #[]) ∧ SetVmPost T1 n key val (d % 1000000000) (d / 1000000000) nm tn w w' := by
  have hTl := hT.lt
  have c1 : w.cell? ⟨T, 1, none⟩ = some (.map (some T1)) := hT.cell (i := 1) (by decide)
  have CA : ∀ wq : World, (wq = w ∨ wq = w.drew) → Calls Try.prog 21 #[.agg #[.int .u64 0, .int .i64 0, .pointer none], .int .i64 d] wq fun e w2 => e = .returned (.agg #[.int .u64 (d % 1000000000), .int .i64 (d / 1000000000), .pointer none]) ∧
      (T < w2.heap.size ∧ w2.cell? ⟨T, 1, none⟩ = some (.map (some T1)) ∧ (Instr.mapUpdate 48 (.map (some T1)) (.agg #[.string src, .string id]) (.pointer (some ⟨w2.heap.size, 0, none⟩))).run Try.prog (w2.alloc (.cells #[.int .u64 (d % 1000000000), .int .i64 (d / 1000000000), .pointer none, .string nm, .string tn, .slice none 0 0] 66)) =
        .ok () (setBlock (w2.alloc (.cells #[.int .u64 (d % 1000000000), .int .i64 (d / 1000000000), .pointer none, .string nm, .string tn, .slice none 0 0] 66)) T1 (.map (mk (n + 1) key (upd val n (.pointer (some ⟨w2.heap.size, 0, none⟩)))) (n + 1))) ∧ Hid (Below w.heap.size w w2)) := by
    intro wq hq
    have hqs : wq.heap.size = w.heap.size := by rcases hq with rfl | rfl <;> rfl
    have hqb : Below w.heap.size w wq := by
      rcases hq with rfl | rfl
      · exact Below.refl _ _
      · exact (Below.refl _ _).drew
    refine (add_any d wq hd hd2).mono ?_
    rintro e w2 ⟨rfl, hb⟩
    rw [hqs] at hb
    have hb2 := hqb.trans hb
    refine ⟨rfl, by have := hb2.size; omega, ?_, ?_, hb2⟩
    · rw [hb2.cell (p := ⟨T, 1, none⟩) hTl]; exact c1
    · rw [← hs]
      exact store_new lawV Try.underlying48 ((hM.below hb2 hM.lt).alloc _) hk hu hne
  have HA := hide CA
  have HM := hide hM
  clear CA hM hT hk hu hne
  generalize d % 1000000000 = x at HA ⊢
  generalize d / 1000000000 = y at HA ⊢
  go_enter Try.func13, Try.ntmps13
  go_region_with (go_at_call 21; refine (unhide HA _ (by first | exact Or.inl rfl | exact Or.inr rfl)).mono ?_; rintro e w2 ⟨rfl, k0, k1, ku, K2⟩)
  all_goals
    go_end0
    exact ⟨rfl, _, setvm_shut (unhide HM) (unhide K2)⟩

set_option maxRecDepth 100000 in
theorem vm_any (T T0 T1 n : Nat) (key val : Nat → Value) (src id : ByteArray) (w : World) (hT : w.rowIs T 50 2 (tf T0 T1)) (hM : MapIs w T1 n key val) (hk : ∀ i, i < n → ∃ l, keyOf Try.prog 68 (key i) = some l) (hu : ∃ l, keyOf Try.prog 68 (key n) = some l) (hne : ∀ i, i < n → key i ≠ key n) (hs : key n = .agg #[.string src, .string id]) :
    Calls Try.prog 22 #[.pointer (some ⟨T, 0, none⟩), .agg #[.string src, .string id]] w fun e w' => ∃ g, e = .returned (.pointer (some ⟨g, 0, none⟩)) ∧ SetVm T1 n key val 0 0 ByteArray.empty ByteArray.empty g w w' := by
  have hTl := hT.lt
  have c1 : w.cell? ⟨T, 1, none⟩ = some (.map (some T1)) := hT.cell (i := 1) (by decide)
  go_enter Try.func22, Try.ntmps22
  go_upto_region 1 with fail
  generalize hwk : World.alloc w _ = wk
  have hB : Below w.heap.size w wk := by rw [← hwk]; exact (Below.refl _ w).alloc (Nat.le_refl _) _
  have hB0 : w.heap.size < wk.heap.size := by rw [← hwk]; simp
  have b0 : wk.cell? ⟨w.heap.size, 0, none⟩ = some (.string src) := by rw [← hwk]; simp
  have b1 : wk.cell? ⟨w.heap.size, 1, none⟩ = some (.string id) := by rw [← hwk]; simp
  clear hwk
  have d1 : wk.cell? ⟨T, 1, none⟩ = some (.map (some T1)) := by rw [hB.cell (p := ⟨T, 1, none⟩) hTl]; exact c1
  have hMk : MapIs wk T1 n key val := hM.below hB hM.lt
  have L0 : (Instr.lookup 48 (.map (some T1)) (.agg #[.string src, .string id]) false).run Try.prog wk.drew = .ok (.pointer none) wk.drew := look_miss (w := wk.drew) lawV Try.underlying48 hMk hk (hs ▸ hu) (fun i hi => hs ▸ hne i hi) (zero57 _)
  have U0 := fun (W : World) (v : Value) (h : MapIs W T1 n key val) => hs ▸ store_new (v := v) lawV Try.underlying48 h hk hu hne
  have HU := hide U0
  have HM := hide hM
  have HMk := hide hMk
  have HB := hide hB
  have hTk : T < wk.heap.size := by omega
  clear U0 hM hMk hB hT hk hu hne c1
  generalize hBn : w.heap.size = B at hTl hB0 b0 b1 ⊢
  go_region
  go_wp2
  generalize hw5 : World.drew (World.alloc wk _) = w5
  have h5 : Below w.heap.size w w5 ∧ w5.rowIs wk.heap.size 66 6 (vmf 0 0 ByteArray.empty ByteArray.empty (.slice none 0 0)) ∧ MapIs w5 T1 n key val := by
    rw [← hw5]
    exact ⟨((unhide HB).alloc (by omega) _).drew, vmrow_new wk 0 0 ByteArray.empty ByteArray.empty, (unhide HMk).alloc _⟩
  have f1 : w5.cell? ⟨T, 1, none⟩ = some (.map (some T1)) := by
    rw [← hw5]; exact (World.cell?_alloc_past (w := wk) _ _ _ hTk).trans d1
  have g0 : w5.cell? ⟨B, 0, none⟩ = some (.string src) := by
    rw [← hw5]; exact (World.cell?_alloc_past (w := wk) _ _ _ hB0).trans b0
  have g1 : w5.cell? ⟨B, 1, none⟩ = some (.string id) := by
    rw [← hw5]; exact (World.cell?_alloc_past (w := wk) _ _ _ hB0).trans b1
  have U5 := unhide HU w5.drew (.pointer (some ⟨wk.heap.size, 0, none⟩)) h5.2.2
  have H5 := hide h5
  clear h5 hw5 L0 b0 b1 d1 HB HMk HU
  generalize hG : wk.heap.size = G at H5 U5 hTk hB0 ⊢
  go_region
  go_wp2
  go_ret
  have h5 := unhide H5
  have hGl : w.heap.size ≤ G := by omega
  have hlt := (unhide HM).lt
  refine ⟨G, rfl, hGl, World.rowIs.of_block (World.rowIs.drew h5.2.1) (blk_other _ (by omega)), h5.2.2.stored _, grownBy_set (w' := w5.drew) ⟨h5.1.os, h5.1.tape, h5.1.output, h5.1.size, fun i hi _ => h5.1.block i hi⟩ h5.2.2⟩
end Go.Proofs.Qxb6617558a
