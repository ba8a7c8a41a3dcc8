import Derived.Test.Qxb6617558aDa
namespace Go.Proofs.Qxb6617558a
open Go.RowKit Go.Maps
set_option linter.unusedVariables false
def argf (L : Loc) (x : Ta) (j : Nat) : Value := if j = 0 then .slice L.sa x.n L.sc else .slice L.va x.m L.vc
theorem argf_new (w : World) (L : Loc) (x : Ta) : (w.alloc (.cells #[.slice L.sa x.n L.sc, .slice L.va x.m L.vc] 25)).rowIs w.heap.size 25 2 (argf L x) := by
  refine World.rowIs_alloc _ #[.slice L.sa x.n L.sc, .slice L.va x.m L.vc] 25 _ fun i hi => ?_
  have hi : i < 2 := hi
  have : i = 0 ∨ i = 1 := by omega
  rcases this with rfl | rfl <;> rfl
/-- zzBuild under way -/
structure Bst (w : World) (B T T0 T1 : Nat) (L : Loc) (x : Ta) (p q : Nat) (vb : Nat → Nat) (wr : World) : Prop where
  tal : Tal Eq wr T T0 T1 x p id q id vb
  box : wr.rowIs B 25 2 (argf L x)
  below : Below w.heap.size w wr
theorem Bst.drew {w : World} {B T T0 T1 : Nat} {L : Loc} {x : Ta} {p q : Nat} {vb : Nat → Nat} {wr : World} (h : Bst w B T T0 T1 L x p q vb wr) : Bst w B T T0 T1 L x p q vb wr.drew :=
  ⟨h.tal.below (Below.refl _ _).drew, h.box, h.below.drew⟩
structure BuildPost (w : World) (x : Ta) (T T0 T1 : Nat) (vb : Nat → Nat) (w' : World) : Prop where
  tal : Tal Eq w' T T0 T1 x x.n id x.m id vb
  below : Below w.heap.size w w'
  n0 : w.heap.size ≤ T0
  n1 : w.heap.size ≤ T1
theorem snap_step {w : World} {B T T0 T1 : Nat} {L : Loc} {x : Ta} {r : Nat} {vb : Nat → Nat} {wr : World} (hok : x.Ok) (hd : x.Dist) (h : Bst w B T T0 T1 L x r 0 vb wr) (hr : r < x.n) (hT0 : w.heap.size ≤ T0) (wq : World) (hq : wq = wr ∨ wq = wr.drew) :
    Calls Try.prog 12 #[.pointer (some ⟨T, 0, none⟩), .string (x.src r), .int .i64 (x.cnt r)] wq fun e w' => e = .returned (.tuple #[]) ∧ Bst w B T T0 T1 L x (r + 1) 0 vb w' := by
  have h : Bst w B T T0 T1 L x r 0 vb wq := by
    rcases hq with rfl | rfl
    · exact h
    · exact h.drew
  have K := keysS hok hd (p := r + 1) (σ := id) (fun i hi => by show i < _; omega) (fun i j _ _ e => e)
  refine (setsnap_any T T0 T1 r (skey x id) (sval x id) (x.src r) (x.cnt r) wq h.tal.row h.tal.s (fun i hi => K.ok i (by omega)) (K.ok r (by omega)) (fun i hi e => by have := K.inj i r (by omega) (by omega) e; omega) rfl).mono ?_
  rintro e w' ⟨rfl, h1, h2, h3⟩
  have e1 : upd (sval x id) r (.int .i64 (x.cnt r)) = sval x id := sval_upd x id r
  rw [e1] at h1
  have hb := But.of_grown h2
  exact ⟨rfl, h.tal.snap hb h1, World.rowIs.of_block h.box (hb.block B h.box.lt (map_ne h.tal.s h.box)), h.below.trans (hb.below hT0 h.below.size)⟩
theorem upd_self {α : Type} (f : Nat → α) (i : Nat) : upd f i (f i) = f := by
  funext j
  by_cases e : j = i <;> simp [upd, e]
/-- zzBuild at the places of VM r -/
structure Mid (w wr : World) (B C T T0 T1 S : Nat) (L : Loc) (x : Ta) (r : Nat) (vb : Nat → Nat) (g j : Nat) (w3 : World) : Prop where
  st : Bst w B T T0 T1 L x x.n r vb wr
  but : But T1 wr w3
  map : MapIs w3 T1 (r + 1) (vkey x id) (vval (upd vb r g))
  loc : w3.rowIs C 38 6 (vcell (x.vm r) (.slice (L.pa r) (x.vm r).np (L.pc r)))
  row : ∃ v, w3.rowIs g 66 6 (vmf ((x.vm r).lat % 1000000000) ((x.vm r).lat / 1000000000) (x.vm r).nm (x.vm r).tn v) ∧ Places w3 S v j (x.vm r).pl
  hS : S ≤ g
  hC : C < S
  hw : wr.heap.size < S
theorem vmcells (d : Vm) (v : Value) (i : Nat) (hi : i < 6) : #[Value.string d.src, .string d.id, .int .i64 d.lat, .string d.nm, .string d.tn, v][i]? = some (vcell d v i) := by
  have : i = 0 ∨ i = 1 ∨ i = 2 ∨ i = 3 ∨ i = 4 ∨ i = 5 := by omega
  rcases this with rfl | rfl | rfl | rfl | rfl | rfl <;> rfl
theorem mid_start {w : World} {B T T0 T1 : Nat} {L : Loc} {x : Ta} {r : Nat} {vb : Nat → Nat} {wr : World} (hok : x.Ok) (hd : x.Dist) (h : Bst w B T T0 T1 L x x.n r vb wr) (hr : r < x.m) :
    Calls Try.prog 13 #[.pointer (some ⟨T, 0, none⟩), .string (x.vm r).src, .string (x.vm r).id, .int .i64 (x.vm r).lat, .string (x.vm r).nm, .string (x.vm r).tn] (wr.alloc (.cells #[.string (x.vm r).src, .string (x.vm r).id, .int .i64 (x.vm r).lat, .string (x.vm r).nm, .string (x.vm r).tn, .slice (L.pa r) (x.vm r).np (L.pc r)] 38)) fun e w' => e = .returned (.tuple #[]) ∧ ∃ g, Mid w wr B wr.heap.size T T0 T1 (wr.heap.size + 1) L x r vb g 0 w' := by
  generalize hw1 : World.alloc wr _ = w1
  have hb1 : Below wr.heap.size wr w1 := by rw [← hw1]; exact (Below.refl _ _).alloc (Nat.le_refl _) _
  have hs1 : w1.heap.size = wr.heap.size + 1 := by rw [← hw1]; simp
  have hC1 : w1.rowIs wr.heap.size 38 6 (vcell (x.vm r) (.slice (L.pa r) (x.vm r).np (L.pc r))) := by
    rw [← hw1]
    exact World.rowIs_alloc wr #[.string (x.vm r).src, .string (x.vm r).id, .int .i64 (x.vm r).lat, .string (x.vm r).nm, .string (x.vm r).tn, .slice (L.pa r) (x.vm r).np (L.pc r)] 38 _ fun i hi => vmcells (x.vm r) _ i hi
  have ht := h.tal.below hb1
  have K := keysV hok hd (q := r + 1) (π := id) (fun i hi => by show i < _; omega) (fun i j _ _ e => e)
  refine (setvm_any T T0 T1 r (vkey x id) (vval vb) (x.vm r).src (x.vm r).id (x.vm r).nm (x.vm r).tn (x.vm r).lat w1 ht.row ht.v (fun i hi => K.ok i (by omega)) (K.ok r (by omega)) (fun i hi e => by have := K.inj i r (by omega) (by omega) e; omega) rfl (hok.vm r hr).lat.1 (hok.vm r hr).lat.2).mono ?_
  rintro e w' ⟨rfl, g, hv⟩
  have hm := hv.map
  rw [vval_upd] at hm
  have hb2 := But.of_grown hv.grown
  have hnew := hv.new
  exact ⟨rfl, g, h, (But.of_below hb1).trans hb2, hm, World.rowIs.of_block hC1 (hb2.block _ (by omega) (map_ne ht.v hC1)), ⟨_, hv.row, .inl ⟨rfl, rfl⟩⟩, by omega, by omega, by omega⟩
theorem mid_step {w wr : World} {B C T T0 T1 S : Nat} {L : Loc} {x : Ta} {r : Nat} {vb : Nat → Nat} {g j : Nat} {w3 : World} (hok : x.Ok) (hd : x.Dist) (hs : x.Small) (h : Mid w wr B C T T0 T1 S L x r vb g j w3) (hr : r < x.m) (hj : j < (x.vm r).np) (p : Pl) (hp : p = (x.vm r).pl j) (o : Obj) :
    Calls Try.prog 14 #[.pointer (some ⟨T, 0, none⟩), .string (x.vm r).src, .string (x.vm r).id, .string p.tn, .string p.pl, .int .i64 p.sm, .int .i64 p.po, .float .f64 (p.f 0), .float .f64 (p.f 1), .float .f64 (p.f 2), .float .f64 (p.f 3), .float .f64 (p.f 4), .float .f64 (p.f 5)] (w3.alloc o) fun e w' => e = .returned (.tuple #[]) ∧ Mid w wr B C T T0 T1 S L x r vb g (j + 1) w' := by
  have hsz := hs.np r hr
  have K := keysV hok hd (q := r + 1) (π := id) (fun i hi => by show i < _; omega) (fun i j _ _ e => e)
  obtain ⟨v, h1, h2⟩ := h.row
  have hT : w3.rowIs T 50 2 (tf T0 T1) := World.rowIs.of_block h.st.tal.row (h.but.block T h.st.tal.row.lt (map_ne h.st.tal.v h.st.tal.row))
  have hPl : Places (w3.alloc o) S v j (x.vm r).pl := h2.but h.map.notRow (But.of_below ((Below.refl _ _).alloc (Nat.le_refl _) _))
  refine (addplace_any S T T0 T1 (r + 1) r g j (vkey x id) (vval (upd vb r g)) (x.vm r).src (x.vm r).id (x.vm r).nm (x.vm r).tn _ _ v (x.vm r).pl p (w3.alloc o) (World.rowIs.alloc hT o) (h.map.alloc o) K (by omega) rfl (by unfold vval; rw [upd_at]) (World.rowIs.alloc h1 o) h.hS hPl (by omega)).mono ?_
  rintro e w' ⟨rfl, v', k1, k2, k3⟩
  rw [hp, upd_self] at k2
  have hgl := h1.lt
  have hSg := h.hS
  have k4 : Below S w3 w' := ((Below.refl _ _).alloc (by omega) o).trans k3
  have hTl := h.st.tal.v.lt
  have hw := h.hw
  refine ⟨rfl, h.st, h.but.thenBelow k4 (by omega), h.map.below k4 (by omega), World.rowIs.of_block h.loc (k4.block C h.hC), ⟨v', k1, k2⟩, h.hS, h.hC, h.hw⟩
theorem mid_end {w wr : World} {B C T T0 T1 S : Nat} {L : Loc} {x : Ta} {r : Nat} {vb : Nat → Nat} {g : Nat} {w3 : World} (h : Mid w wr B C T T0 T1 S L x r vb g (x.vm r).np w3) (hT1 : w.heap.size ≤ T1) : Bst w B T T0 T1 L x x.n (r + 1) (upd vb r g) w3 := by
  obtain ⟨v, h1, h2⟩ := h.row
  refine ⟨h.st.tal.more h.but h.map ⟨v, (x.vm r).pl, h1, h2.mono (Nat.zero_le _), fun j _ => rfl⟩, World.rowIs.of_block h.st.box (h.but.block B h.st.box.lt (map_ne h.st.tal.v h.st.box)), h.st.below.trans (h.but.below hT1 h.st.below.size)⟩
set_option maxHeartbeats 1000000 in
set_option maxRecDepth 100000 in
theorem build_any (L : Loc) (x : Ta) (w : World) (ha : Arg w L x) (hok : x.Ok) (hs : x.Small) (hd : x.Dist) :
    Calls Try.prog 7 #[.agg #[.slice L.sa x.n L.sc, .slice L.va x.m L.vc]] w fun e w' => ∃ T T0 T1 vb, e = .returned (.pointer (some ⟨T, 0, none⟩)) ∧ BuildPost w x T T0 T1 vb w' := by
  have hsn := hs.n
  have hsm := hs.m
  have HA := hide ha
  have HO := hide hok
  have HS := hide hs
  have HD := hide hd
  clear ha hok hs hd
  go_enter Try.func7, Try.ntmps7
  go_upto_region 1 with fail
  generalize hwk : World.alloc w _ = wk
  have HB0 : Hid (Below w.heap.size w wk) := by rw [← hwk]; exact (Below.refl _ w).alloc (Nat.le_refl _) _
  have HX0 : Hid (wk.rowIs w.heap.size 25 2 (argf L x)) := by rw [← hwk]; exact argf_new w L x
  clear hwk
  go_upto_region 2 with (go_at_call 9; refine (new_any _).mono ?_; rintro e w1 ⟨rfl, hN⟩)
  have h1 : Bst w w.heap.size (wk.heap.size + 2) wk.heap.size (wk.heap.size + 1) L x 0 0 (fun _ => 0) w1 := ⟨tal_new hN x id id _, World.rowIs.of_block (unhide HX0) (hN.below.block _ (unhide HX0).lt), (unhide HB0).trans (hN.below.mono (unhide HB0).size)⟩
  have hT0 : w.heap.size ≤ wk.heap.size := (unhide HB0).size
  have hT1 : w.heap.size ≤ wk.heap.size + 1 := by omega
  have H1 := hide h1
  clear h1 hN HB0 HX0
  generalize wk.heap.size + 2 = T at H1 ⊢
  generalize wk.heap.size + 1 = T1 at H1 hT1 ⊢
  generalize wk.heap.size = T0 at H1 hT0 ⊢
  generalize hB : w.heap.size = B at H1 hT0 hT1 ⊢
  go_wp2
  go_loopw [4] (fun i wr => ∃ r : Nat, r ≤ x.n ∧ i = .int .i64 r ∧ Bst w B T T0 T1 L x r 0 (fun _ => 0) wr) (fun i _ => x.n - (intOf i).toNat)
  case atStart => exact ⟨0, Nat.zero_le _, rfl, unhide H1⟩
  case round =>
    obtain ⟨r, hr, rfl, hst⟩ := hrel
    have c0 := hst.box.cell (i := 0) (by decide)
    have c1 := hst.box.cell (i := 1) (by decide)
    simp only [argf] at c0 c1
    by_cases hlt : r < x.n
    · obtain ⟨b, o, ea, s1, s2⟩ := ((unhide HA).below hst.below).s r hlt
      rw [ea] at c0
      clear ea
      have HST := hide (fun wq hq => snap_step (unhide HO) (unhide HD) hst hlt (hB ▸ hT0) wq hq)
      clear hst
      go_wp2
      go_region_with (go_at_call 12; refine (unhide HST _ (by first | exact Or.inl rfl | exact Or.inr rfl)).mono ?_; rintro e w2 ⟨rfl, h2⟩)
      all_goals
        go_wp2
        exact ⟨⟨r + 1, by omega, by go_num, h2⟩, by simp [intOf]; omega⟩
    · have hrn : r = x.n := by omega
      subst hrn
      have HST := hide hst
      clear hst hlt hr
      go_wp2
      go_loopw [5] (fun i wr => ∃ (r : Nat) (vb : Nat → Nat), r ≤ x.m ∧ i = .int .i64 r ∧ Bst w B T T0 T1 L x x.n r vb wr) (fun i _ => x.m - (intOf i).toNat)
      case atStart => exact ⟨0, _, Nat.zero_le _, rfl, unhide HST⟩
      case round =>
        clear c0 c1 HST
        obtain ⟨r, vb, hr, rfl, hst⟩ := hrel
        have c0 := hst.box.cell (i := 0) (by decide)
        have c1 := hst.box.cell (i := 1) (by decide)
        simp only [argf] at c0 c1
        by_cases hlt : r < x.m
        · obtain ⟨b, o, ea, s1⟩ := ((unhide HA).below hst.below).v r hlt
          rw [ea] at c1
          clear ea
          have v0 := s1 0 (by decide)
          have v1 := s1 1 (by decide)
          have v2 := s1 2 (by decide)
          have v3 := s1 3 (by decide)
          have v4 := s1 4 (by decide)
          have v5 := s1 5 (by decide)
          simp [vcell] at v0 v1 v2 v3 v4 v5
          have M0 := hide (mid_start (unhide HO) (unhide HD) hst hlt)
          have HST := hide hst
          clear hst s1
          go_wp2_with (go_at_call 13; refine (unhide M0).mono ?_; rintro e w2 ⟨rfl, g, hM⟩)
          have HM := hide hM
          clear hM M0 HST v0 v1 v2 v3 v4 v5 c0 c1
          generalize hCn : wr.heap.size = C at HM ⊢
          go_loopw [7] (fun i w3 => ∃ j : Nat, j ≤ (x.vm r).np ∧ i = .int .i64 j ∧ Mid w wr B C T T0 T1 (C + 1) L x r vb g j w3) (fun i _ => (x.vm r).np - (intOf i).toNat)
          case atStart => exact ⟨0, Nat.zero_le _, rfl, unhide HM⟩
          case round =>
            obtain ⟨j, hj, rfl, hmid⟩ := hrel
            have hsz := (unhide HS).np r hlt
            have l0 := hmid.loc.cell (i := 0) (by decide)
            have l1 := hmid.loc.cell (i := 1) (by decide)
            have l5 := hmid.loc.cell (i := 5) (by decide)
            have hCl := hmid.loc.lt
            simp [vcell] at l0 l1 l5
            by_cases hjl : j < (x.vm r).np
            · obtain ⟨b, o, ea, s1⟩ := ((unhide HA).below (hmid.st.below.trans (hmid.but.below (hB ▸ hT1) hmid.st.below.size))).p r j hlt hjl
              rw [ea] at l5
              have M1 := hide (fun o => mid_step (unhide HO) (unhide HD) (unhide HS) hmid hlt hjl ((x.vm r).pl j) rfl o)
              clear ea hmid HM
              generalize (x.vm r).pl j = p at s1 M1
              have p0 : wr.cell? ⟨b, o + j * 10, none⟩ = some (.string p.tn) := s1 0 (by decide)
              have p1 : wr.cell? ⟨b, o + j * 10 + 1, none⟩ = some (.string p.pl) := s1 1 (by decide)
              have p2 : wr.cell? ⟨b, o + j * 10 + 2, none⟩ = some (.int .i64 p.sm) := s1 2 (by decide)
              have p3 : wr.cell? ⟨b, o + j * 10 + 3, none⟩ = some (.int .i64 p.po) := s1 3 (by decide)
              have p4 : wr.cell? ⟨b, o + j * 10 + 4, none⟩ = some (.float .f64 (p.f 0)) := s1 4 (by decide)
              have p5 : wr.cell? ⟨b, o + j * 10 + 5, none⟩ = some (.float .f64 (p.f 1)) := s1 5 (by decide)
              have p6 : wr.cell? ⟨b, o + j * 10 + 6, none⟩ = some (.float .f64 (p.f 2)) := s1 6 (by decide)
              have p7 : wr.cell? ⟨b, o + j * 10 + 7, none⟩ = some (.float .f64 (p.f 3)) := s1 7 (by decide)
              have p8 : wr.cell? ⟨b, o + j * 10 + 8, none⟩ = some (.float .f64 (p.f 4)) := s1 8 (by decide)
              have p9 : wr.cell? ⟨b, o + j * 10 + 9, none⟩ = some (.float .f64 (p.f 5)) := s1 9 (by decide)
              clear s1
              go_wp2_with (go_at_call 14; refine (unhide M1 _).mono ?_; rintro e w4 ⟨rfl, h4⟩)
              exact ⟨⟨j + 1, by omega, by go_num, h4⟩, by simp [intOf]; omega⟩
            · have hjn : j = (x.vm r).np := by omega
              have h5 := hide (mid_end (hjn ▸ hmid) (hB ▸ hT1))
              clear hmid HM
              go_wp2
              exact ⟨⟨r + 1, _, by omega, by go_num, unhide h5⟩, by simp [intOf]; omega⟩
        · have hrm : r = x.m := by omega
          subst hrm
          have HST := hide hst
          clear hst hlt hr
          go_wp2
          go_ret
          exact ⟨T, T0, T1, vb, rfl, (unhide HST).tal, (unhide HST).below, by omega, by omega⟩
end Go.Proofs.Qxb6617558a
