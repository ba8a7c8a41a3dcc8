import Derived.Test.Qxb6617558aBu
import Derived.Test.Qxb6617558aMg
namespace Go.Proofs.Qxb6617558a
open Go.RowKit Go.Maps
set_option linter.unusedVariables false
section
variable {w : World} {T T0 T1 : Nat} {x : Ta} {σ π vb : Nat → Nat}
theorem same_snap (ht : Tal PlEq w T T0 T1 x x.n σ x.m π vb) (hσ : Ord x.n σ) (hok : x.Ok) (hd : x.Dist) {i : Nat} (hi : i < x.n) : Calls Try.prog 18 #[.pointer (some ⟨T, 0, none⟩), .string (x.src i)] w fun e w' => e = .returned (.tuple #[.int .i64 (x.cnt i), .bool true]) ∧ w' = w := by
  obtain ⟨j, hj, e⟩ := hσ.sur i hi
  exact snap_any T T0 T1 x.n j (skey x σ) (sval x σ) (x.src i) (x.cnt i) w ht.row ht.s (keysS hok hd hσ.lt hσ.inj) hj (by rw [skey, e]) (by rw [sval, e])
theorem vm_hit (ht : Tal PlEq w T T0 T1 x x.n σ x.m π vb) (hπ : Ord x.m π) (hok : x.Ok) (hd : x.Dist) {i : Nat} (hi : i < x.m) : ∃ j, VmHit w T T0 T1 x.m j (vb j) (vkey x π) (vval vb) (x.vm i).src (x.vm i).id ∧ VmAt PlEq w (vb j) (x.vm i) := by
  obtain ⟨j, hj, e⟩ := hπ.sur i hi
  refine ⟨j, ⟨ht.row, ht.v, keysV hok hd hπ.lt hπ.inj, hj, by rw [vkey, e], rfl⟩, ?_⟩
  have := ht.vm j hj
  rw [e] at this
  exact this
theorem same_vm (ht : Tal PlEq w T T0 T1 x x.n σ x.m π vb) (hπ : Ord x.m π) (hok : x.Ok) (hd : x.Dist) {i : Nat} (hi : i < x.m) : Calls Try.prog 19 #[.pointer (some ⟨T, 0, none⟩), .string (x.vm i).src, .string (x.vm i).id] w fun e w' => e = .returned (.tuple #[.bool true, .int .i64 (x.vm i).lat, .string (x.vm i).nm, .string (x.vm i).tn, .int .i64 (x.vm i).np]) ∧ Below w.heap.size w w' := by
  obtain ⟨j, hh, v, P, h1, h2, h3⟩ := vm_hit ht hπ hok hd hi
  have hv : ∃ ad cap, v = .slice ad (x.vm i).np cap := by
    rcases h2 with ⟨e1, e2⟩ | ⟨rr, cap, F, e1, _⟩
    · exact ⟨none, 0, by rw [e1]; exact (congrArg (fun k => Value.slice none k 0) e2).symm⟩
    · exact ⟨_, _, e1⟩
  obtain ⟨ad, vc, rfl⟩ := hv
  exact zzvm_any T T0 T1 x.m j (vb j) (x.vm i).np vc (vkey x π) (vval vb) (x.vm i).src (x.vm i).id (x.vm i).nm (x.vm i).tn (x.vm i).lat ad w hh h1 (hok.vm i hi).lat.1 (hok.vm i hi).lat.2
theorem same_place (ht : Tal PlEq w T T0 T1 x x.n σ x.m π vb) (hπ : Ord x.m π) (hok : x.Ok) (hd : x.Dist) {i k : Nat} (hi : i < x.m) (hk : k < (x.vm i).np) (p : Pl) (hp : p = (x.vm i).pl k) : Calls Try.prog 20 #[.pointer (some ⟨T, 0, none⟩), .string (x.vm i).src, .string (x.vm i).id, .int .i64 k, .agg #[.string p.tn, .string p.pl, .int .i64 p.sm, .int .i64 p.po, .float .f64 (p.f 0), .float .f64 (p.f 1), .float .f64 (p.f 2), .float .f64 (p.f 3), .float .f64 (p.f 4), .float .f64 (p.f 5)]] w fun e w' => e = .returned (.bool true) ∧ Below w.heap.size w w' := by
  obtain ⟨j, hh, v, P, h1, h2, h3⟩ := vm_hit ht hπ hok hd hi
  rcases h2 with ⟨e1, e2⟩ | ⟨rr, cap, F, rfl, _, _, _, hF, hc⟩
  · omega
  · exact placeat_any T T0 T1 x.m j (vb j) k (x.vm i).np cap rr (vkey x π) (vval vb) (x.vm i).src (x.vm i).id (x.vm i).nm (x.vm i).tn _ _ (P k) p w hh h1 hk hF.lt (fun c hc' => by rw [hF.cell (by omega), hc k c hk hc']) (hp ▸ h3 k hk)
end
set_option maxHeartbeats 2000000 in
set_option maxRecDepth 100000 in
theorem same_any (T T0 T1 : Nat) (L : Loc) (x : Ta) (σ π vb : Nat → Nat) (w : World) (ht : Tal PlEq w T T0 T1 x x.n σ x.m π vb) (hσ : Ord x.n σ) (hπ : Ord x.m π) (ha : Arg w L x) (hok : x.Ok) (hs : x.Small) (hd : x.Dist) :
    Calls Try.prog 10 #[.pointer (some ⟨T, 0, none⟩), .agg #[.slice L.sa x.n L.sc, .slice L.va x.m L.vc]] w fun e w' => e = .returned (.bool true) ∧ Below w.heap.size w w' := by
  have hsn := hs.n
  have hsm := hs.m
  have HS := hide hs
  go_enter Try.func10, Try.ntmps10
  go_upto_region 1 with fail
  generalize hwk : World.alloc w _ = wk
  have hb0 : Below w.heap.size w wk := by rw [← hwk]; exact (Below.refl _ w).alloc (Nat.le_refl _) _
  have hx0 : wk.rowIs w.heap.size 25 2 (argf L x) := by rw [← hwk]; exact argf_new w L x
  clear hwk
  have htk := ht.below hb0
  have hak := ha.below hb0
  have L16 := hide (fun (wq : World) (hq : Below wk.heap.size wk wq) => snaplen_any T T0 T1 x.n _ _ wq (htk.below hq).row (htk.below hq).s)
  have L17 := hide (fun (wq : World) (hq : Below wk.heap.size wk wq) => vmlen_any T T0 T1 x.m _ _ wq (htk.below hq).row (htk.below hq).v)
  have L18 := hide (fun (wq : World) (hq : Below wk.heap.size wk wq) (i : Nat) (hi : i < x.n) => same_snap (htk.below hq) hσ hok hd hi)
  have L19 := hide (fun (wq : World) (hq : Below wk.heap.size wk wq) (i : Nat) (hi : i < x.m) => same_vm (htk.below hq) hπ hok hd hi)
  have L20 := hide (fun (wq : World) (hq : Below wk.heap.size wk wq) (i k : Nat) (hi : i < x.m) (hk : k < (x.vm i).np) (p : Pl) (hp : p = (x.vm i).pl k) => same_place (htk.below hq) hπ hok hd hi hk p hp)
  have HA := hide hak
  have HX := hide hx0
  have HB := hide hb0
  have c0 := hx0.cell (i := 0) (by decide)
  have c1 := hx0.cell (i := 1) (by decide)
  have c0 : wk.cell? ⟨w.heap.size, 0, none⟩ = some (.slice L.sa x.n L.sc) := c0
  have c1 : wk.cell? ⟨w.heap.size, 1, none⟩ = some (.slice L.va x.m L.vc) := c1
  clear ht hσ hπ ha hok hs hd hb0 hx0 htk hak
  generalize hBn : w.heap.size = B at HX c0 c1 HB ⊢
  go_quiet (first | (go_at_call 16; exact Calls.quiet_of_same (unhide L16 _ ⟨rfl, rfl, rfl, Nat.le_refl _, fun _ _ => rfl⟩)) | (go_at_call 17; exact Calls.quiet_of_same (unhide L17 _ ⟨rfl, rfl, rfl, Nat.le_refl _, fun _ _ => rfl⟩)))
  have hq0 : Below wk.heap.size wk (wk.drewN nq) := ⟨rfl, rfl, rfl, Nat.le_refl _, fun _ _ => rfl⟩
  have HQ := hide hq0
  clear hq0
  go_wp2
  go_loopw [5] (fun i wr => ∃ r : Nat, r ≤ x.n ∧ i = .int .i64 r ∧ Below wk.heap.size wk wr) (fun i _ => x.n - (intOf i).toNat)
  case atStart => exact ⟨0, Nat.zero_le _, rfl, unhide HQ⟩
  case round =>
    obtain ⟨r, hr, rfl, hq⟩ := hrel
    have d0 := cell_below hq c0
    have d1 := cell_below hq c1
    have HQ := hide hq
    by_cases hlt : r < x.n
    · obtain ⟨b, o, ea, s1, s2⟩ := ((unhide HA).below hq).s r hlt
      rw [ea] at d0
      have M18 := hide (unhide L18 wr hq r hlt)
      clear ea hq c0 c1
      go_wp2_with (go_at_call 18; refine (unhide M18).mono ?_; rintro e w2 ⟨rfl, rfl⟩)
      exact ⟨⟨r + 1, by omega, by go_num, unhide HQ⟩, by simp [intOf]; omega⟩
    · have hrn : r = x.n := by omega
      subst hrn
      clear hq hlt hr
      go_wp2
      go_loopw [8] (fun i wr => ∃ r : Nat, r ≤ x.m ∧ i = .int .i64 r ∧ Below wk.heap.size wk wr) (fun i _ => x.m - (intOf i).toNat)
      case atStart => exact ⟨0, Nat.zero_le _, rfl, unhide HQ⟩
      case round =>
        clear d0 d1 HQ
        obtain ⟨r, hr, rfl, hq⟩ := hrel
        have d0 := cell_below hq c0
        have d1 := cell_below hq c1
        have HQ := hide hq
        by_cases hlt : r < x.m
        · obtain ⟨b, o, ea, s1⟩ := ((unhide HA).below hq).v r hlt
          rw [ea] at d1
          have v0 := s1 0 (by decide)
          have v1 := s1 1 (by decide)
          have v2 := s1 2 (by decide)
          have v3 := s1 3 (by decide)
          have v4 := s1 4 (by decide)
          have v5 := s1 5 (by decide)
          simp [vcell] at v0 v1 v2 v3 v4 v5
          have hnp := (unhide HS).np r hlt
          clear ea hq s1
          go_upto_region 13 with fail
          generalize hw5 : World.alloc wr _ = w5
          have hb5 : Below wr.heap.size wr w5 := by rw [← hw5]; exact (Below.refl _ _).alloc (Nat.le_refl _) _
          have l0 : w5.cell? ⟨wr.heap.size, 0, none⟩ = some (.string (x.vm r).src) := by rw [← hw5]; simp
          have l1 : w5.cell? ⟨wr.heap.size, 1, none⟩ = some (.string (x.vm r).id) := by rw [← hw5]; simp
          have l2 : w5.cell? ⟨wr.heap.size, 2, none⟩ = some (.int .i64 (x.vm r).lat) := by rw [← hw5]; simp
          have l3 : w5.cell? ⟨wr.heap.size, 3, none⟩ = some (.string (x.vm r).nm) := by rw [← hw5]; simp
          have l4 : w5.cell? ⟨wr.heap.size, 4, none⟩ = some (.string (x.vm r).tn) := by rw [← hw5]; simp
          have l5 : w5.cell? ⟨wr.heap.size, 5, none⟩ = some (.slice (L.pa r) (x.vm r).np (L.pc r)) := by rw [← hw5]; simp
          have hq5 : Below wk.heap.size wk w5 := (unhide HQ).trans (hb5.mono (unhide HQ).size)
          have HQ5 := hide hq5
          have M19 := hide (unhide L19 w5 hq5 r hlt)
          clear hw5 hb5 v0 v1 v2 v3 v4 v5 d0 d1 hq5 HQ
          generalize hCn : wr.heap.size = C at l0 l1 l2 l3 l4 l5 ⊢
          go_upto_region 14 with (go_at_call 19; refine (unhide M19).mono ?_; rintro e w6 ⟨rfl, hb6⟩)
          have k0 := cell_below hb6 l0
          have k1 := cell_below hb6 l1
          have k2 := cell_below hb6 l2
          have k3 := cell_below hb6 l3
          have k4 := cell_below hb6 l4
          have k5 := cell_below hb6 l5
          have HQ6 := hide ((unhide HQ5).trans (hb6.mono (unhide HQ5).size))
          clear l0 l1 l2 l3 l4 l5 hb6 M19 HQ5
          go_wp2
          go_loopw [15] (fun i w7 => ∃ j : Nat, j ≤ (x.vm r).np ∧ i = .int .i64 j ∧ Below w6.heap.size w6 w7) (fun i _ => (x.vm r).np - (intOf i).toNat)
          case atStart => exact ⟨0, Nat.zero_le _, rfl, Below.refl _ _⟩
          case round =>
            obtain ⟨j, hj, rfl, h7⟩ := hrel
            have m0 := cell_below h7 k0
            have m1 := cell_below h7 k1
            have m5 := cell_below h7 k5
            have hq7 : Below wk.heap.size wk wr := (unhide HQ6).trans (h7.mono (unhide HQ6).size)
            have HQ7 := hide hq7
            have H7 := hide h7
            by_cases hjl : j < (x.vm r).np
            · obtain ⟨b, o, ea, s1⟩ := ((unhide HA).below hq7).p r j hlt hjl
              rw [ea] at m5
              have M20 : ∀ p, p = (x.vm r).pl j → ∀ n : Like wr, Calls Try.prog 20 #[.pointer (some ⟨T, 0, none⟩), .string (x.vm r).src, .string (x.vm r).id, .int .i64 j, .agg #[.string p.tn, .string p.pl, .int .i64 p.sm, .int .i64 p.po, .float .f64 (p.f 0), .float .f64 (p.f 1), .float .f64 (p.f 2), .float .f64 (p.f 3), .float .f64 (p.f 4), .float .f64 (p.f 5)]] n.val fun e w8 => e = .returned (.bool true) ∧ ∃ m : Like wr, w8 = m.val := by
                intro p hp n
                refine (unhide L20 n.val (hq7.trans (n.ok.mono hq7.size)) r j hlt hjl p hp).mono ?_
                rintro e w8 ⟨rfl, hb⟩
                exact ⟨rfl, ⟨w8, n.ok.trans (hb.mono n.ok.size)⟩, rfl⟩
              have H20 := hide (M20 _ rfl)
              clear M20 ea hq7 h7 k0 k1 k2 k3 k4 k5 c0 c1 L16 L17 L18 L19 L20
              generalize (x.vm r).pl j = p at s1 H20
              have F0 : ∀ n : Like wr, n.val.cell? ⟨C, 0, none⟩ = some (.string (x.vm r).src) := fun n => cell_below n.ok m0
              have F1 : ∀ n : Like wr, n.val.cell? ⟨C, 1, none⟩ = some (.string (x.vm r).id) := fun n => cell_below n.ok m1
              have F5 : ∀ n : Like wr, n.val.cell? ⟨C, 5, none⟩ = some (.slice (some ⟨b, o, none⟩) (x.vm r).np (L.pc r)) := fun n => cell_below n.ok m5
              have p0 : ∀ n : Like wr, n.val.cell? ⟨b, o + j * 10, none⟩ = some (.string p.tn) := fun n => cell_below n.ok (s1 0 (by decide))
              have p1 : ∀ n : Like wr, n.val.cell? ⟨b, o + j * 10 + 1, none⟩ = some (.string p.pl) := fun n => cell_below n.ok (s1 1 (by decide))
              have p2 : ∀ n : Like wr, n.val.cell? ⟨b, o + j * 10 + 2, none⟩ = some (.int .i64 p.sm) := fun n => cell_below n.ok (s1 2 (by decide))
              have p3 : ∀ n : Like wr, n.val.cell? ⟨b, o + j * 10 + 3, none⟩ = some (.int .i64 p.po) := fun n => cell_below n.ok (s1 3 (by decide))
              have p4 : ∀ n : Like wr, n.val.cell? ⟨b, o + j * 10 + 4, none⟩ = some (.float .f64 (p.f 0)) := fun n => cell_below n.ok (s1 4 (by decide))
              have p5 : ∀ n : Like wr, n.val.cell? ⟨b, o + j * 10 + 5, none⟩ = some (.float .f64 (p.f 1)) := fun n => cell_below n.ok (s1 5 (by decide))
              have p6 : ∀ n : Like wr, n.val.cell? ⟨b, o + j * 10 + 6, none⟩ = some (.float .f64 (p.f 2)) := fun n => cell_below n.ok (s1 6 (by decide))
              have p7 : ∀ n : Like wr, n.val.cell? ⟨b, o + j * 10 + 7, none⟩ = some (.float .f64 (p.f 3)) := fun n => cell_below n.ok (s1 7 (by decide))
              have p8 : ∀ n : Like wr, n.val.cell? ⟨b, o + j * 10 + 8, none⟩ = some (.float .f64 (p.f 4)) := fun n => cell_below n.ok (s1 8 (by decide))
              have p9 : ∀ n : Like wr, n.val.cell? ⟨b, o + j * 10 + 9, none⟩ = some (.float .f64 (p.f 5)) := fun n => cell_below n.ok (s1 9 (by decide))
              clear s1
              go_upto_region 19 with fail
              refine region_like wr mixed0 (by kernel_rfl) (Below.refl _ _) ?_
              repeat (go_big_quiet_step ((go_at_call 20; exact unhide H20 _)))
              refine wpQuiet_nil ?_
              rintro _ ⟨n, rfl⟩
              go_wp2
              exact ⟨⟨j + 1, by omega, by go_num, (unhide H7).trans (n.ok.mono (unhide H7).size)⟩, by simp [intOf]; omega⟩
            · clear h7 hq7 k0 k1 k2 k3 k4 k5
              go_wp2
              exact ⟨⟨r + 1, by omega, by go_num, unhide HQ7⟩, by simp [intOf]; omega⟩
        · have hrm : r = x.m := by omega
          subst hrm
          clear hq hlt hr
          go_wp2
          go_ret
          rw [hBn]
          exact ⟨rfl, (unhide HB).trans ((unhide HQ).mono (by have := (unhide HB).size; omega))⟩
end Go.Proofs.Qxb6617558a
