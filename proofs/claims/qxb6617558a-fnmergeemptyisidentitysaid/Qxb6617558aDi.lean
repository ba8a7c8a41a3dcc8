import Derived.Test.Qxb6617558aBu
namespace Go.Proofs.Qxb6617558a
open Go.RowKit Go.Maps
set_option linter.unusedVariables false
theorem beq_list (s t : ByteArray) (h : s = t) : (s.toList == t.toList) = true := by subst h; simp
theorem bne_list (s t : ByteArray) (h : ¬ s = t) : (s.toList == t.toList) = false := by
  simp only [beq_eq_false_iff_ne]
  exact fun e => h (toList_inj e)
/-- the first r snaps' sources differ -/
def Ds (x : Ta) (r : Nat) : Prop := ∀ a b, a < r → b < a → ¬ x.src a = x.src b
def Dv (x : Ta) (r : Nat) : Prop := ∀ a b, a < r → b < a → ¬ ((x.vm a).src = (x.vm b).src ∧ (x.vm a).id = (x.vm b).id)
def Dp (v : Vm) (r : Nat) : Prop := ∀ a b, a < r → b < a → ¬ ((v.pl a).tn = (v.pl b).tn ∧ (v.pl a).pl = (v.pl b).pl)
theorem dist_of {x : Ta} (h1 : Ds x x.n) (h2 : Dv x x.m) (h3 : ∀ i, i < x.m → Dp (x.vm i) (x.vm i).np) : x.Dist := by
  refine ⟨fun i j hi hj e => ?_, fun i j hi hj e1 e2 => ?_, fun i a b hi ha hb e1 e2 => ?_⟩
  · rcases Nat.lt_trichotomy i j with h | h | h
    · exact absurd e.symm (h1 j i hj h)
    · exact h
    · exact absurd e (h1 i j hi h)
  · rcases Nat.lt_trichotomy i j with h | h | h
    · exact absurd ⟨e1.symm, e2.symm⟩ (h2 j i hj h)
    · exact h
    · exact absurd ⟨e1, e2⟩ (h2 i j hi h)
  · rcases Nat.lt_trichotomy a b with h | h | h
    · exact absurd ⟨e1.symm, e2.symm⟩ (h3 i hi b a hb h)
    · exact h
    · exact absurd ⟨e1, e2⟩ (h3 i hi a b ha h)
theorem ds_more {x : Ta} {r : Nat} (h : Ds x r) (h2 : ∀ b, b < r → ¬ x.src r = x.src b) : Ds x (r + 1) := fun a b ha hb => by
  by_cases e : a = r
  · subst e; exact h2 b hb
  · exact h a b (by omega) hb
theorem dv_more {x : Ta} {r : Nat} (h : Dv x r) (h2 : ∀ b, b < r → ¬ ((x.vm r).src = (x.vm b).src ∧ (x.vm r).id = (x.vm b).id)) : Dv x (r + 1) := fun a b ha hb => by
  by_cases e : a = r
  · subst e; exact h2 b hb
  · exact h a b (by omega) hb
theorem dp_more {v : Vm} {r : Nat} (h : Dp v r) (h2 : ∀ b, b < r → ¬ ((v.pl r).tn = (v.pl b).tn ∧ (v.pl r).pl = (v.pl b).pl)) : Dp v (r + 1) := fun a b ha hb => by
  by_cases e : a = r
  · subst e; exact h2 b hb
  · exact h a b (by omega) hb
structure DistPost (x : Ta) (b : Bool) (w w' : World) : Prop where
  dist : b = true → x.Dist
  below : Below w.heap.size w w'
theorem below_drewN {B : Nat} {w wk : World} (h : Below B w wk) (k : Nat) : Below B w (wk.drewN k) := ⟨h.os, h.tape, h.output, h.size, h.block⟩
set_option maxHeartbeats 2000000 in
set_option maxRecDepth 100000 in
theorem distinct_any (L : Loc) (x : Ta) (w : World) (ha : Arg w L x) (hs : x.Small) :
    Calls Try.prog 6 #[.agg #[.slice L.sa x.n L.sc, .slice L.va x.m L.vc]] w fun e w' => ∃ b, e = .returned (.bool b) ∧ DistPost x b w w' := by
  have hsn := hs.n
  have hsm := hs.m
  have HS := hide hs
  go_enter Try.func6, Try.ntmps6
  go_upto_region 1 with fail
  generalize hwk : World.alloc w _ = wk
  have hb0 : Below w.heap.size w wk := by rw [← hwk]; exact (Below.refl _ w).alloc (Nat.le_refl _) _
  have hx0 : wk.rowIs w.heap.size 25 2 (argf L x) := by rw [← hwk]; exact argf_new w L x
  clear hwk
  have HA := hide (ha.below hb0)
  have HB := hide hb0
  have c0 : wk.cell? ⟨w.heap.size, 0, none⟩ = some (.slice L.sa x.n L.sc) := hx0.cell (i := 0) (by decide)
  have c1 : wk.cell? ⟨w.heap.size, 1, none⟩ = some (.slice L.va x.m L.vc) := hx0.cell (i := 1) (by decide)
  clear ha hs hb0 hx0
  generalize hBn : w.heap.size = B at c0 c1 HB ⊢
  go_wp2
  go_loopw [3] (fun i wr => ∃ r k : Nat, r ≤ x.n ∧ i = .int .i64 r ∧ Ds x r ∧ wr = wk.drewN k) (fun i _ => x.n - (intOf i).toNat)
  case atStart => exact ⟨0, 0, Nat.zero_le _, rfl, fun a b h => absurd h (by omega), rfl⟩
  case round =>
    obtain ⟨r, k, hr, rfl, hds, rfl⟩ := hrel
    have HDS := hide hds
    clear hds
    by_cases hlt : r < x.n
    · obtain ⟨b, o, ea, s1, s2⟩ := (unhide HA).s r hlt
      have d0 := c0
      rw [ea] at d0
      have EA := hide ea
      clear ea s2 c0
      go_wp2
      go_loopw [4] (fun j wr => ∃ s k : Nat, s ≤ r ∧ j = .int .i64 s ∧ (∀ b, b < s → ¬ x.src r = x.src b) ∧ wr = wk.drewN k) (fun j _ => r - (intOf j).toNat)
      case atStart => exact ⟨0, k, Nat.zero_le _, rfl, fun b h => absurd h (by omega), rfl⟩
      case round =>
        obtain ⟨s, k2, hsr, rfl, hne, rfl⟩ := hrel
        have HNE := hide hne
        clear hne
        by_cases hsl : s < r
        · obtain ⟨b', o', ea', t1, t2⟩ := (unhide HA).s s (by omega)
          rw [unhide EA] at ea'
          cases ea'
          by_cases hq : x.src r = x.src s
          · have hb := beq_list _ _ hq
            clear hq
            go_wp2
            go_quiet (fail)
            go_wp2
            go_ret
            exact ⟨false, rfl, fun h => (by cases h), hBn ▸ below_drewN (below_drewN (unhide HB) _) _⟩
          · have hb := bne_list _ _ hq
            have HQ := hide hq
            clear hq
            go_wp2
            go_quiet (fail)
            go_wp2
            refine ⟨⟨s + 1, _, by omega, by go_num, fun b hb => ?_, rfl⟩, by simp [intOf]; omega⟩
            by_cases e : b = s
            · subst e; exact unhide HQ
            · exact unhide HNE b (by omega)
        · have hsr2 : s = r := by omega
          subst hsr2
          go_wp2
          exact ⟨⟨s + 1, _, by omega, by go_num, ds_more (unhide HDS) (unhide HNE), rfl⟩, by simp [intOf]; omega⟩
    · have hrn : r = x.n := by omega
      rw [hrn] at HDS
      clear hr
      go_wp2
      go_loopw [5] (fun i wr => ∃ r k : Nat, r ≤ x.m ∧ i = .int .i64 r ∧ Dv x r ∧ (∀ j, j < r → Dp (x.vm j) (x.vm j).np) ∧ wr = wk.drewN k) (fun i _ => x.m - (intOf i).toNat)
      case atStart => exact ⟨0, k, Nat.zero_le _, rfl, fun a b h => absurd h (by omega), fun j h => absurd h (by omega), rfl⟩
      case round =>
        clear hlt
        obtain ⟨r, k, hr, rfl, hdv, hdp, rfl⟩ := hrel
        have HDV := hide hdv
        have HDP := hide hdp
        clear hdv hdp
        by_cases hlt : r < x.m
        · obtain ⟨b, o, ea, s1⟩ := (unhide HA).v r hlt
          have d1 := c1
          rw [ea] at d1
          have EA := hide ea
          have v0 := s1 0 (by decide)
          have v1 := s1 1 (by decide)
          have v5 := s1 5 (by decide)
          simp [vcell] at v0 v1 v5
          have hnp := (unhide HS).np r hlt
          have C1 := hide c1
          clear ea c1 s1
          go_wp2
          go_loopw [6] (fun j wr => ∃ s k : Nat, s ≤ r ∧ j = .int .i64 s ∧ (∀ b, b < s → ¬ ((x.vm r).src = (x.vm b).src ∧ (x.vm r).id = (x.vm b).id)) ∧ wr = wk.drewN k) (fun j _ => r - (intOf j).toNat)
          case atStart => exact ⟨0, k, Nat.zero_le _, rfl, fun b h => absurd h (by omega), rfl⟩
          case round =>
            obtain ⟨s, k2, hsr, rfl, hne, rfl⟩ := hrel
            have HNE := hide hne
            clear hne
            by_cases hsl : s < r
            · obtain ⟨b', o', ea', t1⟩ := (unhide HA).v s (by omega)
              rw [unhide EA] at ea'
              cases ea'
              have u0 := t1 0 (by decide)
              have u1 := t1 1 (by decide)
              simp [vcell] at u0 u1
              clear t1
              by_cases hq : (x.vm r).src = (x.vm s).src
              · have hb1 := beq_list _ _ hq
                by_cases hq2 : (x.vm r).id = (x.vm s).id
                · have hb2 := beq_list _ _ hq2
                  clear hq hq2
                  go_wp2
                  go_quiet (fail)
                  go_wp2
                  go_ret
                  exact ⟨false, rfl, fun h => (by cases h), hBn ▸ below_drewN (below_drewN (unhide HB) _) _⟩
                · have hb2 := bne_list _ _ hq2
                  have HQ := hide hq2
                  clear hq hq2
                  go_wp2
                  go_quiet (fail)
                  go_wp2
                  refine ⟨⟨s + 1, _, by omega, by go_num, fun b hb => ?_, rfl⟩, by simp [intOf]; omega⟩
                  by_cases e : b = s
                  · subst e; exact fun h => unhide HQ h.2
                  · exact unhide HNE b (by omega)
              · have hb1 := bne_list _ _ hq
                have HQ := hide hq
                clear hq
                go_wp2
                go_quiet (fail)
                go_wp2
                refine ⟨⟨s + 1, _, by omega, by go_num, fun b hb => ?_, rfl⟩, by simp [intOf]; omega⟩
                by_cases e : b = s
                · subst e; exact fun h => unhide HQ h.1
                · exact unhide HNE b (by omega)
            · have hsr2 : s = r := by omega
              rw [hsr2] at HNE
              have HDV2 := hide (dv_more (unhide HDV) (unhide HNE))
              clear HNE HDV
              go_wp2
              go_loopw [8] (fun i wr => ∃ s k : Nat, s ≤ (x.vm r).np ∧ i = .int .i64 s ∧ Dp (x.vm r) s ∧ wr = wk.drewN k) (fun i _ => (x.vm r).np - (intOf i).toNat)
              case atStart => exact ⟨0, k2, Nat.zero_le _, rfl, fun a b h => absurd h (by omega), rfl⟩
              case round =>
                clear v0 v1 v5 d1
                obtain ⟨s, k3, hs, rfl, hdp, rfl⟩ := hrel
                have HD1 := hide hdp
                clear hdp
                by_cases hsl : s < (x.vm r).np
                · obtain ⟨b1, o1, ea1, t1⟩ := (unhide HA).p r s hlt hsl
                  have a0 : wk.cell? ⟨b1, o1 + s * 10, none⟩ = some (.string ((x.vm r).pl s).tn) := t1 0 (by decide)
                  have a1 : wk.cell? ⟨b1, o1 + s * 10 + 1, none⟩ = some (.string ((x.vm r).pl s).pl) := t1 1 (by decide)
                  clear t1
                  go_wp2
                  go_loopw [9] (fun j wr => ∃ t k : Nat, t ≤ s ∧ j = .int .i64 t ∧ (∀ b, b < t → ¬ (((x.vm r).pl s).tn = ((x.vm r).pl b).tn ∧ ((x.vm r).pl s).pl = ((x.vm r).pl b).pl)) ∧ wr = wk.drewN k) (fun j _ => s - (intOf j).toNat)
                  case atStart => exact ⟨0, k3, Nat.zero_le _, rfl, fun b h => absurd h (by omega), rfl⟩
                  case round =>
                    obtain ⟨t, k4, hts, rfl, hne, rfl⟩ := hrel
                    have HNE := hide hne
                    clear hne
                    by_cases htl : t < s
                    · obtain ⟨b2, o2, ea2, t2⟩ := (unhide HA).p r t hlt (by omega)
                      rw [ea1] at ea2
                      cases ea2
                      have e0 : wk.cell? ⟨b1, o1 + t * 10, none⟩ = some (.string ((x.vm r).pl t).tn) := t2 0 (by decide)
                      have e1 : wk.cell? ⟨b1, o1 + t * 10 + 1, none⟩ = some (.string ((x.vm r).pl t).pl) := t2 1 (by decide)
                      clear t2
                      by_cases hq : ((x.vm r).pl s).tn = ((x.vm r).pl t).tn
                      · have hb1 := beq_list _ _ hq
                        by_cases hq2 : ((x.vm r).pl s).pl = ((x.vm r).pl t).pl
                        · have hb2 := beq_list _ _ hq2
                          clear hq hq2
                          go_wp2
                          go_quiet (fail)
                          go_wp2
                          go_ret
                          exact ⟨false, rfl, fun h => (by cases h), hBn ▸ below_drewN (below_drewN (unhide HB) _) _⟩
                        · have hb2 := bne_list _ _ hq2
                          have HQ := hide hq2
                          clear hq hq2
                          go_wp2
                          go_quiet (fail)
                          go_wp2
                          refine ⟨⟨t + 1, _, by omega, by go_num, fun b hb => ?_, rfl⟩, by simp [intOf]; omega⟩
                          by_cases e : b = t
                          · subst e; exact fun h => unhide HQ h.2
                          · exact unhide HNE b (by omega)
                      · have hb1 := bne_list _ _ hq
                        have HQ := hide hq
                        clear hq
                        go_wp2
                        go_quiet (fail)
                        go_wp2
                        refine ⟨⟨t + 1, _, by omega, by go_num, fun b hb => ?_, rfl⟩, by simp [intOf]; omega⟩
                        by_cases e : b = t
                        · subst e; exact fun h => unhide HQ h.1
                        · exact unhide HNE b (by omega)
                    · have hts2 : t = s := by omega
                      rw [hts2] at HNE
                      have HD2 := hide (dp_more (unhide HD1) (unhide HNE))
                      clear HNE HD1
                      go_wp2
                      exact ⟨⟨s + 1, _, by omega, by go_num, unhide HD2, rfl⟩, by simp [intOf]; omega⟩
                · have hsn2 : s = (x.vm r).np := by omega
                  rw [hsn2] at HD1
                  go_wp2
                  refine ⟨⟨r + 1, _, by omega, by go_num, unhide HDV2, fun j hj => ?_, rfl⟩, by simp [intOf]; omega⟩
                  by_cases e : j = r
                  · subst e; exact unhide HD1
                  · exact unhide HDP j (by omega)
        · have hrm : r = x.m := by omega
          subst hrm
          go_wp2
          go_ret
          exact ⟨true, rfl, fun _ => dist_of (unhide HDS) (unhide HDV) (unhide HDP), hBn ▸ below_drewN (unhide HB) _⟩
end Go.Proofs.Qxb6617558a
