import Derived.Test.Qxb6617558aSa
import Derived.Test.Qxb6617558aMe
import Derived.Test.Qxb6617558aSz
import Derived.Test.Qxb6617558aDi
import Derived.Test.Qxb6617558aBy
namespace Go.Proofs.Qxb6617558a
open Go.RowKit Go.Maps
set_option linter.unusedVariables false
/-- ZZMerge onto whatever, of an empty tally -/
theorem zzmergenil (t : Value) {w w' : World} (h : NewPost w w') : Calls Try.prog 8 #[t, .pointer (some ⟨w.heap.size + 2, 0, none⟩)] w' fun e w2 => e = .returned (.tuple #[]) ∧ Below w'.heap.size w' w2 := by
  have H := hide (mergenil_any t (w.heap.size + 2) w.heap.size (w.heap.size + 1) w' h.row (h.m0 _ _) (h.m1 _ _))
  clear h
  go_enter Try.func8, Try.ntmps8
  go_wp2_with (go_at_call 15; refine (unhide H).mono ?_; rintro e w2 ⟨rfl, hb⟩)
  go_end0
  exact ⟨rfl, hb⟩
def ZmPost (D T T0 T1 : Nat) (x : Ta) (w w' : World) : Prop := ∃ σ π vb', MergePost D T T0 T1 x σ π vb' w w'
theorem zzmerge (D T T0 T1 U U0 U1 : Nat) (x : Ta) (vb : Nat → Nat) (w : World) (ht : Tal PlEq w T T0 T1 x 0 (idx []) 0 id (fun _ => 0)) (ho : Tal Eq w U U0 U1 x x.n id x.m id vb) (hok : x.Ok) (hs : x.Small) (hd : x.Dist) (hD0 : D ≤ T0) (hD1 : D ≤ T1) (hDw : D ≤ w.heap.size) (n00 : U0 ≠ T0) (n10 : U1 ≠ T0) (n01 : U0 ≠ T1) (n11 : U1 ≠ T1) :
    Calls Try.prog 8 #[.pointer (some ⟨T, 0, none⟩), .pointer (some ⟨U, 0, none⟩)] w fun e w' => e = .returned (.tuple #[]) ∧ ZmPost D T T0 T1 x w w' := by
  have H := hide (merge_any D T T0 T1 U U0 U1 x vb w ht ho hok hs hd hD0 hD1 hDw n00 n10 n01 n11)
  clear ht ho hok hs hd
  go_enter Try.func8, Try.ntmps8
  go_wp2_with (go_at_call 15; refine (unhide H).mono ?_; rintro e w2 ⟨rfl, hb⟩)
  go_end0
  exact ⟨rfl, hb⟩
/-- the law's two arguments, boxed and read, in a later world -/
structure Env (w : World) (B B1 : Nat) (L M : Loc) (x y : Ta) (wr : World) : Prop where
  c0 : wr.cell? ⟨B, 0, none⟩ = some (.slice L.sa x.n L.sc)
  c1 : wr.cell? ⟨B, 1, none⟩ = some (.slice L.va x.m L.vc)
  e0 : wr.cell? ⟨B1, 0, none⟩ = some (.slice M.sa y.n M.sc)
  e1 : wr.cell? ⟨B1, 1, none⟩ = some (.slice M.va y.m M.vc)
  a : Arg wr L x
  b : Arg wr M y
  below : Below w.heap.size w wr
theorem Env.step {w : World} {B B1 : Nat} {L M : Loc} {x y : Ta} {wr w2 : World} (h : Env w B B1 L M x y wr) (hb : Below wr.heap.size wr w2) : Env w B B1 L M x y w2 :=
  ⟨cell_below hb h.c0, cell_below hb h.c1, cell_below hb h.e0, cell_below hb h.e1, h.a.below hb, h.b.below hb, h.below.trans (hb.mono h.below.size)⟩
set_option maxHeartbeats 4000000 in
set_option maxRecDepth 100000 in
theorem law_any (L M : Loc) (x y : Ta) (w : World) (ha : Arg w L x) (hok : x.Ok) (hy : Arg w M y) (hok2 : y.Ok) :
    Calls Try.prog 3 #[.agg #[.slice L.sa x.n L.sc, .slice L.va x.m L.vc], .agg #[.slice M.sa y.n M.sc, .slice M.va y.m M.vc]] w fun e w' => e = .returned (.bool true) ∧ Below w.heap.size w w' := by
  go_enter Try.func3, Try.ntmps3
  go_upto_region 1 with fail
  generalize hwk : World.alloc (World.alloc w _) _ = wk
  have hb1 : Below w.heap.size w wk := by rw [← hwk]; exact ((Below.refl _ w).alloc (Nat.le_refl _) _).alloc (by simp) _
  have hE : Env w w.heap.size (w.heap.size + 1) L M x y wk := ⟨by rw [← hwk]; simp, by rw [← hwk]; simp, by rw [← hwk]; simp, by rw [← hwk]; simp, ha.below hb1, hy.below hb1, hb1⟩
  clear hwk
  have HO := hide hok
  have HP := hide hok2
  have C4 := hide (bytes_any L M x y wk hE.a hok hE.b hok2)
  have c0 := hE.c0
  have c1 := hE.c1
  have e0 := hE.e0
  have e1 := hE.e1
  have HE := hide hE
  clear ha hok hy hok2 hb1 hE
  generalize w.heap.size + 1 = B1 at e0 e1 HE ⊢
  generalize hBn : w.heap.size = B at c0 c1 HE ⊢
  go_upto_region 3 with (go_at_call 4; refine (unhide C4).mono ?_; rintro e w2 ⟨b, rfl, hb2⟩; have HE2 := hide ((unhide HE).step hb2); clear hb2 c0 c1 e0 e1 HE C4)
  · go_ret
    exact ⟨rfl, (unhide HE2).below⟩
  · have c0 := (unhide HE2).c0
    have c1 := (unhide HE2).c1
    have e0 := (unhide HE2).e0
    have e1 := (unhide HE2).e1
    have A1 := hide (size_any L x 0 w2 (unhide HE2).a (unhide HO) (by decide) (by decide))
    go_upto_region 4 with (go_at_call 5; refine (unhide A1).mono ?_; rintro e w3 ⟨r, rfl, hr⟩)
    have HE3 := hide ((unhide HE2).step hr.below)
    obtain ⟨r0, r1, hsx, _⟩ := hr
    have HSX := hide hsx
    clear hsx c0 c1 e0 e1 A1 HE2
    by_cases hr2 : 1048576 < r
    · go_wp2
      go_ret
      exact ⟨rfl, (unhide HE3).below⟩
    · have hrb : decide (1048576 < r) = false := by simp; omega
      have SX := hide (unhide HSX (by omega))
      have c0 := (unhide HE3).c0
      have c1 := (unhide HE3).c1
      have e0 := (unhide HE3).e0
      have e1 := (unhide HE3).e1
      have A1 := hide (size_any M y r w3 (unhide HE3).b (unhide HP) (by omega) (by omega))
      go_upto_region 7 with (go_at_call 5; refine (unhide A1).mono ?_; rintro e w4 ⟨s, rfl, hs⟩)
      have HE4 := hide ((unhide HE3).step hs.below)
      obtain ⟨s0, s1, hsy, _⟩ := hs
      have HSY := hide hsy
      clear hsy c0 c1 e0 e1 A1 HE3
      by_cases hs2 : 1048576 < s
      · go_wp2
        go_ret
        exact ⟨rfl, (unhide HE4).below⟩
      · have hsb : decide (1048576 < s) = false := by simp; omega
        have SY := hide (unhide HSY (by omega))
        have c0 := (unhide HE4).c0
        have c1 := (unhide HE4).c1
        have e0 := (unhide HE4).e0
        have e1 := (unhide HE4).e1
        have D1 := hide (distinct_any L x w4 (unhide HE4).a (unhide SX))
        have D2 := hide (fun (wq : World) (hq : Below w4.heap.size w4 wq) => distinct_any M y wq ((unhide HE4).b.below hq) (unhide SY))
        go_upto_region 11 with (first | (go_at_call_of 6 (L.sa); refine (unhide D1).mono ?_; rintro e w5 ⟨b1, rfl, hd1⟩; have k0 := cell_below hd1.below e0; have k1 := cell_below hd1.below e1; have HD1 := hide hd1; clear hd1 e0 e1 D1; cases b1) | (go_at_call_of 6 (M.sa); refine (unhide D2 _ (unhide HD1).below).mono ?_; rintro e w6 ⟨b2, rfl, hd2⟩; have HD2 := hide hd2; clear hd2; cases b2))
        · go_ret
          exact ⟨rfl, ((unhide HE4).step (unhide HD1).below).below⟩
        · go_ret
          exact ⟨rfl, (((unhide HE4).step (unhide HD1).below).step (unhide HD2).below).below⟩
        · have HE6 := hide (((unhide HE4).step (unhide HD1).below).step (unhide HD2).below)
          have DX := hide ((unhide HD1).dist rfl)
          have DY := hide ((unhide HD2).dist rfl)
          clear HE4 HD1 HD2 D2 k0 k1 c0 c1 HSX HSY
          have c0 := (unhide HE6).c0
          have c1 := (unhide HE6).c1
          have BX := hide (build_any L x w6 (unhide HE6).a (unhide HO) (unhide SX) (unhide DX))
          go_upto_region 12 with (go_at_call 7; refine (unhide BX).mono ?_; rintro e w7 ⟨T, T0, T1, vb, rfl, hbx⟩)
          have HE7 := hide ((unhide HE6).step hbx.below)
          have HT7 := hide hbx.tal
          clear hbx BX HE6 c0 c1
          go_upto_region 13 with (first | (go_at_call 9; refine (new_any _).mono ?_; rintro e w8 ⟨rfl, hn⟩) | (go_at_call 8; refine (zzmergenil _ hn).mono ?_; rintro e w9 ⟨rfl, hb9⟩))
          have h79 : Below w7.heap.size w7 w9 := hn.below.trans (hb9.mono hn.below.size)
          have HE9 := hide ((unhide HE7).step h79)
          have HT9 := hide ((unhide HT7).below h79)
          clear hn hb9 h79 HE7 HT7
          go_upto_region 14 with (go_at_call 9; refine (new_any _).mono ?_; rintro e w10 ⟨rfl, hn⟩)
          have HE10 := hide ((unhide HE9).step hn.below)
          have HN := hide hn
          clear hn
          have e0 := (unhide HE10).e0
          have e1 := (unhide HE10).e1
          have BY := hide (build_any M y w10 (unhide HE10).b (unhide HP) (unhide SY) (unhide DY))
          go_upto_region 15 with (first | (go_at_call 7; refine (unhide BY).mono ?_; rintro e w11 ⟨U, U0, U1, ub, rfl, hby⟩; have hsz := (unhide HN).size; have n0 := hby.n0; have n1 := hby.n1; have ZM := hide (zzmerge w9.heap.size (w9.heap.size + 2) w9.heap.size (w9.heap.size + 1) U U0 U1 y ub w11 ((tal_new (unhide HN) y (idx []) id (fun _ => 0)).below hby.below) hby.tal (unhide HP) (unhide SY) (unhide DY) (Nat.le_refl _) (by omega) (by have := hby.below.size; omega) (by omega) (by omega) (by omega) (by omega)); have HBY := hide hby; clear hby) | (go_at_call 8; refine (unhide ZM).mono ?_; rintro e w12 ⟨rfl, hz⟩))
          obtain ⟨σ, π, vb', hz⟩ := hz
          have h9c : Below w9.heap.size w9 w12 := ((unhide HN).below.trans ((unhide HBY).below.mono (unhide HN).below.size)).trans hz.below
          have HE12 := hide ((unhide HE9).step h9c)
          have hta := ((unhide HT9).below h9c).weaken
          have SA := hide (same_any T T0 T1 L x id id vb w12 hta (ord_id _) (ord_id _) (unhide HE12).a (unhide HO) (unhide SX) (unhide DX))
          have SB := hide (fun (wq : World) (hq : Below w12.heap.size w12 wq) => same_any (w9.heap.size + 2) w9.heap.size (w9.heap.size + 1) M y σ π vb' wq (hz.tal.below hq) hz.s hz.v ((unhide HE12).b.below hq) (unhide HP) (unhide SY) (unhide DY))
          have c0 := (unhide HE12).c0
          have c1 := (unhide HE12).c1
          have f0 := (unhide HE12).e0
          have f1 := (unhide HE12).e1
          clear hta hz h9c HBY ZM BY e0 e1 HE10 HE9 HT9 HN
          go_wp2_with (first | (go_at_call_of 10 (L.sa); refine (unhide SA).mono ?_; rintro e w13 ⟨rfl, h13⟩; have k0 := cell_below h13 f0; have k1 := cell_below h13 f1) | (go_at_call_of 10 (M.sa); refine (unhide SB _ h13).mono ?_; rintro e w14 ⟨rfl, h14⟩))
          go_ret
          exact ⟨rfl, (((unhide HE12).step h13).step h14).below⟩
end Go.Proofs.Qxb6617558a
