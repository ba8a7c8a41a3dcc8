import Derived.Test.Qxb6617569aH
namespace Go.Proofs.Qxb6617569a
open Go.RowKit
set_option linter.unusedVariables false

theorem below_drew (w : World) (B k : Nat) : Below B w (w.drewN k) := ⟨rfl, rfl, rfl, Nat.le_refl _, fun _ _ => rfl⟩
theorem Pairs.congr {w : World} {a : Option Addr} {n : Nat} {T M T' M' : Nat → Int} (h : Pairs w a n T M) (e : ∀ i, i < n → T i = T' i ∧ M i = M' i) : Pairs w a n T' M' := fun i hi => by
  obtain ⟨b, o, h1, h2, h3⟩ := h i hi
  rw [(e i hi).1] at h2
  rw [(e i hi).2] at h3
  exact ⟨b, o, h1, h2, h3⟩
/-- two rows that hold one list are the same -/
theorem same_two (l l' : List (Int × Int)) (hl : l = l') (g G cap cap' k : Nat) (T M T' M' : Nat → Int) (w : World) (h : Row w g cap T M) (hat : At l T M) (hc : l.length ≤ cap) (h' : Row w G cap' T' M') (hat' : At l' T' M') (hk : l'.length = k) (hkc : k ≤ cap') (hkm : k ≤ 9223372036854775807) :
    Calls Try.prog 9 #[.slice (some ⟨g, 0, none⟩) l.length cap, .slice (some ⟨G, 0, none⟩) k cap'] w fun e w' => e = .returned (.bool true) ∧ ∃ k, w' = w.drewN k := by
  subst hl
  subst hk
  exact same_any _ _ l.length cap cap' T M w (h.pairs hc) ((h'.pairs hkc).congr (hat'.same hat)) hkm

/-- the law's own memory: the open request and x, each in a block; all that was there before as it was -/
structure Sit (w wk : World) (p0 p1 : Nat) (ot om xt xm : Int) : Prop where
  o : One wk p0 ot om
  x : One wk p1 xt xm
  bel : Below w.heap.size w wk
  h0 : w.heap.size ≤ p0
  h01 : p0 < p1
theorem Sit.next {w wk wk' : World} {p0 p1 B : Nat} {ot om xt xm : Int} (h : Sit w wk p0 p1 ot om xt xm) (hb : Below B wk wk') (hB : p1 < B) : Sit w wk' p0 p1 ot om xt xm :=
  ⟨h.o.below hb (Nat.lt_trans h.h01 hB), h.x.below hb hB, h.bel.trans (hb.mono (by have := h.h0; have := h.h01; omega)), h.h0, h.h01⟩
theorem Sit.start (w : World) (ot om xt xm : Int) (k : Nat) : Sit w (((w.alloc (.cells #[.int .u64 ot, .int .u64 om] 26)).alloc (.cells #[.int .u64 xt, .int .u64 xm] 26)).alloc (.cells (madeCells #[.int .u64 0, .int .u64 0] (k * 2)) 26)) w.heap.size (w.heap.size + 1) ot om xt xm ∧
    Row (((w.alloc (.cells #[.int .u64 ot, .int .u64 om] 26)).alloc (.cells #[.int .u64 xt, .int .u64 xm] 26)).alloc (.cells (madeCells #[.int .u64 0, .int .u64 0] (k * 2)) 26)) (w.heap.size + 1 + 1) k (fun _ => 0) (fun _ => 0) := by
  have h1 := pair_new w ot om
  have h2 := pair_new (w.alloc (.cells #[.int .u64 ot, .int .u64 om] 26)) xt xm
  have h3 := row_made ((w.alloc (.cells #[.int .u64 ot, .int .u64 om] 26)).alloc (.cells #[.int .u64 xt, .int .u64 xm] 26)) k
  simp only [size_alloc] at h2 h3
  exact ⟨⟨(h1.alloc _).alloc _, h2.alloc _, (((Below.refl _ w).alloc (Nat.le_refl _) _).alloc (by rw [size_alloc]; omega) _).alloc (by rw [size_alloc, size_alloc]; omega) _, Nat.le_refl _, Nat.lt_succ_self _⟩, h3⟩

set_option maxHeartbeats 8000000 in
set_option maxRecDepth 100000 in
theorem law3_any (ot om xt xm id : Int) (a b : Option Addr) (n m c d : Nat) (T M T' M' : Nat → Int) (w : World) (ha : Pairs w a n T M) (hb : Pairs w b m T' M') (hn : n ≤ 9223372036854775807) (hm : m ≤ 9223372036854775807) :
    Calls Try.prog 3 #[.int .u64 ot, .int .u64 om, .slice a n c, .int .u64 xt, .int .u64 xm, .slice b m d, .int .u64 id] w fun e w' => e = .returned (.bool true) ∧ Below w.heap.size w w' := by
  have HA := hide ha
  have HB := hide hb
  have HZ := hide (bytes3_any ot om xt xm id a b n m c d w hn hm)
  clear ha hb
  go_enter Try.func3, Try.ntmps3
  go_wp2_with fail
  refine (unhide HZ).mono ?_
  rintro e w' ⟨⟨x, rfl⟩, hw'⟩
  obtain rfl := hw'.symm
  clear HZ hw'
  cases x with
  | false =>
    go_wp2
    go_ret
    exact ⟨rfl, Below.refl _ _⟩
  | true =>
    by_cases hn5 : 32768 < n
    · go_wp2
      go_ret
      exact ⟨rfl, Below.refl _ _⟩
    by_cases hm5 : 32768 < m
    · go_wp2
      go_ret
      exact ⟨rfl, Below.refl _ _⟩
    have hmk : ∀ w : World, (Instr.makeSlice 27 (.int .i64 0) (.int .i64 ((n : Int) + 1 + (m : Int)))).run Try.prog w = .ok (.slice (some ⟨w.heap.size, 0, none⟩) 0 (n + 1 + m)) (w.alloc (.cells (madeCells #[.int .u64 0, .int .u64 0] ((n + 1 + m) * 2)) 26)) := fun w => by
      rw [show ((n : Int) + 1 + (m : Int)) = ((n + 1 + m : Nat) : Int) by omega]
      exact run_make_stamps 0 (n + 1 + m) (Nat.zero_le _) (by omega) w
    go_wp2_with fail
    obtain ⟨S, hrow⟩ := Sit.start w ot om xt xm (n + 1 + m)
    have hp : w.heap.size + 1 < w.heap.size + 1 + 1 := by omega
    generalize w.heap.size + 1 + 1 = g at hrow hp ⊢
    generalize w.heap.size + 1 = p1 at S hp ⊢
    generalize hp0 : w.heap.size = p0 at S ⊢
    clear hp0
    generalize World.alloc _ _ = w3 at S hrow ⊢
    have hs0 := S.h0
    have hs1 := S.h01
    have C6 := pairs_any a n c g 0 (n + 1 + m) T M _ _ w3 ((unhide HA).below S.bel) hrow (by omega) (by omega) (by omega) ((unhide HA).block (by omega))
    simp only [Nat.zero_add] at C6
    refine C6.mono ?_
    rintro e w4 ⟨rfl, T1, M1, hrow4, _, hf4, hbel4⟩
    have S4 := S.next hbel4 hp
    have hat4 : At (seq n T M) T1 M1 := (seq_at n T M).congr fun i hi => ⟨(hf4 i (by rwa [seq_length] at hi)).1.symm, (hf4 i (by rwa [seq_length] at hi)).2.symm⟩
    have x0 := S4.x.c0
    have x1 := S4.x.c1
    have r0 := hrow4.c0 (i := n) (by omega)
    have r1 := hrow4.c1 (i := n) (by omega)
    have f0 := World.rowIs.frozen hrow4 (n * 2)
    have f1 := World.rowIs.frozen hrow4 (n * 2 + 1)
    have hg4 := hrow4.lt
    have HROW4 := hide hrow4
    have HAT4 := hide hat4
    have HS4 := hide S4
    clear C6 S hrow hf4 hbel4 S4 hat4 hrow4
    go_wp2_with fail
    have hrow5 := ((unhide HROW4).set n xt xm).alloc (.cells #[.int .u64 xt, .int .u64 xm] 26)
    have hat5 : At (seq n T M ++ [(xt, xm)]) (upd T1 n xt) (upd M1 n xm) := by have := (unhide HAT4).push xt xm; rwa [seq_length] at this
    have hbel5 : Below g w4 (((w4.setCell ⟨g, n * 2, none⟩ (.int .u64 xt)).setCell ⟨g, n * 2 + 1, none⟩ (.int .u64 xm)).alloc (.cells #[.int .u64 xt, .int .u64 xm] 26)) := (((Below.refl g w4).setCell (by exact Nat.le_refl g) _).setCell (by exact Nat.le_refl g) _).alloc (by simp; omega) _
    have S5 := (unhide HS4).next hbel5 hp
    clear hbel5 HROW4 HAT4 HS4 r0 r1 f0 f1 x0 x1 hg4
    generalize World.alloc _ _ = w5 at hrow5 S5 ⊢
    have C6 := pairs_any b m d g (n + 1) (n + 1 + m) T' M' _ _ w5 ((unhide HB).below S5.bel) hrow5 (by omega) (by omega) (by omega) ((unhide HB).block (by omega))
    refine C6.mono ?_
    rintro e w6 ⟨rfl, T2, M2, hrow6, hf6, hf6', hbel6⟩
    have S6 := S5.next hbel6 hp
    have hat6 : At ((seq n T M ++ [(xt, xm)]) ++ seq m T' M') T2 M2 := hat5.append (seq_at m T' M') (fun i hi => hf6 i (by simpa [seq_length] using hi)) (fun i hi => by
      have := hf6' i (by rwa [seq_length] at hi)
      simpa [seq_length] using this)
    have hlen : ((seq n T M ++ [(xt, xm)]) ++ seq m T' M').length = n + 1 + m := by simp [seq_length]; omega
    have C7 := zzforget_any g (n + 1 + m) ot om id _ T2 M2 w6 hrow6 hat6 (by omega) (by omega)
    rw [hlen] at C7
    have HKL : Hid ((keep id (seq n T M ++ [(xt, xm)] ++ seq m T' M')).length ≤ n + 1 + m) := by rw [← hlen]; exact List.length_filter_le _ _
    generalize hlw : keep id (seq n T M ++ [(xt, xm)] ++ seq m T' M') = lw at C7 HKL
    have HLW := hide hlw
    have o0 := S6.o.c0
    have o1 := S6.o.c1
    have HS6 := hide S6
    have HC7 := hide C7
    have hg6 := hrow6.lt
    clear C6 hrow5 hat5 S5 hrow6 hf6 hf6' hbel6 S6 hat6 hlen C7 hlw
    go_wp2_with fail
    refine (unhide HC7).mono ?_
    rintro e w7 ⟨rfl, T3, M3, hrow7, hat7, hfr7⟩
    have hbel7 := hfr7.below (Nat.le_of_lt hg6)
    have S7 := (unhide HS6).next hbel7 hp
    have HROW7 := hide hrow7
    have HAT7 := hide hat7
    have HS7 := hide S7
    have hg7 := hrow7.lt
    clear hrow7 hat7 hbel7 hfr7 S7 HC7 HS6 o0 o1
    go_upto_region 14 with fail
    have q8 := pair_new w7 ot om
    have hrow8 := (unhide HROW7).alloc (.cells #[.int .u64 ot, .int .u64 om] 26)
    have S8 := (unhide HS7).next ((Below.refl g w7).alloc (by omega) (.cells #[.int .u64 ot, .int .u64 om] 26)) hp
    have hq8 : g < w7.heap.size ∧ w7.heap.size < (w7.alloc (.cells #[.int .u64 ot, .int .u64 om] 26)).heap.size := ⟨hg7, by rw [size_alloc]; omega⟩
    generalize World.alloc _ _ = w8 at q8 hrow8 S8 hq8 ⊢
    generalize w7.heap.size = q1 at q8 hq8 ⊢
    have HROW8 := hide hrow8
    have HQ8 : Hid (One w8 q1 ot om) := q8
    have HS8 := hide S8
    have o0 := S8.o.c0
    have o1 := S8.o.c1
    have h8 := S8.o.lt
    obtain ⟨la, hla⟩ : ∃ la, keep id (seq n T M) = la := ⟨_, rfl⟩
    have HLA := hide hla
    have HC8A := hide (srcA (src8 (c := c) ((unhide HA).below S8.bel) (by omega)) S8.o)
    have HC8B := hide (srcB (src8 (c := c) ((unhide HA).below S8.bel) (by omega)) S8.o)
    clear q8 hrow8 S8 HROW7 HS7 hg7 hla hmk
    go_cut [20, 21] from 70 to 77 (fun s20 s21 wx => Half w8 ot om n la s20 s21 wx)
    case first =>
      go_region_with (first
        | (go_at_call 8; first
          | (refine (unhide HC8A).mono ?_; rintro e w9 ⟨rfl, ha9⟩; have u0 := ha9.o.c0; have u1 := ha9.o.c1; have ult := ha9.o.lt; have usz := ha9.row.lt; have HA9 := hide ha9; clear ha9)
          | (refine (unhide HC8B).mono ?_; rintro e w9 ⟨rfl, hb9, hz9⟩; have u0 := hb9.o.c0; have u1 := hb9.o.c1; have ult := hb9.o.lt; have HB9 := hide (And.intro hb9 hz9); clear hb9 hz9))
        | (go_at_call 7; first
          | (refine (frB (unhide HB9).1 (unhide HB9).2 (by omega) (seq_at n T M) (seq_length n T M) (unhide HLA) (by omega)).mono ?_; rintro e w10 ⟨rfl, hd, hz⟩; have z0 := hz.c0; have z1 := hz.c1; have z2 := hz.f0; have z3 := hz.f1; have HD := hide hd; have HZ := hide hz; clear hd hz)
          | (refine (frA (unhide HA9) (seq_at n T M) (seq_length n T M) (unhide HLA) (by omega)).mono ?_; rintro e w10 ⟨rfl, hd⟩; have HD := hide hd; clear hd)
          | (refine (frC (unhide HA9) (seq_at n T M) (seq_length n T M) (unhide HLA) (by omega)).mono ?_; rintro e w10 ⟨rfl, hd, hz⟩; have z0 := hz.c0; have z1 := hz.c1; have z2 := hz.f0; have z3 := hz.f1; have HD := hide hd; have HZ := hide hz; clear hd hz)))
      all_goals
        go_wp2_with fail
        go_meet
        first | exact endA (unhide HD) | exact endB (unhide HD) (unhide HZ) (by omega) (by omega)
    case rest =>
      obtain ⟨qA, gA, TA, MA, rfl, rfl, hqA, hrowA, hatA, hbelA, hgA, hqA8, hlenA⟩ := hcut
      rename World => w11
      clear o0 o1 h8 HC8A HC8B
      have S11 := (unhide HS8).next hbelA (by omega)
      have hrow11 := (unhide HROW8).of_block (hbelA.block g (by omega))
      have hq11 := (unhide HQ8).below hbelA hq8.2
      have o0 := S11.o.c0
      have o1 := S11.o.c1
      have h11 := S11.o.lt
      obtain ⟨lb, hlb⟩ : ∃ lb, keep id (seq m T' M') = lb := ⟨_, rfl⟩
      have HLB := hide hlb
      have HC8A := hide (srcA (src8 (c := d) ((unhide HB).below S11.bel) (by omega)) S11.o)
      have HC8B := hide (srcB (src8 (c := d) ((unhide HB).below S11.bel) (by omega)) S11.o)
      have HS11 := hide S11
      have HROW11 := hide hrow11
      have HQ11 := hide hq11
      have HQA := hide hqA
      have HROWA := hide hrowA
      have HATA := hide hatA
      have hqAl := hqA.lt
      have hgAl := hrowA.lt
      have hg11 := hrow11.lt
      have hq1l := hq11.lt
      clear S11 hrow11 hq11 hqA hrowA hatA hbelA HS8 HROW8 HQ8 hlb
      go_upto_region 15 with fail
      go_cut [22, 23] from 78 to 85 (fun s20 s21 wx => Half w11 ot om m lb s20 s21 wx)
      case first =>
        go_region_with (first
          | (go_at_call 8; first
            | (refine (unhide HC8A).mono ?_; rintro e w9 ⟨rfl, ha9⟩; have u0 := ha9.o.c0; have u1 := ha9.o.c1; have ult := ha9.o.lt; have usz := ha9.row.lt; have HA9 := hide ha9; clear ha9)
            | (refine (unhide HC8B).mono ?_; rintro e w9 ⟨rfl, hb9, hz9⟩; have u0 := hb9.o.c0; have u1 := hb9.o.c1; have ult := hb9.o.lt; have HB9 := hide (And.intro hb9 hz9); clear hb9 hz9))
          | (go_at_call 7; first
            | (refine (frB (unhide HB9).1 (unhide HB9).2 (by omega) (seq_at m T' M') (seq_length m T' M') (unhide HLB) (by omega)).mono ?_; rintro e w10 ⟨rfl, hd, hz⟩; have z0 := hz.c0; have z1 := hz.c1; have z2 := hz.f0; have z3 := hz.f1; have HD := hide hd; have HZ := hide hz; clear hd hz)
            | (refine (frA (unhide HA9) (seq_at m T' M') (seq_length m T' M') (unhide HLB) (by omega)).mono ?_; rintro e w10 ⟨rfl, hd⟩; have HD := hide hd; clear hd)
            | (refine (frC (unhide HA9) (seq_at m T' M') (seq_length m T' M') (unhide HLB) (by omega)).mono ?_; rintro e w10 ⟨rfl, hd, hz⟩; have z0 := hz.c0; have z1 := hz.c1; have z2 := hz.f0; have z3 := hz.f1; have HD := hide hd; have HZ := hide hz; clear hd hz)))
        all_goals
          go_wp2_with fail
          go_meet
          first | exact endA (unhide HD) | exact endB (unhide HD) (unhide HZ) (by omega) (by omega)
      case rest =>
        obtain ⟨qB, gB, TB, MB, rfl, rfl, hqB, hrowB, hatB, hbelB, hgB, hqB8, hlenB⟩ := hcut
        rename World => w12
        clear o0 o1 h11 HC8A HC8B
        have S12 := (unhide HS11).next hbelB (by omega)
        have hrow12 := (unhide HROW11).of_block (hbelB.block g (by omega))
        have hq12 := (unhide HQ11).below hbelB (by omega)
        have hqA12 := (unhide HQA).below hbelB (by omega)
        have hrowA12 := (unhide HROWA).of_block (hbelB.block gA (by omega))
        have o0 := S12.o.c0
        have o1 := S12.o.c1
        have a0 := hq12.c0
        have a1 := hq12.c1
        have b0 := hqA12.c0
        have b1 := hqA12.c1
        have c0 := hqB.c0
        have c1 := hqB.c1
        have HS12 := hide S12
        have HROW12 := hide hrow12
        have HROWA12 := hide hrowA12
        have HROWB := hide hrowB
        have HATB := hide hatB
        have hgBl := hrowB.lt
        have hmk : ∀ w : World, (Instr.makeSlice 27 (.int .i64 0) (.int .i64 ((la.length : Int) + 1 + (lb.length : Int)))).run Try.prog w = .ok (.slice (some ⟨w.heap.size, 0, none⟩) 0 (la.length + 1 + lb.length)) (w.alloc (.cells (madeCells #[.int .u64 0, .int .u64 0] ((la.length + 1 + lb.length) * 2)) 26)) := fun w => by
          rw [show ((la.length : Int) + 1 + (lb.length : Int)) = ((la.length + 1 + lb.length : Nat) : Int) by omega]
          exact run_make_stamps 0 (la.length + 1 + lb.length) (Nat.zero_le _) (by omega) w
        have hb12 := hbelB.size
        clear S12 hrow12 hq12 hqA12 hrowA12 hqB hrowB hatB hbelB HS11 HROW11 HQ11 HQA HROWA
        go_upto_region 19 with fail
        have hrowW := row_made w12 (la.length + 1 + lb.length)
        have S13 := (unhide HS12).next ((Below.refl _ w12).alloc (Nat.le_refl _) (.cells (madeCells #[.int .u64 0, .int .u64 0] ((la.length + 1 + lb.length) * 2)) 26)) (by omega)
        have hrow13 := (unhide HROW12).alloc (.cells (madeCells #[.int .u64 0, .int .u64 0] ((la.length + 1 + lb.length) * 2)) 26)
        have hrowA13 := (unhide HROWA12).alloc (.cells (madeCells #[.int .u64 0, .int .u64 0] ((la.length + 1 + lb.length) * 2)) 26)
        have hrowB13 := (unhide HROWB).alloc (.cells (madeCells #[.int .u64 0, .int .u64 0] ((la.length + 1 + lb.length) * 2)) 26)
        have hg12 : g < w12.heap.size := by omega
        have hgA12 : gA < w12.heap.size := by omega
        have hp1 : p1 < w12.heap.size := by omega
        generalize World.alloc _ _ = w13 at hrowW S13 hrow13 hrowA13 hrowB13 ⊢
        generalize w12.heap.size = G at hrowW hg12 hgA12 hgBl hp1 ⊢
        have HROW13 := hide hrow13
        have HROWB13 := hide hrowB13
        have HS13 := hide S13
        have HROWW := hide hrowW
        have HROWA13 := hide hrowA13
        clear o0 o1 a0 a1 b0 b1 c0 c1 hrow13 hrowB13 S13 hrowW hrowA13 HS12 HROW12 HROWA12 HROWB hmk
        go_wp2_with (at_builtin; refine wpList_bulk _ rfl (.tmp 106) (.tmp 107) rfl G 0 (la.length + 1 + lb.length) [] _ _ rfl (unhide HROWW) (fun j hj => absurd hj (Nat.not_lt_zero j)) rfl gA la.length n n la TA MA rfl (unhide HROWA13) (unhide HATA) rfl hlenA (by omega) ?_)
        intro w14 T4 M4 h1 h2 h3 h4
        have hrow14 := (unhide HROW13).of_block (h4 g (by omega))
        have hrowB14 := (unhide HROWB13).of_block (h4 gB (by omega))
        have S14 := (unhide HS13).next h3 hp1
        have HROW14 := hide hrow14
        have HROWB14 := hide hrowB14
        have HS14 := hide S14
        have HW14 := hide h1
        have HAT14 : Hid (At la T4 M4) := h2
        have x0 := S14.x.c0
        have x1 := S14.x.c1
        have hG14 := h1.lt
        clear h2 h3 h4 hrow14 hrowB14 S14 HROW13 HROWB13 HS13 HROWW HROWA13
        by_cases hx : xm = id
        · have hd : (xm != id) = false := by simp [hx]
          have hlen : lw = la ++ lb := by
            rw [← unhide HLW, ← unhide HLA, ← unhide HLB]
            simp [keep, List.filter_append, hx]
          have HLEN := hide hlen
          clear h1 hx hlen
          go_upto_region 22 with fail
          go_wp2_with (at_builtin; refine wpList_bulk _ rfl (.tmp 116) (.tmp 117) rfl G la.length (la.length + 1 + lb.length) la T4 M4 rfl (unhide HW14) (unhide HAT14) rfl gB lb.length m m lb TB MB rfl (unhide HROWB14) (unhide HATB) rfl hlenB (by omega) ?_)
          intro w15 T5 M5 h1 h2 h3 h4
          have hrow15 := (unhide HROW14).of_block (h4 g (by omega))
          have S15 := (unhide HS14).next h3 hp1
          have hcon := same_two lw (la ++ lb) (unhide HLEN) g G (n + 1 + m) (la.length + 1 + lb.length) (la.length + lb.length) T3 M3 T5 M5 w15 hrow15 (unhide HAT7) (unhide HKL) h1 h2 (by simp) (by omega) (by omega)
          have HCON := hide hcon
          have HS15 := hide S15
          clear h1 h2 h3 h4 hrow15 S15 hcon
          go_wp2_with fail
          refine (unhide HCON).mono ?_
          rintro e w16 ⟨rfl, k, rfl⟩
          go_wp2
          go_ret
          exact ⟨rfl, (unhide HS15).bel.trans (below_drew _ _ _)⟩
        · have hd : (xm != id) = true := by simp [hx]
          have hlen : lw = la ++ [(xt, xm)] ++ lb := by
            rw [← unhide HLW, ← unhide HLA, ← unhide HLB]
            simp [keep, List.filter_append, hx]
          have HLEN := hide hlen
          have r0 := h1.c0 (i := la.length) (by omega)
          have r1 := h1.c1 (i := la.length) (by omega)
          have r2 := World.rowIs.frozen h1 (la.length * 2)
          have r3 := World.rowIs.frozen h1 (la.length * 2 + 1)
          clear h1 hx hlen
          go_upto_region 22 with fail
          have h5 := ((unhide HW14).set la.length xt xm).alloc (.cells #[.int .u64 xt, .int .u64 xm] 26)
          have h6 := (unhide HAT14).push xt xm
          have h7 : Below G w14 (((w14.setCell ⟨G, la.length * 2, none⟩ (.int .u64 xt)).setCell ⟨G, la.length * 2 + 1, none⟩ (.int .u64 xm)).alloc (.cells #[.int .u64 xt, .int .u64 xm] 26)) := (((Below.refl G w14).setCell (by exact Nat.le_refl G) _).setCell (by exact Nat.le_refl G) _).alloc (by simp; omega) _
          have S15 := (unhide HS14).next h7 hp1
          have hrow15 := (unhide HROW14).of_block (h7.block g hg12)
          have hrowB15 := (unhide HROWB14).of_block (h7.block gB hgBl)
          clear h7 HW14 HAT14 HS14 HROW14 HROWB14 r0 r1 r2 r3 x0 x1
          generalize World.alloc _ _ = w15 at h5 S15 hrow15 hrowB15 ⊢
          have HW15 := hide h5
          have HAT15 := hide h6
          have HROW15 := hide hrow15
          have HROWB15 := hide hrowB15
          have HS15 := hide S15
          clear h5 h6 hrow15 hrowB15 S15
          go_wp2_with (at_builtin; refine wpList_bulk _ rfl (.tmp 116) (.tmp 117) rfl G (la.length + 1) (la.length + 1 + lb.length) (la ++ [(xt, xm)]) _ _ rfl (unhide HW15) (unhide HAT15) (by simp) gB lb.length m m lb TB MB rfl (unhide HROWB15) (unhide HATB) rfl hlenB (by omega) ?_)
          intro w16 T5 M5 h1 h2 h3 h4
          have hrow16 := (unhide HROW15).of_block (h4 g (by omega))
          have S16 := (unhide HS15).next h3 hp1
          have hcon := same_two lw (la ++ (xt, xm) :: lb) (by rw [unhide HLEN]; simp) g G (n + 1 + m) (la.length + 1 + lb.length) (la.length + 1 + lb.length) T3 M3 T5 M5 w16 hrow16 (unhide HAT7) (unhide HKL) h1 h2 (by simp; omega) (by omega) (by omega)
          have HCON := hide hcon
          have HS16 := hide S16
          clear h1 h2 h3 h4 hrow16 S16 hcon
          go_wp2_with fail
          refine (unhide HCON).mono ?_
          rintro e w17 ⟨rfl, k, rfl⟩
          go_wp2
          go_ret
          exact ⟨rfl, (unhide HS16).bel.trans (below_drew _ _ _)⟩
end Go.Proofs.Qxb6617569a
