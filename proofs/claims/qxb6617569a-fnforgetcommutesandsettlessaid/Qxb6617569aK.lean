import Derived.Test.Qxb6617569aH
namespace Go.Proofs.Qxb6617569a
open Go.RowKit
set_option linter.unusedVariables false

theorem drew_below (w : World) (B k : Nat) : Below B w (w.drewN k) := ⟨rfl, rfl, rfl, Nat.le_refl _, fun _ _ => rfl⟩
theorem Pairs.turn {w : World} {a : Option Addr} {n : Nat} {T M T' M' : Nat → Int} (h : Pairs w a n T M) (e : ∀ i, i < n → T i = T' i ∧ M i = M' i) : Pairs w a n T' M' := fun i hi => by
  obtain ⟨b, o, h1, h2, h3⟩ := h i hi
  rw [(e i hi).1] at h2
  rw [(e i hi).2] at h3
  exact ⟨b, o, h1, h2, h3⟩
theorem same_rows (l l' : List (Int × Int)) (hl : l = l') (g G cap cap' : Nat) (T M T' M' : Nat → Int) (w : World) (h : Row w g cap T M) (hat : At l T M) (hc : l.length ≤ cap) (h' : Row w G cap' T' M') (hat' : At l' T' M') (hkc : l'.length ≤ cap') (hkm : l'.length ≤ 9223372036854775807) :
    Calls Try.prog 9 #[.slice (some ⟨g, 0, none⟩) l.length cap, .slice (some ⟨G, 0, none⟩) l'.length cap'] w fun e w' => e = .returned (.bool true) ∧ ∃ k, w' = w.drewN k := by
  subst hl
  exact same_any _ _ l.length cap cap' T M w (h.pairs hc) ((h'.pairs hkc).turn (hat'.same hat)) hkm
theorem keep_comm (a b : Int) (l : List (Int × Int)) : keep a (keep b l) = keep b (keep a l) := by
  unfold keep
  rw [List.filter_filter, List.filter_filter]
  congr 1
  funext p
  exact Bool.and_comm _ _
theorem keep_again (a b : Int) (l : List (Int × Int)) : keep a (keep b (keep a l)) = keep b (keep a l) := by
  rw [keep_comm a b (keep a l)]
  congr 1
  unfold keep
  rw [List.filter_filter]
  congr 1
  funext p
  exact Bool.and_self _
theorem keep_append (a : Int) (l l' : List (Int × Int)) : keep a (l ++ l') = keep a l ++ keep a l' := List.filter_append _ _
/-- how many are left of the first r -/
def cnt (id1 id2 : Int) (l : List (Int × Int)) (r : Nat) : Nat := (keep id2 (keep id1 (l.take r))).length
theorem cnt_zero (id1 id2 : Int) (l : List (Int × Int)) : cnt id1 id2 l 0 = 0 := by simp [cnt, keep]
theorem cnt_le (id1 id2 : Int) (l : List (Int × Int)) (r : Nat) : cnt id1 id2 l r ≤ r := by
  have h1 := List.length_filter_le (fun p : Int × Int => p.2 != id2) (keep id1 (l.take r))
  have h2 := keep_le id1 l r
  unfold cnt
  unfold keep at h1 h2 ⊢
  omega
theorem cnt_step {id1 id2 : Int} {l : List (Int × Int)} {r : Nat} {x y : Int} (h : l[r]? = some (x, y)) : cnt id1 id2 l (r + 1) = cnt id1 id2 l r + (if y = id1 then 0 else if y = id2 then 0 else 1) := by
  unfold cnt
  rw [keep_take h, keep_append, List.length_append]
  congr 1
  by_cases e1 : y = id1
  · simp [e1, keep]
  · by_cases e2 : y = id2
    · simp [e2, keep]
    · simp [e1, e2, keep]

/-- a queue that is left: the open request beside it, the row, what it holds -/
structure Kp (wk : World) (ot om : Int) (q gA n : Nat) (l : List (Int × Int)) (T M : Nat → Int) : Prop where
  one : One wk q ot om
  row : Row wk gA n T M
  held : At l T M
  len : l.length ≤ n
theorem Kp.next {wk wk' : World} {ot om : Int} {q gA n : Nat} {l : List (Int × Int)} {T M : Nat → Int} (h : Kp wk ot om q gA n l T M) (hb : Below wk.heap.size wk wk') : Kp wk' ot om q gA n l T M :=
  ⟨h.one.below hb h.one.lt, h.row.of_block (hb.block _ h.row.lt), h.held, h.len⟩
structure Bs (w wk : World) (p0 : Nat) (ot om : Int) : Prop where
  o : One wk p0 ot om
  bel : Below w.heap.size w wk
theorem Bs.next {w wk wk' : World} {p0 : Nat} {ot om : Int} (h : Bs w wk p0 ot om) (hb : Below wk.heap.size wk wk') : Bs w wk' p0 ot om :=
  ⟨h.o.below hb h.o.lt, h.bel.trans (hb.mono h.bel.size)⟩

set_option maxHeartbeats 16000000 in
set_option maxRecDepth 100000 in
theorem law4_any (ot om id1 id2 : Int) (a : Option Addr) (n c : Nat) (T M : Nat → Int) (w : World) (ha : Pairs w a n T M) (hn : n ≤ 9223372036854775807) :
    Calls Try.prog 4 #[.int .u64 ot, .int .u64 om, .slice a n c, .int .u64 id1, .int .u64 id2] w fun e w' => e = .returned (.bool true) ∧ Below w.heap.size w w' := by
  have HA := hide ha
  have HZ := hide (bytes4_any ot om id1 id2 a n c w hn)
  clear ha
  go_enter Try.func4, Try.ntmps4
  go_wp2_with fail
  refine (unhide HZ).mono ?_
  rintro e w' ⟨⟨x, rfl⟩, hw'⟩
  obtain rfl := hw'.symm
  clear HZ hw'
  cases x with
  | false =>
    go_wp2
    go_ret
    exact ⟨rfl, Below.refl _ _⟩
  | true =>
    by_cases hn5 : 65536 < n
    · go_wp2
      go_ret
      exact ⟨rfl, Below.refl _ _⟩
    obtain ⟨l1, hl1⟩ : ∃ l, keep id1 (seq n T M) = l := ⟨_, rfl⟩
    obtain ⟨l2, hl2⟩ : ∃ l, keep id2 l1 = l := ⟨_, rfl⟩
    obtain ⟨l3, hl3⟩ : ∃ l, keep id2 (seq n T M) = l := ⟨_, rfl⟩
    obtain ⟨l4, hl4⟩ : ∃ l, keep id1 l3 = l := ⟨_, rfl⟩
    obtain ⟨l5, hl5⟩ : ∃ l, keep id1 l2 = l := ⟨_, rfl⟩
    have HL1 := hide hl1
    have HL2 := hide hl2
    have HL3 := hide hl3
    have HL4 := hide hl4
    have HL5 := hide hl5
    clear hl1 hl2 hl3 hl4 hl5
    go_upto_region 6 with fail
    have hB : Bs w (w.alloc (.cells #[.int .u64 ot, .int .u64 om] 26)) w.heap.size ot om := ⟨one_new w ot om, (Below.refl _ _).alloc (Nat.le_refl _) _⟩
    have hp0 : w.heap.size < (w.alloc (.cells #[.int .u64 ot, .int .u64 om] 26)).heap.size := by rw [size_alloc]; omega
    generalize World.alloc _ _ = w6 at hB hp0 ⊢
    have hs : w.heap.size ≤ w.heap.size := Nat.le_refl _
    have o0 := hB.o.c0
    have o1 := hB.o.c1
    have HB := hide hB
    have HCA := hide (srcA (src8 (c := c) ((unhide HA).below hB.bel) (by omega)) hB.o)
    have HCB := hide (srcB (src8 (c := c) ((unhide HA).below hB.bel) (by omega)) hB.o)
    clear hB
    generalize hpp : w.heap.size = p0 at o0 o1 HB HCA HCB hp0 hs ⊢
    clear hpp hs
    go_cut [12, 13] from 37 to 44 (fun s20 s21 wx => Half w6 ot om n l1 s20 s21 wx)
    case first =>
      go_region_with (first
        | (go_at_call 8; first
          | (refine (unhide HCA).mono ?_; rintro e w9 ⟨rfl, ha9⟩; have u0 := ha9.o.c0; have u1 := ha9.o.c1; have ult := ha9.o.lt; have usz := ha9.row.lt; have HA9 := hide ha9; clear ha9)
          | (refine (unhide HCB).mono ?_; rintro e w9 ⟨rfl, hb9, hz9⟩; have u0 := hb9.o.c0; have u1 := hb9.o.c1; have ult := hb9.o.lt; have HB9 := hide (And.intro hb9 hz9); clear hb9 hz9))
        | (go_at_call 7; first
          | (refine (frB (unhide HB9).1 (unhide HB9).2 (by omega) (seq_at n T M) (seq_length n T M) (unhide HL1) (by omega)).mono ?_; rintro e w10 ⟨rfl, hd, hz⟩; have z0 := hz.c0; have z1 := hz.c1; have z2 := hz.f0; have z3 := hz.f1; have HD := hide hd; have HZ := hide hz; clear hd hz)
          | (refine (frA (unhide HA9) (seq_at n T M) (seq_length n T M) (unhide HL1) (by omega)).mono ?_; rintro e w10 ⟨rfl, hd⟩; have HD := hide hd; clear hd)
          | (refine (frC (unhide HA9) (seq_at n T M) (seq_length n T M) (unhide HL1) (by omega)).mono ?_; rintro e w10 ⟨rfl, hd, hz⟩; have z0 := hz.c0; have z1 := hz.c1; have z2 := hz.f0; have z3 := hz.f1; have HD := hide hd; have HZ := hide hz; clear hd hz)))
      all_goals
        go_wp2_with fail
        go_meet
        first | exact endA (unhide HD) | exact endB (unhide HD) (unhide HZ) (by omega) (by omega)
    case rest =>
      obtain ⟨q1, g1, T1, M1, rfl, rfl, h1, h2, h3, h4, h5, h6, h7⟩ := hcut
      rename World => w7
      clear o0 o1 HCA HCB
      have hK1 : Kp w7 ot om q1 g1 n l1 T1 M1 := ⟨h1, h2, h3, h7⟩
      have hBn := (unhide HB).next h4
      have hsz1 := h4.size
      clear HB 
      have HB := hide hBn
      have HK1 := hide hK1
      have o0 := hK1.one.c0
      have o1 := hK1.one.c1
      have hlt := hK1.one.lt
      have hle1 := hK1.len
      have HCA := hide (srcA (src11 (c := n) (hK1.row.pairs hK1.len) (by omega)) hK1.one)
      have HCB := hide (srcB (src11 (c := n) (hK1.row.pairs hK1.len) (by omega)) hK1.one)
      clear h1 h2 h3 h4 h5 h6 h7 hBn hK1
      go_upto_region 7 with fail
      go_cut [14, 15] from 45 to 52 (fun s20 s21 wx => Half w7 ot om l1.length l2 s20 s21 wx)
      case first =>
        go_region_with (first
          | (go_at_call 11; first
            | (refine (unhide HCA).mono ?_; rintro e w9 ⟨rfl, ha9⟩; have u0 := ha9.o.c0; have u1 := ha9.o.c1; have ult := ha9.o.lt; have usz := ha9.row.lt; have HA9 := hide ha9; clear ha9)
            | (refine (unhide HCB).mono ?_; rintro e w9 ⟨rfl, hb9, hz9⟩; have u0 := hb9.o.c0; have u1 := hb9.o.c1; have ult := hb9.o.lt; have HB9 := hide (And.intro hb9 hz9); clear hb9 hz9))
          | (go_at_call 7; first
            | (refine (frB (unhide HB9).1 (unhide HB9).2 (by omega) (unhide HK1).held rfl (unhide HL2) (by omega)).mono ?_; rintro e w10 ⟨rfl, hd, hz⟩; have z0 := hz.c0; have z1 := hz.c1; have z2 := hz.f0; have z3 := hz.f1; have HD := hide hd; have HZ := hide hz; clear hd hz)
            | (refine (frA (unhide HA9) (unhide HK1).held rfl (unhide HL2) (by omega)).mono ?_; rintro e w10 ⟨rfl, hd⟩; have HD := hide hd; clear hd)
            | (refine (frC (unhide HA9) (unhide HK1).held rfl (unhide HL2) (by omega)).mono ?_; rintro e w10 ⟨rfl, hd, hz⟩; have z0 := hz.c0; have z1 := hz.c1; have z2 := hz.f0; have z3 := hz.f1; have HD := hide hd; have HZ := hide hz; clear hd hz)))
        all_goals
          go_wp2_with fail
          go_meet
          first | exact endA (unhide HD) | exact endB (unhide HD) (unhide HZ) (by omega) (by omega)
      case rest =>
        obtain ⟨q2, g2, T2, M2, rfl, rfl, h1, h2, h3, h4, h5, h6, h7⟩ := hcut
        rename World => w8
        clear o0 o1 HCA HCB
        have hK2 : Kp w8 ot om q2 g2 l1.length l2 T2 M2 := ⟨h1, h2, h3, h7⟩
        have hBn := (unhide HB).next h4
        have hK1 := (unhide HK1).next h4
        have hsz2 := h4.size
        clear HB HK1
        have HB := hide hBn
        have HK1 := hide hK1
        have HK2 := hide hK2
        have o0 := hBn.o.c0
        have o1 := hBn.o.c1
        have hlt := hBn.o.lt
        have HCA := hide (srcA (src8 (c := c) ((unhide HA).below hBn.bel) (by omega)) hBn.o)
        have HCB := hide (srcB (src8 (c := c) ((unhide HA).below hBn.bel) (by omega)) hBn.o)
        clear h1 h2 h3 h4 h5 h6 h7 hBn hK1 hK2
        go_upto_region 8 with fail
        go_cut [16, 17] from 53 to 60 (fun s20 s21 wx => Half w8 ot om n l3 s20 s21 wx)
        case first =>
          go_region_with (first
            | (go_at_call 8; first
              | (refine (unhide HCA).mono ?_; rintro e w9 ⟨rfl, ha9⟩; have u0 := ha9.o.c0; have u1 := ha9.o.c1; have ult := ha9.o.lt; have usz := ha9.row.lt; have HA9 := hide ha9; clear ha9)
              | (refine (unhide HCB).mono ?_; rintro e w9 ⟨rfl, hb9, hz9⟩; have u0 := hb9.o.c0; have u1 := hb9.o.c1; have ult := hb9.o.lt; have HB9 := hide (And.intro hb9 hz9); clear hb9 hz9))
            | (go_at_call 7; first
              | (refine (frB (unhide HB9).1 (unhide HB9).2 (by omega) (seq_at n T M) (seq_length n T M) (unhide HL3) (by omega)).mono ?_; rintro e w10 ⟨rfl, hd, hz⟩; have z0 := hz.c0; have z1 := hz.c1; have z2 := hz.f0; have z3 := hz.f1; have HD := hide hd; have HZ := hide hz; clear hd hz)
              | (refine (frA (unhide HA9) (seq_at n T M) (seq_length n T M) (unhide HL3) (by omega)).mono ?_; rintro e w10 ⟨rfl, hd⟩; have HD := hide hd; clear hd)
              | (refine (frC (unhide HA9) (seq_at n T M) (seq_length n T M) (unhide HL3) (by omega)).mono ?_; rintro e w10 ⟨rfl, hd, hz⟩; have z0 := hz.c0; have z1 := hz.c1; have z2 := hz.f0; have z3 := hz.f1; have HD := hide hd; have HZ := hide hz; clear hd hz)))
          all_goals
            go_wp2_with fail
            go_meet
            first | exact endA (unhide HD) | exact endB (unhide HD) (unhide HZ) (by omega) (by omega)
        case rest =>
          obtain ⟨q3, g3, T3, M3, rfl, rfl, h1, h2, h3, h4, h5, h6, h7⟩ := hcut
          rename World => w9
          clear o0 o1 HCA HCB
          have hK3 : Kp w9 ot om q3 g3 n l3 T3 M3 := ⟨h1, h2, h3, h7⟩
          have hBn := (unhide HB).next h4
          have hK1 := (unhide HK1).next h4
          have hK2 := (unhide HK2).next h4
          have hsz3 := h4.size
          clear HB HK1 HK2
          have HB := hide hBn
          have HK1 := hide hK1
          have HK2 := hide hK2
          have HK3 := hide hK3
          have o0 := hK3.one.c0
          have o1 := hK3.one.c1
          have hlt := hK3.one.lt
          have hle3 := hK3.len
          have HCA := hide (srcA (src11 (c := n) (hK3.row.pairs hK3.len) (by omega)) hK3.one)
          have HCB := hide (srcB (src11 (c := n) (hK3.row.pairs hK3.len) (by omega)) hK3.one)
          clear h1 h2 h3 h4 h5 h6 h7 hBn hK1 hK2 hK3
          go_upto_region 9 with fail
          go_cut [18, 19] from 61 to 68 (fun s20 s21 wx => Half w9 ot om l3.length l4 s20 s21 wx)
          case first =>
            go_region_with (first
              | (go_at_call 11; first
                | (refine (unhide HCA).mono ?_; rintro e w9 ⟨rfl, ha9⟩; have u0 := ha9.o.c0; have u1 := ha9.o.c1; have ult := ha9.o.lt; have usz := ha9.row.lt; have HA9 := hide ha9; clear ha9)
                | (refine (unhide HCB).mono ?_; rintro e w9 ⟨rfl, hb9, hz9⟩; have u0 := hb9.o.c0; have u1 := hb9.o.c1; have ult := hb9.o.lt; have HB9 := hide (And.intro hb9 hz9); clear hb9 hz9))
              | (go_at_call 7; first
                | (refine (frB (unhide HB9).1 (unhide HB9).2 (by omega) (unhide HK3).held rfl (unhide HL4) (by omega)).mono ?_; rintro e w10 ⟨rfl, hd, hz⟩; have z0 := hz.c0; have z1 := hz.c1; have z2 := hz.f0; have z3 := hz.f1; have HD := hide hd; have HZ := hide hz; clear hd hz)
                | (refine (frA (unhide HA9) (unhide HK3).held rfl (unhide HL4) (by omega)).mono ?_; rintro e w10 ⟨rfl, hd⟩; have HD := hide hd; clear hd)
                | (refine (frC (unhide HA9) (unhide HK3).held rfl (unhide HL4) (by omega)).mono ?_; rintro e w10 ⟨rfl, hd, hz⟩; have z0 := hz.c0; have z1 := hz.c1; have z2 := hz.f0; have z3 := hz.f1; have HD := hide hd; have HZ := hide hz; clear hd hz)))
            all_goals
              go_wp2_with fail
              go_meet
              first | exact endA (unhide HD) | exact endB (unhide HD) (unhide HZ) (by omega) (by omega)
          case rest =>
            obtain ⟨q4, g4, T4, M4, rfl, rfl, h1, h2, h3, h4, h5, h6, h7⟩ := hcut
            rename World => w10
            clear o0 o1 HCA HCB
            have hK4 : Kp w10 ot om q4 g4 l3.length l4 T4 M4 := ⟨h1, h2, h3, h7⟩
            have hBn := (unhide HB).next h4
            have hK1 := (unhide HK1).next h4
            have hK2 := (unhide HK2).next h4
            have hK3 := (unhide HK3).next h4
            have hsz4 := h4.size
            clear HB HK1 HK2 HK3
            have HB := hide hBn
            have HK1 := hide hK1
            have HK2 := hide hK2
            have HK3 := hide hK3
            have HK4 := hide hK4
            have o0 := hK2.one.c0
            have o1 := hK2.one.c1
            have hlt := hK2.one.lt
            have hle4 := hK2.len
            have HCA := hide (srcA (src11 (c := l1.length) (hK2.row.pairs hK2.len) (by omega)) hK2.one)
            have HCB := hide (srcB (src11 (c := l1.length) (hK2.row.pairs hK2.len) (by omega)) hK2.one)
            clear h1 h2 h3 h4 h5 h6 h7 hBn hK1 hK2 hK3 hK4
            go_upto_region 10 with fail
            go_cut [20, 21] from 69 to 76 (fun s20 s21 wx => Half w10 ot om l2.length l5 s20 s21 wx)
            case first =>
              go_region_with (first
                | (go_at_call 11; first
                  | (refine (unhide HCA).mono ?_; rintro e w9 ⟨rfl, ha9⟩; have u0 := ha9.o.c0; have u1 := ha9.o.c1; have ult := ha9.o.lt; have usz := ha9.row.lt; have HA9 := hide ha9; clear ha9)
                  | (refine (unhide HCB).mono ?_; rintro e w9 ⟨rfl, hb9, hz9⟩; have u0 := hb9.o.c0; have u1 := hb9.o.c1; have ult := hb9.o.lt; have HB9 := hide (And.intro hb9 hz9); clear hb9 hz9))
                | (go_at_call 7; first
                  | (refine (frB (unhide HB9).1 (unhide HB9).2 (by omega) (unhide HK2).held rfl (unhide HL5) (by omega)).mono ?_; rintro e w10 ⟨rfl, hd, hz⟩; have z0 := hz.c0; have z1 := hz.c1; have z2 := hz.f0; have z3 := hz.f1; have HD := hide hd; have HZ := hide hz; clear hd hz)
                  | (refine (frA (unhide HA9) (unhide HK2).held rfl (unhide HL5) (by omega)).mono ?_; rintro e w10 ⟨rfl, hd⟩; have HD := hide hd; clear hd)
                  | (refine (frC (unhide HA9) (unhide HK2).held rfl (unhide HL5) (by omega)).mono ?_; rintro e w10 ⟨rfl, hd, hz⟩; have z0 := hz.c0; have z1 := hz.c1; have z2 := hz.f0; have z3 := hz.f1; have HD := hide hd; have HZ := hide hz; clear hd hz)))
              all_goals
                go_wp2_with fail
                go_meet
                first | exact endA (unhide HD) | exact endB (unhide HD) (unhide HZ) (by omega) (by omega)
            case rest =>
              obtain ⟨q5, g5, T5, M5, rfl, rfl, h1, h2, h3, h4, h5, h6, h7⟩ := hcut
              rename World => w11
              clear o0 o1 HCA HCB
              have hK5 : Kp w11 ot om q5 g5 l2.length l5 T5 M5 := ⟨h1, h2, h3, h7⟩
              have hBn := (unhide HB).next h4
              have hK1 := (unhide HK1).next h4
              have hK2 := (unhide HK2).next h4
              have hK3 := (unhide HK3).next h4
              have hK4 := (unhide HK4).next h4
              have hsz5 := h4.size
              clear HB HK1 HK2 HK3 HK4
              have HB := hide hBn
              have HK1 := hide hK1
              have HK2 := hide hK2
              have HK3 := hide hK3
              have HK4 := hide hK4
              have HK5 := hide hK5
              clear h1 h2 h3 h4 h5 h6 h7 hBn hK1 hK2 hK3 hK4 hK5
              have o0 := (unhide HB).o.c0
              have o1 := (unhide HB).o.c1
              have a0 := (unhide HK2).one.c0
              have a1 := (unhide HK2).one.c1
              have b0 := (unhide HK4).one.c0
              have b1 := (unhide HK4).one.c1
              have c0 := (unhide HK5).one.c0
              have c1 := (unhide HK5).one.c1
              have HP := hide ((unhide HA).below (unhide HB).bel)
              go_wp2
              go_loop [22, 23] (fun k i => ∃ r : Nat, r ≤ n ∧ i = .int .i64 r ∧ k = .int .i64 (cnt id1 id2 (seq n T M) r : Nat)) (fun _ i => n - (intOf i).toNat)
              case atStart => exact ⟨0, Nat.zero_le _, rfl, by rw [cnt_zero]; rfl⟩
              case round =>
                obtain ⟨r, hr, rfl, rfl⟩ := hrel
                have hcl := cnt_le id1 id2 (seq n T M) r
                by_cases hlt : r < n
                · obtain ⟨b0, o0, rfl, h1, h2⟩ := unhide HP r hlt
                  have hst := cnt_step (id1 := id1) (id2 := id2) (seq_at n T M r (by rw [seq_length]; exact hlt))
                  have HST := hide hst
                  clear hst
                  by_cases e1 : M r = id1
                  · have hd1 : (M r != id1) = false := by simp [e1]
                    have HE := hide e1
                    clear e1
                    go_wp2
                    go_round
                    case rel => exact ⟨r + 1, by omega, by go_num, by rw [unhide HST, if_pos (unhide HE)]; rfl⟩
                    case measure => simp [intOf]; omega
                  · have hd1 : (M r != id1) = true := by simp [e1]
                    have HE := hide e1
                    clear e1
                    by_cases e2 : M r = id2
                    · have hd2 : (M r != id2) = false := by simp [e2]
                      have HE2 := hide e2
                      clear e2
                      go_wp2
                      go_round
                      case rel => exact ⟨r + 1, by omega, by go_num, by rw [unhide HST, if_neg (unhide HE), if_pos (unhide HE2)]; rfl⟩
                      case measure => simp [intOf]; omega
                    · have hd2 : (M r != id2) = true := by simp [e2]
                      have HE2 := hide e2
                      clear e2
                      generalize cnt id1 id2 (seq n T M) r = ck at HST hcl ⊢
                      go_wp2
                      go_round
                      case rel => exact ⟨r + 1, by omega, by go_num, by rw [unhide HST, if_neg (unhide HE), if_neg (unhide HE2)]; go_num⟩
                      case measure => simp [intOf]; omega
                · have hlen : cnt id1 id2 (seq n T M) r = l2.length := by
                    unfold cnt
                    rw [List.take_of_length_le (by rw [seq_length]; omega), unhide HL1, unhide HL2]
                  rw [hlen]
                  have e24 : l2 = l4 := by rw [← unhide HL4, ← unhide HL3, ← unhide HL2, ← unhide HL1]; exact keep_comm _ _ _
                  have e25 : l2 = l5 := by rw [← unhide HL5, ← unhide HL2, ← unhide HL1]; exact (keep_again _ _ _).symm
                  have k2 := unhide HK2
                  have k4 := unhide HK4
                  have k5 := unhide HK5
                  have hle := k2.len
                  have hle4 := k4.len
                  have hle5 := k5.len
                  have hle3 := (unhide HK3).len
                  have HC4 := hide (same_rows l2 l4 e24 g2 g4 _ _ T2 M2 T4 M4 w11 k2.row k2.held k2.len k4.row k4.held k4.len (by omega))
                  have HC5 := hide (fun k => same_rows l2 l5 e25 g2 g5 _ _ T2 M2 T5 M5 (w11.drewN k) k2.row k2.held k2.len k5.row k5.held k5.len (by omega))
                  clear k2 k4 k5 e24 e25 hlen hcl
                  have hd : (((l2.length : Nat) : Int) == ((l2.length : Nat) : Int)) = true := by simp
                  go_wp2_with fail
                  refine (unhide HC4).mono ?_
                  rintro e w12 ⟨rfl, k, rfl⟩
                  go_wp2_with fail
                  refine (unhide HC5 k).mono ?_
                  rintro e w13 ⟨rfl, k2, rfl⟩
                  go_wp2
                  go_ret
                  exact ⟨rfl, (unhide HB).bel.trans (drew_below _ _ _)⟩
end Go.Proofs.Qxb6617569a
