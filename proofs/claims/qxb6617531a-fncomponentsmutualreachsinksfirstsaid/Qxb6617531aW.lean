import Derived.Test.Qxb6617531aF
import Derived.Test.Qxb6617531aQ
import Derived.Test.Qxb6617531aU
namespace Go.Proofs.Qxb6617531a
open Go.RowKit
set_option linter.unusedVariables false

theorem Rows2.turn {w : World} {a : Option Addr} {n : Nat} {A : Nat → Option Addr} {L L' C : Nat → Nat} {Z : Nat → Nat → Int} (h : Rows2 w a n A L' C Z) (hL : ∀ r, r < n → L' r = L r) : Rows2 w a n A L C Z := by
  intro r hr
  rw [← hL r hr]
  exact h r hr
theorem Rows2.drewN {w : World} {a : Option Addr} {n : Nat} {A : Nat → Option Addr} {L C : Nat → Nat} {Z : Nat → Nat → Int} (h : Rows2 w a n A L C Z) (k : Nat) : Rows2 (w.drewN k) a n A L C Z := h
theorem below_drew (w : World) (B k : Nat) : Below B w (w.drewN k) := ⟨rfl, rfl, rfl, Nat.le_refl _, fun _ _ => rfl⟩

theorem gcell {w : World} {base gb k gc : Nat} {gvs : List Value} {grs : List (List Nat)} (hog : w.ownsRow base 24 1 (.slice (some ⟨gb, 0, none⟩) k gc) k gvs) (hk : k = grs.length)
    (hgr : ∀ (k : Nat) (g : List Nat), grs[k]? = some g → ∃ v, gvs[k]? = some v ∧ w.ownsRow base 3 1 v g.length (g.map ival)) (hne : ∀ (k : Nat) (g : List Nat), grs[k]? = some g → g ≠ []) :
    ∀ (k : Nat) (g : List Nat), grs[k]? = some g → ∃ bk ck, w.cell? ⟨gb, k, none⟩ = some (.slice (some ⟨bk, 0, none⟩) g.length ck) ∧ ∀ j, j < g.length → w.cell? ⟨bk, j, none⟩ = some (.int .i64 (g.getD j 0 : Nat)) := by
  intro i g hi
  obtain ⟨v, h1, h2⟩ := hgr i g hi
  have hil : i < k := by rw [hk]; exact (List.getElem?_eq_some_iff.1 hi).1
  obtain ⟨bk, ck, rfl⟩ := own_pos h2 (List.length_pos_iff.2 (hne i g hi))
  refine ⟨bk, ck, ?_, fun j hj => own_cell h2 hj⟩
  rw [hog.cellAt i (by omega)]
  exact h1
theorem groups_le {n : Nat} {deg : Nat → Nat} {E : Nat → Nat → Nat} {grs : List (List Nat)} (h : Tj.Good n deg E grs) : grs.length ≤ n := by
  have h1 : grs.length ≤ grs.flatten.length := by
    have hne : ∀ g, g ∈ grs → g ≠ [] := fun g hg => by
      obtain ⟨k, hk⟩ := List.mem_iff_getElem?.1 hg
      exact (h.gr k g hk).1
    clear h
    induction grs with
    | nil => simp
    | cons g gs ih =>
      have h1 := ih (fun g hg => hne g (by simp [hg]))
      have h2 : 0 < g.length := List.length_pos_iff.2 (hne g (by simp))
      simp only [List.flatten_cons, List.length_append, List.length_cons]
      omega
  have h2 := Tj.length_le_of_nodup n _ h.nd h.lt
  omega
theorem group_le {n : Nat} {deg : Nat → Nat} {E : Nat → Nat → Nat} {grs : List (List Nat)} (h : Tj.Good n deg E grs) {k : Nat} {g : List Nat} (hk : grs[k]? = some g) : g.length ≤ n ∧ ∀ v, v ∈ g → v < n := by
  have hs : g.Sublist grs.flatten := List.sublist_flatten_of_mem (List.mem_of_getElem? hk)
  have hm : ∀ v, v ∈ g → v < n := fun v hv => h.lt v (List.mem_flatten.2 ⟨g, List.mem_of_getElem? hk, hv⟩)
  exact ⟨Tj.length_le_of_nodup n g (h.nd.sublist hs) hm, hm⟩
/-- the numbers of the groups in their row -/
def gnum (G : Nat → Int) (v : Nat) : Value := .int .i64 (G v)
theorem gnum_set {w : World} {b n a : Nat} {G : Nat → Int} {x : Int} (h : w.rowIs b 3 n (gnum G)) : (w.setCell ⟨b, a, none⟩ (.int .i64 x)).rowIs b 3 n (gnum (Tj.upd G a x)) := by
  refine (h.set a _).congr fun i _ => ?_
  unfold gnum Tj.upd
  by_cases e : i = a
  · subst e; simp
  · simp [e]

theorem gnum_all {r m : Nat} (h : ¬ r < m) : ∀ i, i < m → gnum (fun v => if v < r then -1 else 0) i = gnum (fun _ => -1) i := by
  intro i hi
  have : i < r := by omega
  simp [gnum, this]

set_option maxHeartbeats 4000000 in
set_option maxRecDepth 100000 in
theorem law_any (a b : Option Addr) (n m c d : Nat) (A A' : Nat → Option Addr) (L C L' C' : Nat → Nat) (Z Z' : Nat → Nat → Int) (w : World) (h : Rows2 w a n A L C Z) (h' : Rows2 w b m A' L' C' Z') (hn : n ≤ 9223372036854775807) (hm : m ≤ 9223372036854775807) :
    Calls Try.prog 3 #[.slice a n c, .slice b m d] w fun e w' => e = .returned (.bool true) ∧ Below w.heap.size w w' := by
  have H := hide h
  have H' := hide h'
  have HZB := hide (zbytes_any a b n m c d A A' L C L' C' Z Z' w h h' hn hm)
  clear h h'
  go_enter Try.func3, Try.ntmps3
  go_wp2_with fail
  refine (unhide HZB).mono ?_
  rintro e w' ⟨⟨x, rfl⟩, hw'⟩
  obtain rfl := hw'.symm
  clear HZB hw'
  cases x with
  | false =>
    go_wp2
    go_ret
    exact ⟨rfl, Below.refl _ _⟩
  | true =>
    by_cases hn5 : 512 < n
    · go_wp2
      go_ret
      exact ⟨rfl, Below.refl _ _⟩
    by_cases hmn : m = n
    · subst hmn
      have hn6 : m ≤ 512 := by omega
      clear hn5 hn hm
      go_wp2
      go_loopw [6, 7] (fun t i wr => ∃ (r k : Nat) (s : Int), r ≤ m ∧ i = .int .i64 r ∧ wr = w.drewN k ∧ t = .int .i64 s ∧ 0 ≤ s ∧ s ≤ 32768 ∧ ∀ r', r' < r → L r' ≤ 32768 ∧ L' r' = L r') (fun _ i _ => m - (intOf i).toNat)
      case atStart => exact ⟨0, 0, 0, Nat.zero_le _, rfl, rfl, rfl, by omega, by omega, fun r' hr => absurd hr (Nat.not_lt_zero r')⟩
      case round =>
        obtain ⟨r, k, s, hr, rfl, rfl, rfl, hs0, hs1, hall⟩ := hrel
        have HALL := hide hall
        clear hall
        by_cases hlt : r < m
        · obtain ⟨⟨b0, o0, rfl, hc⟩, hLm, _⟩ := unhide H r hlt
          obtain ⟨⟨b1, o1, rfl, hc'⟩, hLm', _⟩ := unhide H' r hlt
          have hlt' : (r : Int) < (m : Int) := by omega
          by_cases hbig : 32768 < L r
          · have hd : decide ((32768 : Int) < ((L r : Nat) : Int)) = true := decide_eq_true (by omega)
            go_wp2
            go_quiet (fail)
            go_wp2
            go_ret
            first | exact ⟨rfl, below_drew _ _ _⟩ | exact ⟨rfl, (below_drew _ _ _).trans (below_drew _ _ _)⟩
          · have hd : decide ((32768 : Int) < ((L r : Nat) : Int)) = false := decide_eq_false (by omega)
            by_cases hLe : L' r = L r
            · have hd2 : (((L' r : Nat) : Int) != ((L r : Nat) : Int)) = false := by simp; omega
              have HLE := hide hLe
              clear hLe
              by_cases hs2 : 32768 < s + L r
              · go_wp2
                go_quiet (fail)
                go_wp2
                go_ret
                first | exact ⟨rfl, below_drew _ _ _⟩ | exact ⟨rfl, (below_drew _ _ _).trans (below_drew _ _ _)⟩
              · go_wp2
                go_quiet (fail)
                go_wp2
                go_roundw
                case rel =>
                  refine ⟨r + 1, _, _, by omega, by go_num, rfl, rfl, by omega, by omega, fun r' hr' => ?_⟩
                  by_cases e : r' = r
                  · subst e; exact ⟨by omega, unhide HLE⟩
                  · exact unhide HALL r' (by omega)
                case measure => simp [intOf]; omega
            · have hd2 : (((L' r : Nat) : Int) != ((L r : Nat) : Int)) = true := by simp; omega
              clear hLe
              go_wp2
              go_quiet (fail)
              go_wp2
              go_ret
              first | exact ⟨rfl, below_drew _ _ _⟩ | exact ⟨rfl, (below_drew _ _ _).trans (below_drew _ _ _)⟩
        · have hLa : ∀ r', r' < m → L r' ≤ 32768 ∧ L' r' = L r' := fun r' hr' => unhide HALL r' (by omega)
          have HLA := hide hLa
          clear hLa HALL
          have h1 := (unhide H).drewN k
          have h2 := ((unhide H').turn (fun r' hr' => (unhide HLA r' hr').2)).drewN k
          have h3 := below_drew w w.heap.size k
          have h4 : (w.drewN k).heap.size = w.heap.size := rfl
          generalize hwk : World.drewN w k = wk at h1 h2 h3 h4 ⊢
          have H1 := hide h1
          have H2 := hide h2
          have H3 := hide h3
          have H4 := hide h4
          clear hwk h1 h2 h3 h4 H H'
          go_wp2
          go_loop [8] (fun i => ∃ r2 : Nat, r2 ≤ m ∧ i = .int .i64 r2 ∧ ∀ r', r' < r2 → ∀ i', i' < L r' → 0 ≤ Z r' i' ∧ Z r' i' < m) (fun i => m - (intOf i).toNat)
          case atStart => exact ⟨0, Nat.zero_le _, rfl, fun r' hr => absurd hr (Nat.not_lt_zero r')⟩
          case round =>
            obtain ⟨r2, hr2, rfl, hall⟩ := hrel
            have HALL := hide hall
            clear hall
            by_cases hlt2 : r2 < m
            · obtain ⟨⟨b0, o0, rfl, hc⟩, _, hz⟩ := unhide H1 r2 hlt2
              have hL2 := (unhide HLA r2 hlt2).1
              have HZZ := hide hz
              clear hz
              go_wp2
              go_loop [9] (fun i => ∃ j : Nat, j ≤ L r2 ∧ i = .int .i64 j ∧ ∀ i', i' < j → 0 ≤ Z r2 i' ∧ Z r2 i' < m) (fun i => L r2 - (intOf i).toNat)
              case atStart => exact ⟨0, Nat.zero_le _, rfl, fun i' hi => absurd hi (Nat.not_lt_zero i')⟩
              case round =>
                obtain ⟨j, hj, rfl, hin⟩ := hrel
                have HIN := hide hin
                clear hin
                by_cases hjl : j < L r2
                · obtain ⟨e0, q0, he0, hz0⟩ := unhide HZZ j hjl
                  rw [he0] at hc
                  clear he0
                  by_cases hz1 : Z r2 j < 0
                  · go_wp2
                    go_ret
                    exact ⟨rfl, unhide H3⟩
                  · have hz1' : decide (Z r2 j < 0) = false := decide_eq_false hz1
                    by_cases hz2 : Z r2 j < m
                    · go_wp2
                      go_round
                      case rel =>
                        refine ⟨j + 1, by omega, by go_num, fun i' hi' => ?_⟩
                        by_cases e : i' = j
                        · subst e; exact ⟨by omega, hz2⟩
                        · exact unhide HIN i' (by omega)
                      case measure => simp [intOf]; omega
                    · go_wp2
                      go_ret
                      exact ⟨rfl, unhide H3⟩
                · go_wp2
                  go_round
                  case rel =>
                    refine ⟨r2 + 1, by omega, by go_num, fun r' hr' i' hi' => ?_⟩
                    by_cases e : r' = r2
                    · subst e; exact unhide HIN i' (by omega)
                    · exact unhide HALL r' (by omega) i' hi'
                  case measure => simp [intOf]; omega
            · have hzall : ∀ r' i', r' < m → i' < L r' → 0 ≤ Z r' i' ∧ Z r' i' < m := fun r' i' hr' hi' => unhide HALL r' (by omega) i' hi'
              have HZA := hide hzall
              clear hzall HALL
              have HCV := hide (conv_any a b m c d A A' L C C' Z Z' wk (unhide H1) (unhide H2) hn6 (fun r' hr' => (unhide HLA r' hr').1) (unhide HZA))
              go_wp2_with fail
              refine (unhide HCV).mono ?_
              intro e w1 hout
              obtain ⟨gv, gvs, grs, ord, low, nxt, opn, cnt, base, rfl, hI, hvis, hog, hgr, hbel1⟩ := hout.ex
              have HGOOD := hide (hI.good hvis)
              have HOG := hide hog
              have HGR := hide hgr
              have HB1 := hide hbel1
              clear hout hI hvis hgr hbel1 HCV
              obtain ⟨ga, gc, rfl⟩ := own_slice hog
              clear hog
              by_cases hm0 : m = 0
              · subst hm0
                have hg0 : grs = [] := (unhide HGOOD).none
                subst hg0
                go_wp2
                go_ret
                exact ⟨rfl, (unhide H3).trans ((unhide HB1).mono (by rw [unhide H4]; exact Nat.le_refl _))⟩
              · have hm0' : (((m : Nat) : Int) == 0) = false := by simp; omega
                have hmpos : 0 < m := by omega
                clear hm0
                have HRT := hide (reachtab_any a m c A L C Z w1 ((unhide H1).below (unhide HB1)) hn6 (fun r' hr' => (unhide HLA r' hr').1) (unhide HZA))
                go_wp2_with fail
                refine (unhide HRT).mono ?_
                rintro e w2 ⟨tab, rfl, hrow, hbo, hbel2⟩
                have hgl := groups_le (unhide HGOOD)
                have hgp : 0 < grs.length := by
                  cases hg : grs with
                  | nil =>
                    have := (unhide HGOOD).all 0 hmpos
                    rw [hg] at this
                    simp at this
                  | cons g gs => simp
                have hog2 := own_of_block (unhide HOG) (w' := w2) (fun g' hg' => hbel2.block g' ((unhide HOG).lt g' hg').2)
                obtain ⟨gb, gc', hga⟩ := own_pos hog2 hgp
                cases hga
                have hgc := gcell hog2 rfl (fun k g hk => by
                  obtain ⟨v, h1, h2⟩ := unhide HGR k g hk
                  exact ⟨v, h1, own_of_block h2 (fun g' hg' => hbel2.block g' (h2.lt g' hg').2)⟩) (fun k g hk => ((unhide HGOOD).gr k g hk).1)
                have htab : ∀ i, i < m * m → w2.cell? ⟨w1.heap.size, i, none⟩ = some (.bool (tab i)) := fun i hi => hrow.cell hi
                have hto := ((unhide H1).below (unhide HB1)).below hbel2
                have hbel : Below w.heap.size w w2 := ((unhide H3).trans ((unhide HB1).mono (by rw [unhide H4]; exact Nat.le_refl _))).trans (hbel2.mono (by have := (unhide HB1).size; have := unhide H4; omega))
                have HGC := hide hgc
                have HTAB := hide htab
                have HTO := hide hto
                have HBL := hide hbel
                have HBO := hide hbo
                have hmk := run_make_row' (P := Try.prog) 24 3 (.int .i64 0) 8 Try.underlying24 Try.info3 rfl .i64 .i64 m (by omega) (by omega)
                clear hgc htab hto hbel hbo hog2 hrow hbel2 HRT HOG HGR HB1 H1 H2 H3 H4
                go_wp2
                go_loopw [13] (fun i wr => ∃ r3 : Nat, r3 ≤ m ∧ i = .int .i64 r3 ∧ wr.rowIs w2.heap.size 3 m (gnum fun v => if v < r3 then -1 else 0) ∧ Below w2.heap.size w2 wr) (fun i _ => m - (intOf i).toNat)
                case atStart => exact ⟨0, Nat.zero_le _, rfl, (World.rowIs_made w2 (.int .i64 0) m 3).congr (fun i _ => by simp [gnum]), (Below.refl _ _).alloc (Nat.le_refl _) _⟩
                case round =>
                  obtain ⟨r3, hr3, rfl, hrw, hbl⟩ := hrel
                  by_cases hlt3 : r3 < m
                  · have s0 := hrw.cell hlt3
                    have f0 := hrw.frozen r3
                    have HRW := hide hrw
                    have HBW := hide hbl
                    clear hrw hbl
                    go_wp2
                    go_roundw
                    case rel =>
                      refine ⟨r3 + 1, by omega, by go_num, (gnum_set (unhide HRW)).congr (fun i _ => ?_), (unhide HBW).setCell (Nat.le_refl _) _⟩
                      unfold gnum Tj.upd
                      by_cases e : i = r3
                      · subst e; simp
                      · have : (i < r3 + 1) ↔ i < r3 := by omega
                        simp [e, this]
                    case measure => simp [intOf]; omega
                  · have HRW : Hid (wr.rowIs w2.heap.size 3 m (gnum fun _ => -1)) := hrw.congr (gnum_all hlt3)
                    have HBW := hide hbl
                    clear hrw hbl hmk
                    go_wp2
                    go_loopw [14] (fun i wr => ∃ (gi : Nat) (G : Nat → Int), gi ≤ grs.length ∧ i = .int .i64 gi ∧ wr.rowIs w2.heap.size 3 m (gnum G) ∧ Tj.Asg m grs gi [] G ∧ Below w2.heap.size w2 wr) (fun i _ => grs.length - (intOf i).toNat)
                    case atStart => exact ⟨0, _, Nat.zero_le _, rfl, unhide HRW, Tj.Asg.start _ _, unhide HBW⟩
                    case round =>
                      obtain ⟨gi, G, hgi, rfl, hrw, hasg, hbl⟩ := hrel
                      clear HRW HBW
                      by_cases hgil : gi < grs.length
                      · obtain ⟨g, hg⟩ : ∃ g, grs[gi]? = some g := ⟨_, List.getElem?_eq_getElem hgil⟩
                        obtain ⟨bk, ck, hck, hcj⟩ := unhide HGC gi g hg
                        have hgle := group_le (unhide HGOOD) hg
                        have hgne : 0 < g.length := List.length_pos_iff.2 ((unhide HGOOD).gr gi g hg).1
                        have hgl1 := hgle.1
                        have hg00 : (((g.length : Nat) : Int) == 0) = false := by simp; intro h; rw [h] at hgne; simp at hgne
                        have hgb2 : gb < w2.heap.size := World.block_lt_of_cell? w2 _ hck
                        have c0 : wr.cell? ⟨gb, gi, none⟩ = some (.slice (some ⟨bk, 0, none⟩) g.length ck) := by rw [hbl.cell (p := ⟨gb, gi, none⟩) hgb2]; exact hck
                        have HG := hide hg
                        have HCJ := hide hcj
                        have HRW := hide hrw
                        have HBW := hide hbl
                        have HAS := hide hasg
                        have HGLT := hide hgle.2
                        clear hg hcj hrw hbl hasg hck hgle
                        go_wp2
                        go_loopw [16] (fun i wr => ∃ (j : Nat) (G : Nat → Int), j ≤ g.length ∧ i = .int .i64 j ∧ wr.rowIs w2.heap.size 3 m (gnum G) ∧ Tj.Asg m grs gi (g.take j) G ∧ Below w2.heap.size w2 wr) (fun i _ => g.length - (intOf i).toNat)
                        case atStart => exact ⟨0, G, Nat.zero_le _, rfl, unhide HRW, by simpa using unhide HAS, unhide HBW⟩
                        case round =>
                          obtain ⟨j, G2, hj, rfl, hrw, hasg, hbl⟩ := hrel
                          clear HRW HBW HAS c0
                          by_cases hjl : j < g.length
                          · have hcj := unhide HCJ j hjl
                            have hmem : g.getD j 0 ∈ g := by rw [List.getD_eq_getElem?_getD, List.getElem?_eq_getElem hjl, Option.getD_some]; exact List.getElem_mem _
                            have hvn := unhide HGLT _ hmem
                            have hfr := Tj.Asg.fresh (unhide HGOOD) hasg (unhide HG) hjl hvn
                            have hst := hasg.step hjl hfr
                            have c1 : wr.cell? ⟨bk, j, none⟩ = some (.int .i64 (g.getD j 0 : Nat)) := by rw [hbl.cell (p := ⟨bk, j, none⟩) (World.block_lt_of_cell? w2 _ hcj)]; exact hcj
                            have r0 := hrw.cell hvn
                            have f0 := hrw.frozen (g.getD j 0)
                            unfold gnum at r0
                            rw [hfr] at r0
                            clear hasg hcj hmem hfr
                            generalize g.getD j 0 = v at *
                            have HRW := hide hrw
                            have HBW := hide hbl
                            have HST := hide hst
                            clear hrw hbl hst
                            go_wp2
                            go_roundw
                            case rel => exact ⟨j + 1, _, by omega, by go_num, gnum_set (unhide HRW), unhide HST, (unhide HBW).setCell (Nat.le_refl _) _⟩
                            case measure => simp [intOf]; omega
                          · rw [List.take_of_length_le (by omega)] at hasg
                            have hnx := hasg.next (unhide HG)
                            have HRW := hide hrw
                            have HBW := hide hbl
                            have HNX := hide hnx
                            clear hrw hbl hasg hnx
                            go_wp2
                            go_roundw
                            case rel => exact ⟨gi + 1, G2, by omega, by go_num, unhide HRW, unhide HNX, unhide HBW⟩
                            case measure => simp [intOf]; omega
                      · have hnum := hasg.num (unhide HGOOD) (by omega)
                        have HNUM := hide hnum
                        have HRW := hide hrw
                        have HBW := hide hbl
                        clear hnum hrw hbl hasg
                        rename World => w5
                        go_wp2
                        go_loop [18] (fun i => ∃ r4 : Nat, r4 ≤ m ∧ i = .int .i64 r4) (fun i => m - (intOf i).toNat)
                        case atStart => exact ⟨0, Nat.zero_le _, rfl⟩
                        case round =>
                          obtain ⟨r4, hr4, rfl⟩ := hrel
                          by_cases hlt4 : r4 < m
                          · have c1 := (unhide HRW).cell hlt4
                            unfold gnum at c1
                            have hnn := (unhide HNUM).nonneg hlt4
                            have hd : (G r4 == -1) = false := by simp; omega
                            go_wp2
                            go_round
                            case rel => exact ⟨r4 + 1, by omega, by go_num⟩
                            case measure => simp [intOf]; omega
                          · go_wp2
                            go_loopw [19] (fun i wr => ∃ r5 k : Nat, r5 ≤ m ∧ i = .int .i64 r5 ∧ wr = w5.drewN k) (fun i _ => m - (intOf i).toNat)
                            case atStart => exact ⟨0, 0, Nat.zero_le _, rfl, rfl⟩
                            case round =>
                              obtain ⟨r5, k5, hr5, rfl, rfl⟩ := hrel
                              by_cases hlt5 : r5 < m
                              · go_wp2
                                go_loopw [20] (fun i wr => ∃ r6 k : Nat, r6 ≤ m ∧ i = .int .i64 r6 ∧ wr = w5.drewN k) (fun i _ => m - (intOf i).toNat)
                                case atStart => exact ⟨0, k5, Nat.zero_le _, rfl, rfl⟩
                                case round =>
                                  obtain ⟨r6, k6, hr6, rfl, rfl⟩ := hrel
                                  by_cases hlt6 : r6 < m
                                  · have hbw := unhide HBW
                                    have hR1 : w1.heap.size < w2.heap.size := World.block_lt_of_cell? w2 _ (unhide HTAB (r5 * m + r6) (Tj.idx_lt hlt5 hlt6))
                                    have t1 : w5.cell? ⟨w1.heap.size, r5 * m + r6, none⟩ = some (.bool (tab (r5 * m + r6))) := by rw [hbw.cell (p := ⟨w1.heap.size, r5 * m + r6, none⟩) hR1]; exact unhide HTAB _ (Tj.idx_lt hlt5 hlt6)
                                    have t2 : w5.cell? ⟨w1.heap.size, r6 * m + r5, none⟩ = some (.bool (tab (r6 * m + r5))) := by rw [hbw.cell (p := ⟨w1.heap.size, r6 * m + r5, none⟩) hR1]; exact unhide HTAB _ (Tj.idx_lt hlt6 hlt5)
                                    have g1 := (unhide HRW).cell hlt5
                                    have g2 := (unhide HRW).cell hlt6
                                    unfold gnum at g1 g2
                                    have i1 := Tj.idx_lt hlt5 hlt6
                                    have i2 := Tj.idx_lt hlt6 hlt5
                                    have e1 : ((r5 * m + r6 : Nat) : Int) = (r5 : Int) * (m : Int) + (r6 : Int) := by rw [Int.natCast_add, Int.natCast_mul]
                                    have e2 : ((r6 * m + r5 : Nat) : Int) = (r6 : Int) * (m : Int) + (r5 : Int) := by rw [Int.natCast_add, Int.natCast_mul]
                                    have e3 : ((m * m : Nat) : Int) = (m : Int) * (m : Int) := Int.natCast_mul m m
                                    have hmm : m * m ≤ 262144 := Nat.mul_le_mul hn6 hn6
                                    have x1 : (r5 : Int) * (m : Int) + (r6 : Int) < (m : Int) * (m : Int) := by omega
                                    have x2 : (r6 : Int) * (m : Int) + (r5 : Int) < (m : Int) * (m : Int) := by omega
                                    have x3 : 0 ≤ (r5 : Int) * (m : Int) := by omega
                                    have x4 : 0 ≤ (r6 : Int) * (m : Int) := by omega
                                    have x5 : (m : Int) * (m : Int) ≤ 262144 := by omega
                                    have lt5 : (r5 : Int) < (m : Int) := by omega
                                    have lt6 : (r6 : Int) < (m : Int) := by omega
                                    clear e1 e2 e3 hbw
                                    have hmut : (G r5 == G r6) = (tab (r5 * m + r6) && tab (r6 * m + r5)) := by
                                      have hb := (unhide HNUM).both (unhide HGOOD) hlt5 hlt6
                                      have o1 := (unhide HBO).old r5 r6 hlt5 hlt6
                                      have o2 := (unhide HBO).old r6 r5 hlt6 hlt5
                                      rw [Bool.eq_iff_iff, beq_iff_eq, Bool.and_eq_true, hb, o1, o2]
                                    generalize tab (r5 * m + r6) = y1 at t1 hmut
                                    generalize tab (r6 * m + r5) = y2 at t2 hmut
                                    cases y1 <;> cases y2
                                    all_goals
                                      have hq := hmut
                                      simp only [Bool.and_true, Bool.and_false, Bool.and_self] at hq
                                      clear hmut
                                      go_wp2
                                      go_quiet (fail)
                                      go_wp2
                                      go_roundw
                                      case rel => exact ⟨r6 + 1, _, by omega, by go_num, rfl⟩
                                      case measure => simp [intOf]; omega
                                  · go_wp2
                                    go_roundw
                                    case rel => exact ⟨r5 + 1, k6, by omega, by go_num, rfl⟩
                                    case measure => simp [intOf]; omega
                              · have HT5 := hide (((unhide HTO).below (unhide HBW)).drewN k5)
                                have HRW5 : Hid ((w5.drewN k5).rowIs w2.heap.size 3 m (gnum G)) := unhide HRW
                                have HBL5 := hide (((unhide HBL).trans ((unhide HBW).mono (unhide HBL).size)).trans (below_drew _ _ k5))
                                generalize hw6 : World.drewN w5 k5 = w6 at HT5 HRW5 HBL5 ⊢
                                clear hw6 HTAB HTO HBL HBO HRW HBW HGC
                                go_wp2
                                go_loopw [22] (fun i wr => ∃ r7 k : Nat, r7 ≤ m ∧ i = .int .i64 r7 ∧ wr = w6.drewN k) (fun i _ => m - (intOf i).toNat)
                                case atStart => exact ⟨0, 0, Nat.zero_le _, rfl, rfl⟩
                                case round =>
                                  obtain ⟨r7, k7, hr7, rfl, rfl⟩ := hrel
                                  by_cases hlt7 : r7 < m
                                  · obtain ⟨⟨b0, o0, rfl, hc⟩, _, hz⟩ := unhide HT5 r7 hlt7
                                    have hL7 := (unhide HLA r7 hlt7).1
                                    have HZZ := hide hz
                                    clear hz
                                    go_wp2
                                    go_loopw [23] (fun i wr => ∃ r8 k : Nat, r8 ≤ L r7 ∧ i = .int .i64 r8 ∧ wr = w6.drewN k) (fun i _ => L r7 - (intOf i).toNat)
                                    case atStart => exact ⟨0, k7, Nat.zero_le _, rfl, rfl⟩
                                    case round =>
                                      obtain ⟨r8, k8, hr8, rfl, rfl⟩ := hrel
                                      by_cases hlt8 : r8 < L r7
                                      · obtain ⟨e0, q0, he0, hz0⟩ := unhide HZZ r8 hlt8
                                        rw [he0] at hc
                                        clear he0
                                        have hzb := unhide HZA r7 r8 hlt7 hlt8
                                        have hedge := (unhide HNUM).edge (unhide HGOOD) hlt7 hlt8 (show (Z r7 r8).toNat < m by omega)
                                        obtain ⟨bb, hbb⟩ : ∃ bb : Nat, Z r7 r8 = bb := ⟨(Z r7 r8).toNat, by omega⟩
                                        rw [hbb, Int.toNat_natCast] at hedge
                                        rw [hbb] at hz0
                                        have hblt : bb < m := by omega
                                        clear hbb hzb
                                        have g1 := (unhide HRW5).cell hlt7
                                        have g2 := (unhide HRW5).cell hblt
                                        unfold gnum at g1 g2
                                        have lt7 : (r7 : Int) < (m : Int) := by omega
                                        have ltb : (bb : Int) < (m : Int) := by omega
                                        have hd2 : decide (G r7 < G bb) = false := decide_eq_false (by omega)
                                        clear hedge
                                        by_cases hgg : G r7 = G bb
                                        · have hd1 : (G r7 != G bb) = false := by simp [hgg]
                                          clear hgg
                                          go_wp2
                                          go_quiet (fail)
                                          go_wp2
                                          go_roundw
                                          case rel => exact ⟨r8 + 1, _, by omega, by go_num, rfl⟩
                                          case measure => simp [intOf]; omega
                                        · have hd1 : (G r7 != G bb) = true := by simp [hgg]
                                          clear hgg
                                          go_wp2
                                          go_quiet (fail)
                                          go_wp2
                                          go_roundw
                                          case rel => exact ⟨r8 + 1, _, by omega, by go_num, rfl⟩
                                          case measure => simp [intOf]; omega
                                      · go_wp2
                                        go_roundw
                                        case rel => exact ⟨r7 + 1, k8, by omega, by go_num, rfl⟩
                                        case measure => simp [intOf]; omega
                                  · go_wp2
                                    go_ret
                                    exact ⟨rfl, (unhide HBL5).trans (below_drew _ _ _)⟩
    · have hmn' : (((m : Nat) : Int) != ((n : Nat) : Int)) = true := by simp; omega
      clear hmn
      go_wp2
      go_ret
      exact ⟨rfl, Below.refl _ _⟩
end Go.Proofs.Qxb6617531a
