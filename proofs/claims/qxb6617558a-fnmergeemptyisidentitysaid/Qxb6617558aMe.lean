import Derived.Test.Qxb6617558aDa
namespace Go.Proofs.Qxb6617558a
open Go.RowKit Go.Maps
set_option linter.unusedVariables false
/-- ranging over an empty map -/
structure Idle (w : World) (U U0 U1 b r : Nat) (wr : World) : Prop where
  row : wr.rowIs U 50 2 (tf U0 U1)
  m0 : MapIs wr U0 0 (fun _ => undef) (fun _ => undef)
  m1 : MapIs wr U1 0 (fun _ => undef) (fun _ => undef)
  it : Iter wr b r 0 []
  below : Below w.heap.size w wr
set_option maxHeartbeats 1000000 in
set_option maxRecDepth 100000 in
theorem mergenil_any (t : Value) (U U0 U1 : Nat) (w : World) (hrow : w.rowIs U 50 2 (tf U0 U1)) (h0 : MapIs w U0 0 (fun _ => undef) (fun _ => undef)) (h1 : MapIs w U1 0 (fun _ => undef) (fun _ => undef)) :
    Calls Try.prog 15 #[t, .pointer (some ⟨U, 0, none⟩)] w fun e w' => e = .returned (.tuple #[]) ∧ Below w.heap.size w w' := by
  have c0 : w.cell? ⟨U, 0, none⟩ = some (.map (some U0)) := hrow.cell (i := 0) (by decide)
  have HR := hide hrow
  have H0 := hide h0
  have H1 := hide h1
  clear hrow h0 h1
  go_enter Try.func15, Try.ntmps15
  go_wp2_with (first | (at_range; refine wpList_range rfl _ _ rfl Try.underlying47 (unhide H0) rfl ?_))
  try go_frame
  generalize hwk : World.alloc w _ = wk
  have K : Idle w U U0 U1 U0 w.heap.size wk := by
    rw [← hwk]
    exact ⟨World.rowIs.alloc (unhide HR) _, (unhide H0).alloc _, (unhide H1).alloc _, iter_new w U0 0, (Below.refl _ _).alloc (Nat.le_refl _) _⟩
  have HK := hide K
  clear K hwk
  generalize hr1 : w.heap.size = r1 at HK ⊢
  go_loopw [16] (fun _ wr => Idle w U U0 U1 U0 r1 wr) (fun _ wr => wr.rangeLeft U0 r1)
  case atStart => exact unhide HK
  case round =>
    have c1 : wr.cell? ⟨U, 1, none⟩ = some (.map (some U1)) := hrel.row.cell (i := 1) (by decide)
    have HI := hide hrel
    clear hrel HK
    go_wp2_with (first | (at_next; refine wpList_next rfl _ rfl (unhide HI).m0 (unhide HI).it rfl ?_ ?_) | (at_range; refine wpList_range rfl _ _ rfl Try.underlying48 (unhide HI).m1 rfl ?_))
    try go_frame
    generalize hwk : World.alloc wr _ = wk
    have K : Idle w U U0 U1 U1 wr.heap.size wk := by
      rw [← hwk]
      exact ⟨World.rowIs.alloc (unhide HI).row _, (unhide HI).m0.alloc _, (unhide HI).m1.alloc _, iter_new wr U1 0, (unhide HI).below.alloc (unhide HI).below.size _⟩
    have HK := hide K
    clear K hwk
    generalize hr2 : wr.heap.size = r2 at HK ⊢
    go_loopw [34] (fun _ wr => Idle w U U0 U1 U1 r2 wr) (fun _ wr => wr.rangeLeft U1 r2)
    case atStart => exact unhide HK
    case round =>
      have HJ := hide hrel
      clear hrel HK
      go_wp2_with (at_next; refine wpList_next rfl _ rfl (unhide HJ).m1 (unhide HJ).it rfl ?_ ?_)
      go_end0
      exact ⟨rfl, (unhide HJ).below⟩
end Go.Proofs.Qxb6617558a
