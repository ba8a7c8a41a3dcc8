import Derived.Test.Qxb6617558aDa
import Derived.ProofKit
import Derived.OpenShut
import Derived.ChangeOld
import Derived.Deep.SlicePairs
namespace Go.Proofs.Qxb6617558a
open Go.ChangeShapes Go.WideShapes Go.ChangeAt Go.RowKit Go.Deep
set_option linter.unusedVariables false
theorem cells25 : Try.prog.cellsOf 25 = 2 := by kernel_rfl
theorem cells22 : Try.prog.cellsOf 22 = 1 := by kernel_rfl
theorem cells23 : Try.prog.cellsOf 23 = 1 := by kernel_rfl
theorem cells35 : Try.prog.cellsOf 35 = 2 := by kernel_rfl
theorem cells38 : Try.prog.cellsOf 38 = 6 := by kernel_rfl
theorem cells3 : Try.prog.cellsOf 3 = 1 := by kernel_rfl
theorem cells2 : Try.prog.cellsOf 2 = 1 := by kernel_rfl
theorem cells36 : Try.prog.cellsOf 36 = 1 := by kernel_rfl
theorem cells41 : Try.prog.cellsOf 41 = 10 := by kernel_rfl
theorem cells39 : Try.prog.cellsOf 39 = 1 := by kernel_rfl
theorem own : ownKnob Try.prog.godebug = none := by kernel_rfl
theorem wf_range {n : Int} (h : (Lit.int .i64 n).wf = true) : -9223372036854775808 ≤ n ∧ n ≤ 9223372036854775807 := by
  have h1 : IntKind.i64.min = -9223372036854775808 := by decide
  have h2 : IntKind.i64.max = 9223372036854775807 := by decide
  simp [Lit.wf, h1, h2] at h
  omega
section
variable {H : Type} {enc : TypeId × Value → H} {W : World} {base fuel : Nat} {sp : Nat → Bool} {held : Bool} {cs : List Value} {x : DataW H × List MemPlace}
theorem trod_float {t : TypeId} {k : FloatKind} (ht : Try.prog.underlying t = some (.float k)) (h : DataW.trod enc Try.prog W base sp held fuel t cs = some x) : ∃ b, cs = [.float k b] ∧ (Lit.float k b).wf = true := by
  cases fuel with
  | zero => simp [DataW.trod] at h
  | succ n =>
    unfold DataW.trod at h
    rw [ht] at h
    split at h <;> simp_all
set_option maxRecDepth 100000 in
theorem open35 (h : DataW.trod enc Try.prog W base sp held fuel 35 cs = some x) : ∃ s n, cs = [.string s, .int .i64 n] ∧ s.size ≤ maxLen ∧ -9223372036854775808 ≤ n ∧ n ≤ 9223372036854775807 := by
  obtain ⟨xs, k, rfl, _, hl, hxl, hf⟩ := DataW.trod_struct Try.underlying35 h
  rw [cells35] at hl
  match cs, hl with
  | [v0, v1], _ =>
    have g0 := hf 0 _ rfl
    have g1 := hf 1 _ rfl
    simp [cells9, cells3] at g0 g1
    match xs, hxl with
    | [y0, y1], _ =>
      simp at g0 g1
      obtain ⟨s, e0, _, hs⟩ := DataW.trod_string Try.underlying9 g0
      obtain ⟨n, e1, _, hn⟩ := DataW.trod_int Try.underlying3 g1
      simp at e0 e1
      subst e0
      subst e1
      exact ⟨s, n, rfl, hs, wf_range hn⟩
set_option maxRecDepth 100000 in
theorem open41 (h : DataW.trod enc Try.prog W base sp held fuel 41 cs = some x) : ∃ p : Pl, p.Ok ∧ ∀ c, c < 10 → cs[c]? = some (p.cell c) := by
  obtain ⟨xs, k, rfl, _, hl, hxl, hf⟩ := DataW.trod_struct Try.underlying41 h
  rw [cells41] at hl
  match cs, hl with
  | [v0, v1, v2, v3, v4, v5, v6, v7, v8, v9], _ =>
    have g0 := hf 0 _ rfl
    have g1 := hf 1 _ rfl
    have g2 := hf 2 _ rfl
    have g3 := hf 3 _ rfl
    have g4 := hf 4 _ rfl
    have g5 := hf 5 _ rfl
    have g6 := hf 6 _ rfl
    have g7 := hf 7 _ rfl
    have g8 := hf 8 _ rfl
    have g9 := hf 9 _ rfl
    simp [cells9, cells3, cells39] at g0 g1 g2 g3 g4 g5 g6 g7 g8 g9
    match xs, hxl with
    | [y0, y1, y2, y3, y4, y5, y6, y7, y8, y9], _ =>
      simp at g0 g1 g2 g3 g4 g5 g6 g7 g8 g9
      obtain ⟨s0, e0, _, h0⟩ := DataW.trod_string Try.underlying9 g0
      obtain ⟨s1, e1, _, h1⟩ := DataW.trod_string Try.underlying9 g1
      obtain ⟨n2, e2, _, h2⟩ := DataW.trod_int Try.underlying3 g2
      obtain ⟨n3, e3, _, h3⟩ := DataW.trod_int Try.underlying3 g3
      obtain ⟨b4, e4, h4⟩ := trod_float Try.underlying39 g4
      obtain ⟨b5, e5, h5⟩ := trod_float Try.underlying39 g5
      obtain ⟨b6, e6, h6⟩ := trod_float Try.underlying39 g6
      obtain ⟨b7, e7, h7⟩ := trod_float Try.underlying39 g7
      obtain ⟨b8, e8, h8⟩ := trod_float Try.underlying39 g8
      obtain ⟨b9, e9, h9⟩ := trod_float Try.underlying39 g9
      simp at e0 e1 e2 e3 e4 e5 e6 e7 e8 e9
      subst e0 e1 e2 e3 e4 e5 e6 e7 e8 e9
      refine ⟨⟨s0, s1, n2, n3, fun k => if k = 0 then b4 else if k = 1 then b5 else if k = 2 then b6 else if k = 3 then b7 else if k = 4 then b8 else b9⟩, ⟨h0, h1, wf_range h2, wf_range h3, fun k hk => ?_⟩, fun c hc => ?_⟩
      · simp [Lit.wf] at h4 h5 h6 h7 h8 h9
        have : k = 0 ∨ k = 1 ∨ k = 2 ∨ k = 3 ∨ k = 4 ∨ k = 5 := by omega
        rcases this with rfl | rfl | rfl | rfl | rfl | rfl
        · exact h4
        · exact h5
        · exact h6
        · exact h7
        · exact h8
        · exact h9
      · have : c = 0 ∨ c = 1 ∨ c = 2 ∨ c = 3 ∨ c = 4 ∨ c = 5 ∨ c = 6 ∨ c = 7 ∨ c = 8 ∨ c = 9 := by omega
        rcases this with rfl | rfl | rfl | rfl | rfl | rfl | rfl | rfl | rfl | rfl <;> rfl
set_option maxRecDepth 100000 in
theorem open38 (h : DataW.trod enc Try.prog W base sp held fuel 38 cs = some x) : ∃ (src id nm tn : ByteArray) (lat : Int) (v : Value) (k : Nat) (y : DataW H × List MemPlace), cs = [.string src, .string id, .int .i64 lat, .string nm, .string tn, v] ∧
    src.size ≤ maxLen ∧ id.size ≤ maxLen ∧ nm.size ≤ maxLen ∧ tn.size ≤ maxLen ∧ (-9223372036854775808 ≤ lat ∧ lat ≤ 9223372036854775807) ∧ DataW.trod enc Try.prog W base sp held k 36 [v] = some y := by
  obtain ⟨xs, k, rfl, _, hl, hxl, hf⟩ := DataW.trod_struct Try.underlying38 h
  rw [cells38] at hl
  match cs, hl with
  | [v0, v1, v2, v3, v4, v5], _ =>
    have g0 := hf 0 _ rfl
    have g1 := hf 1 _ rfl
    have g2 := hf 2 _ rfl
    have g3 := hf 3 _ rfl
    have g4 := hf 4 _ rfl
    have g5 := hf 5 _ rfl
    simp [cells9, cells2, cells36] at g0 g1 g2 g3 g4 g5
    match xs, hxl with
    | [y0, y1, y2, y3, y4, y5], _ =>
      simp at g0 g1 g2 g3 g4 g5
      obtain ⟨s0, e0, _, h0⟩ := DataW.trod_string Try.underlying9 g0
      obtain ⟨s1, e1, _, h1⟩ := DataW.trod_string Try.underlying9 g1
      obtain ⟨n2, e2, _, h2⟩ := DataW.trod_int Try.underlying2 g2
      obtain ⟨s3, e3, _, h3⟩ := DataW.trod_string Try.underlying9 g3
      obtain ⟨s4, e4, _, h4⟩ := DataW.trod_string Try.underlying9 g4
      simp at e0 e1 e2 e3 e4
      subst e0 e1 e2 e3 e4
      exact ⟨s0, s1, s3, s4, n2, v5, k, y5, rfl, h0, h1, h3, h4, wf_range h2, g5⟩
theorem spot_none {a : Addr} {k : Nat} {v : Value} (h : W.cell? (a.add k) = some v) (hk : k = 0) : a.spot = none := by
  subst hk
  simpa [Addr.add] using World.cell?_spot h
set_option maxRecDepth 100000 in
theorem open36 {a : Option Addr} {len cap : Nat} (h : DataW.trod enc Try.prog W base (fun _ => true) held fuel 36 [.slice a len cap] = some x) :
    len ≤ maxLen ∧ ∃ P : Nat → Pl, ∀ j, j < len → (P j).Ok ∧ ∃ b o, a = some ⟨b, o, none⟩ ∧ ∀ c, c < 10 → W.cell? ⟨b, o + j * 10 + c, none⟩ = some ((P j).cell c) := by
  rcases open_slice Try.underlying36 h with ⟨hcs, _⟩ | ⟨p, len', cap', m, n, D, Pm, hcs, _, hl, hm, hmm, _, hx⟩
  · simp at hcs
    obtain ⟨rfl, rfl, rfl⟩ := hcs
    exact ⟨by omega, fun _ => ⟨ByteArray.empty, ByteArray.empty, 0, 0, fun _ => 0⟩, fun i hi => absurd hi (Nat.not_lt_zero i)⟩
  · simp at hcs
    obtain ⟨rfl, rfl, rfl⟩ := hcs
    simp only [if_true] at hmm
    subst hmm
    have each : ∀ i, ∃ q : Pl, i < len → q.Ok ∧ ∀ c, c < 10 → W.cell? (p.add (i * 10 + c)) = some (q.cell c) := by
      intro i
      by_cases hi : i < len
      · obtain ⟨cs', h1, h2⟩ := hx i (by omega)
        rw [cells41] at h1
        obtain ⟨_, hlen, hcell⟩ := World.cells?_some h1
        obtain ⟨q, hq, hc⟩ := open41 h2
        refine ⟨q, fun _ => ⟨hq, fun c hc' => ?_⟩⟩
        have c0 := hcell c (by omega)
        rw [add_add, hc c hc'] at c0
        exact c0
      · exact ⟨⟨ByteArray.empty, ByteArray.empty, 0, 0, fun _ => 0⟩, fun h => absurd h hi⟩
    obtain ⟨F, hF⟩ := Classical.axiomOfChoice each
    refine ⟨by omega, F, fun j hj => ⟨(hF j hj).1, ?_⟩⟩
    have hsp := spot_none ((hF 0 (by omega)).2 0 (by decide)) rfl
    obtain ⟨b, o, spot⟩ := p
    simp at hsp
    subst hsp
    refine ⟨b, o, rfl, fun c hc => ?_⟩
    rw [Nat.add_assoc, ← add_plain]
    exact (hF j hj).2 c hc
set_option maxRecDepth 100000 in
theorem open22 {a : Option Addr} {len cap : Nat} (h : DataW.trod enc Try.prog W base (fun _ => true) held fuel 22 [.slice a len cap] = some x) :
    len ≤ maxLen ∧ ∃ P : Nat → ByteArray × Int, ∀ j, j < len → (P j).1.size ≤ maxLen ∧ (-9223372036854775808 ≤ (P j).2 ∧ (P j).2 ≤ 9223372036854775807) ∧ ∃ b o, a = some ⟨b, o, none⟩ ∧ W.cell? ⟨b, o + j * 2, none⟩ = some (.string (P j).1) ∧ W.cell? ⟨b, o + j * 2 + 1, none⟩ = some (.int .i64 (P j).2) := by
  rcases open_slice Try.underlying22 h with ⟨hcs, _⟩ | ⟨p, len', cap', m, n, D, Pm, hcs, _, hl, hm, hmm, _, hx⟩
  · simp at hcs
    obtain ⟨rfl, rfl, rfl⟩ := hcs
    exact ⟨by omega, fun _ => (ByteArray.empty, 0), fun i hi => absurd hi (Nat.not_lt_zero i)⟩
  · simp at hcs
    obtain ⟨rfl, rfl, rfl⟩ := hcs
    simp only [if_true] at hmm
    subst hmm
    have each : ∀ i, ∃ q : ByteArray × Int, i < len → q.1.size ≤ maxLen ∧ (-9223372036854775808 ≤ q.2 ∧ q.2 ≤ 9223372036854775807) ∧ W.cell? (p.add (i * 2)) = some (.string q.1) ∧ W.cell? (p.add (i * 2 + 1)) = some (.int .i64 q.2) := by
      intro i
      by_cases hi : i < len
      · obtain ⟨cs', h1, h2⟩ := hx i (by omega)
        rw [cells35] at h1
        obtain ⟨_, hlen, hcell⟩ := World.cells?_some h1
        obtain ⟨s, n, rfl, hs, hn⟩ := open35 h2
        have c0 := hcell 0 (by omega)
        have c1 := hcell 1 (by omega)
        rw [add_add] at c0 c1
        exact ⟨(s, n), fun _ => ⟨hs, hn, by simpa using c0, by simpa using c1⟩⟩
      · exact ⟨(ByteArray.empty, 0), fun h => absurd h hi⟩
    obtain ⟨F, hF⟩ := Classical.axiomOfChoice each
    refine ⟨by omega, F, fun j hj => ⟨(hF j hj).1, (hF j hj).2.1, ?_⟩⟩
    have hsp := spot_none (hF 0 (by omega)).2.2.1 rfl
    obtain ⟨b, o, spot⟩ := p
    simp at hsp
    subst hsp
    refine ⟨b, o, rfl, ?_, ?_⟩
    · rw [← add_plain]; exact (hF j hj).2.2.1
    · rw [Nat.add_assoc, ← add_plain]; exact (hF j hj).2.2.2
set_option maxRecDepth 100000 in
theorem open23 {a : Option Addr} {len cap : Nat} (h : DataW.trod enc Try.prog W base (fun _ => true) held fuel 23 [.slice a len cap] = some x) :
    len ≤ maxLen ∧ ∃ (V : Nat → Vm) (pa : Nat → Option Addr) (pc : Nat → Nat), ∀ i, i < len → (V i).Ok ∧ (∃ b o, a = some ⟨b, o, none⟩ ∧ ∀ c, c < 6 → W.cell? ⟨b, o + i * 6 + c, none⟩ = some (vcell (V i) (.slice (pa i) (V i).np (pc i)) c)) ∧
      ∀ j, j < (V i).np → ∃ b o, pa i = some ⟨b, o, none⟩ ∧ ∀ c, c < 10 → W.cell? ⟨b, o + j * 10 + c, none⟩ = some (((V i).pl j).cell c) := by
  rcases open_slice Try.underlying23 h with ⟨hcs, _⟩ | ⟨p, len', cap', m, n, D, Pm, hcs, _, hl, hm, hmm, _, hx⟩
  · simp at hcs
    obtain ⟨rfl, rfl, rfl⟩ := hcs
    exact ⟨by omega, fun _ => ⟨ByteArray.empty, ByteArray.empty, 0, ByteArray.empty, ByteArray.empty, 0, fun _ => ⟨ByteArray.empty, ByteArray.empty, 0, 0, fun _ => 0⟩⟩, fun _ => none, fun _ => 0, fun i hi => absurd hi (Nat.not_lt_zero i)⟩
  · simp at hcs
    obtain ⟨rfl, rfl, rfl⟩ := hcs
    simp only [if_true] at hmm
    subst hmm
    have each : ∀ i, ∃ q : Vm × Option Addr × Nat, i < len → q.1.Ok ∧ (∀ c, c < 6 → W.cell? (p.add (i * 6 + c)) = some (vcell q.1 (.slice q.2.1 q.1.np q.2.2) c)) ∧
        ∀ j, j < q.1.np → ∃ b o, q.2.1 = some ⟨b, o, none⟩ ∧ ∀ c, c < 10 → W.cell? ⟨b, o + j * 10 + c, none⟩ = some ((q.1.pl j).cell c) := by
      intro i
      by_cases hi : i < len
      · obtain ⟨cs', h1, h2⟩ := hx i (by omega)
        rw [cells38] at h1
        obtain ⟨_, hlen, hcell⟩ := World.cells?_some h1
        obtain ⟨src, id, nm, tn, lat, v, k, y, rfl, h3, h4, h5, h6, h7, h8⟩ := open38 h2
        have hv : ∃ a len cap, v = .slice a len cap := by
          rcases open_slice Try.underlying36 h8 with ⟨hcs, _⟩ | ⟨p, len', cap', m, n, D, Pm, hcs, _⟩
          · simp at hcs; exact ⟨_, _, _, hcs⟩
          · simp at hcs; exact ⟨_, _, _, hcs⟩
        obtain ⟨a2, l2, c2, rfl⟩ := hv
        obtain ⟨hl2, P, hP⟩ := open36 h8
        refine ⟨(⟨src, id, lat, nm, tn, l2, P⟩, a2, c2), fun _ => ⟨⟨h3, h4, h5, h6, h7, hl2, fun j hj => (hP j hj).1⟩, fun c hc => ?_, fun j hj => (hP j hj).2⟩⟩
        have c0 := hcell c (by omega)
        rw [add_add] at c0
        rw [c0]
        have : c = 0 ∨ c = 1 ∨ c = 2 ∨ c = 3 ∨ c = 4 ∨ c = 5 := by omega
        rcases this with rfl | rfl | rfl | rfl | rfl | rfl <;> rfl
      · exact ⟨(⟨ByteArray.empty, ByteArray.empty, 0, ByteArray.empty, ByteArray.empty, 0, fun _ => ⟨ByteArray.empty, ByteArray.empty, 0, 0, fun _ => 0⟩⟩, none, 0), fun h => absurd h hi⟩
    obtain ⟨F, hF⟩ := Classical.axiomOfChoice each
    refine ⟨by omega, fun i => (F i).1, fun i => (F i).2.1, fun i => (F i).2.2, fun i hi => ⟨(hF i hi).1, ?_, (hF i hi).2.2⟩⟩
    have hsp := spot_none ((hF 0 (by omega)).2.1 0 (by decide)) rfl
    obtain ⟨b, o, spot⟩ := p
    simp at hsp
    subst hsp
    refine ⟨b, o, rfl, fun c hc => ?_⟩
    rw [Nat.add_assoc, ← add_plain]
    exact (hF i hi).2.1 c hc
end
end Go.Proofs.Qxb6617558a
