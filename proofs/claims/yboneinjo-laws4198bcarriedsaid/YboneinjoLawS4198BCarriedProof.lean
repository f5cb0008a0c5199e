/-
  THE PROOF OF 'Rows.LawS4198BCarriedSaid' ('example.com/antecede/antecede/internal/link.LawS4198BCarried'): the frame after the guide's skeleton for slices ('Below'); the slice of puts opened at every element ('open_slice_pairs').
-/
import Derived.Test.YboneinjoRows
import Derived.WalkKit
import Derived.ProofKit
import Derived.OpenShut
import Derived.ShutString
import Derived.ChangeOld
import Derived.Below
import Derived.Deep.SlicePairs
import Derived.Test.YboneinjoLaw
namespace Go.Proofs.Yboneinjo.lawS4198BCarried
open Go.ChangeShapes Go.WideShapes Go.ChangeAt Go.RowKit Go.Deep
open Go.ChangeMaps (open_string shut_string)
set_option linter.unusedVariables false

theorem own : ownKnob Ybgu.prog.godebug = none := by kernel_rfl
theorem laidOut : laidOutB Ybgu.prog = true := by kernel_rfl

/-- Bytes that came in: nil, or a row of cells; the first len are ns. -/
def IsBytes (w : World) (a : Option Addr) (len cap : Nat) (ns : List Int) : Prop :=
  ns.length = len ∧ ((a = none ∧ len = 0 ∧ cap = 0) ∨ ∃ x, a = some x ∧ ∀ j u, (cellsOf ns)[j]? = some u → w.cell? (x.add j) = some u)

theorem isBytes_of {H : Type} {enc : TypeId × Value → H} {w : World} {fuel : Nat} {v : Value} {x : DataW H × List MemPlace} (h : DataW.trod enc Ybgu.prog w 0 (fun _ => true) true fuel 22 [v] = some x) : ∃ a len cap ns, v = .slice a len cap ∧ IsBytes w a len cap ns := by
  rcases open_ints Ybgu.underlying22 Ybgu.underlying5 (by kernel_rfl) h with ⟨hcs, _⟩ | ⟨y, l, c, zs, hcs, _, hl, hm, hz, _, hcell, hwz⟩
  · simp at hcs
    exact ⟨none, 0, 0, [], hcs, rfl, .inl ⟨rfl, rfl, rfl⟩⟩
  · simp at hcs hz
    refine ⟨some y, l, c, zs.take l, hcs, by simp; omega, .inr ⟨y, rfl, fun j u hu => ?_⟩⟩
    simp only [cellsOf, List.getElem?_map, Option.map_eq_some_iff] at hu
    obtain ⟨n, hn, rfl⟩ := hu
    rw [List.getElem?_take] at hn
    split at hn
    · have hj : j < zs.length := by
        rcases Nat.lt_or_ge j zs.length with hlt | hge
        · exact hlt
        · rw [List.getElem?_eq_none hge] at hn; cases hn
      rw [hcell j hj]
      simp [List.getD, hn]
    · cases hn

/-- The puts that came in: nil, or a row; each element's frame and due. -/
def IsPuts (w : World) (a : Option Addr) (len cap : Nat) : Prop :=
  (a = none ∧ len = 0 ∧ cap = 0) ∨
  ∃ (x : Addr) (q : Nat → Option Addr × Nat × Nat × Int × List Int), a = some x ∧ len ≤ cap ∧ ∀ r, r < cap → w.cell? (x.add (r * 2)) = some (.slice (q r).1 (q r).2.1 (q r).2.2.1) ∧ w.cell? (x.add (r * 2 + 1)) = some (.int .i16 (q r).2.2.2.1) ∧
    (Lit.int .i16 (q r).2.2.2.1).wf = true ∧ IsBytes w (q r).1 (q r).2.1 (q r).2.2.1 (q r).2.2.2.2

set_option maxRecDepth 100000 in
set_option maxHeartbeats 400000 in
/-- More than the law looks at. -/
theorem law_many (a0 a3 : Option Addr) (len0 cap0 len3 cap3 : Nat) (base : Int) (hold pre : Bool) (w : World) (h : 1024 < len0 ∨ 256 < len3) :
    Calls Ybgu.prog 3 #[.slice a0 len0 cap0, .int .u16 base, .bool hold, .slice a3 len3 cap3, .bool pre] w fun e w' => e = .returned (.bool true) ∧ Below w.heap.size w w' := by
  by_cases h0 : 1024 < len0
  · have h0' : (1024 : Int) < (len0 : Int) := by omega
    go_enter Ybgu.func3, Ybgu.ntmps3
    go_wp2
    go_ret
    exact ⟨rfl, Below.refl _ _⟩
  · have h0' : ¬ (1024 : Int) < (len0 : Int) := by omega
    have h2' : (256 : Int) < (len3 : Int) := by omega
    go_enter Ybgu.func3, Ybgu.ntmps3
    go_wp2
    go_ret
    exact ⟨rfl, Below.refl _ _⟩

theorem walk (a0 : Option Addr) (len0 cap0 : Nat) (ns : List Int) (a1 : Int) (a2 : Bool) (a3 : Option Addr) (len3 cap3 : Nat) (a4 : Bool) (w : World) (w0 : IsBytes w a0 len0 cap0 ns) (w1 : (Lit.int .u16 a1).wf = true) (w3 : IsPuts w a3 len3 cap3) :
    Calls Ybgu.prog 3 #[.slice a0 len0 cap0, .int .u16 a1, .bool a2, .slice a3 len3 cap3, .bool a4] w fun e w' => e = .returned (.bool true) ∧ Below w.heap.size w w' := by
  obtain ⟨b0, b1⟩ := bounds_u16 w1
  by_cases h : 1024 < len0 ∨ 256 < len3
  · exact law_many _ _ _ _ _ _ _ _ _ _ h
  · obtain ⟨hns, hsrc⟩ := w0
    rcases w3 with ⟨rfl, rfl, rfl⟩ | ⟨x, q, rfl, hlc, hq⟩
    · exact law_main a0 none len0 cap0 0 0 a1 a2 a4 ns w b0 b1 (by omega) (by omega) hns hsrc (fun _ => none) (fun _ => 0) (fun _ => 0) (fun _ => 0) (fun _ => []) (fun r hr => by omega)
    · refine law_main a0 (some x) len0 cap0 len3 cap3 a1 a2 a4 ns w b0 b1 (by omega) (by omega) hns hsrc (fun r => (q r).1) (fun r => (q r).2.1) (fun r => (q r).2.2.1) (fun r => (q r).2.2.2.1) (fun r => (q r).2.2.2.2) (fun r hr => ?_)
      obtain ⟨h0, h1, h2, h3, h4⟩ := hq r (by omega)
      refine ⟨bounds_i16 h2, h3, h4, ?_⟩
      obtain ⟨bp, op, sp⟩ := x
      have hsp : sp = none := by simpa [Addr.add] using World.cell?_spot (hq 0 (by omega)).1
      subst hsp
      rw [add_plain] at h0 h1
      exact ⟨bp, op, rfl, h0, h1⟩

/-! ### THE ROW's STEP -/
set_option maxRecDepth 100000 in
theorem lifted (os : Os) (started : os.Started) (H : Type) (enc : TypeId × Value → H) :
    ReturnsInHanded {} Ybgu.checked os 3 .any (Rows.lawS4198BCarriedSpec.pre6 enc Ybgu.prog Ybgu.f3 Rows.lawS4198BCarriedRow.domain false) (Rows.lawS4198BCarriedSpec.post enc Ybgu.prog Ybgu.f3 false true false false) := by
  refine returnsInHanded_of_change (C := Ybgu.checked) own started (by kernel_rfl) Ybgu.func3
    (ChangeSpec.witness6 (enc := enc) (C := Ybgu.checked) false ⟨#[], #[.slice none 0 0, .int .u16 0, .bool false, .slice none 0 0, .bool false], []⟩ 8 (by kernel_rfl) (by kernel_rfl) (by kernel_rfl) (by kernel_rfl)) ?_
  intro W base args ds gs before hval0 hW hcnd _
  have hval : ∀ (j : Nat) t v, Ybgu.f3.params[j]? = some t → args[j]? = some v → Value.okWide Ybgu.prog W .any base t v := hval0
  have hW' := hW
  obtain ⟨p, q, hA0, hV, rfl, hfz, hnd⟩ := hW
  have hA : DataW.TrodAll enc Ybgu.prog W 0 (fun _ => true) true Ybgu.f3.params.toList args.toList ds p := hA0
  rw [Ybgu.params3] at hA hval
  obtain ⟨v0, vs0, d0, ds0, p0, q0, hargs, rfl, rfl, h0, r0⟩ := trodAll_cons hA
  obtain ⟨v1, vs1, d1, ds1, p1, q1, rfl, rfl, rfl, h1, r1⟩ := trodAll_cons r0
  obtain ⟨v2, vs2, d2, ds2, p2, q2, rfl, rfl, rfl, h2, r2⟩ := trodAll_cons r1
  obtain ⟨v3, vs3, d3, ds3, p3, q3, rfl, rfl, rfl, h3, r3⟩ := trodAll_cons r2
  obtain ⟨v4, vs4, d4, ds4, p4, q4, rfl, rfl, rfl, h4, r4⟩ := trodAll_cons r3
  obtain ⟨rfl, rfl, rfl⟩ := trodAll_nil r4
  obtain rfl : args = #[v0, v1, v2, v3, v4] := by cases args; simp_all
  obtain ⟨rfl, rfl⟩ := trodVars_none hV
  obtain ⟨a0, len0, cap0, rfl⟩ := okWide_slice Ybgu.underlying22 (hval 0 22 v0 rfl rfl)
  have k0 := h0
  have lt0 : ∀ x ∈ p0, x.block < W.heap.size := by obtain ⟨m, hm⟩ := k0; exact DataW.trod_lt m _ _ _ hm
  obtain ⟨ns, w0⟩ : ∃ ns, IsBytes W a0 len0 cap0 ns := by
    obtain ⟨fuel, hf⟩ := h0
    obtain ⟨a, l, c, ns, e, h⟩ := isBytes_of hf
    simp only [Value.slice.injEq] at e
    obtain ⟨rfl, rfl, rfl⟩ := e
    exact ⟨ns, h⟩
  obtain ⟨a1, rfl, rfl, rfl, w1⟩ := open_int Ybgu.underlying23 (hval 1 23 v1 rfl rfl) h1
  obtain ⟨a2, rfl, rfl, rfl⟩ := open_bool Ybgu.underlying4 (hval 2 4 v2 rfl rfl) h2
  obtain ⟨a3, len3, cap3, rfl⟩ := okWide_slice Ybgu.underlying24 (hval 3 24 v3 rfl rfl)
  have k3 := h3
  have lt3 : ∀ x ∈ p3, x.block < W.heap.size := by obtain ⟨m, hm⟩ := k3; exact DataW.trod_lt m _ _ _ hm
  have w3 : IsPuts W a3 len3 cap3 := by
    obtain ⟨fuel, hf⟩ := h3
    rcases open_slice_pairs Ybgu.underlying24 Ybgu.underlying27 (by kernel_rfl) rfl rfl (by kernel_rfl) (by kernel_rfl) hf with ⟨hcs, _⟩ | ⟨x, l, c, m, n, V0, V1, D0, D1, P0, P1, hcs, _, hl, hm, hmm, _, hrows⟩
    · simp [Value.cells] at hcs
      obtain ⟨rfl, rfl, rfl⟩ := hcs
      exact .inl ⟨rfl, rfl, rfl⟩
    · simp [Value.cells] at hcs
      obtain ⟨rfl, rfl, rfl⟩ := hcs
      simp at hmm
      subst hmm
      have each : ∀ r, r < m → ∃ q : Option Addr × Nat × Nat × Int × List Int, W.cell? (x.add (r * 2)) = some (.slice q.1 q.2.1 q.2.2.1) ∧ W.cell? (x.add (r * 2 + 1)) = some (.int .i16 q.2.2.2.1) ∧
          (Lit.int .i16 q.2.2.2.1).wf = true ∧ IsBytes W q.1 q.2.1 q.2.2.1 q.2.2.2.2 := by
        intro r hr
        obtain ⟨c0, c1, t0, t1⟩ := hrows r hr
        obtain ⟨a, l', c', ns', e, hb⟩ := isBytes_of t0
        obtain ⟨d, e1, _, hd⟩ := DataW.trod_int Ybgu.underlying25 t1
        simp at e1
        exact ⟨(a, l', c', d, ns'), e ▸ c0, e1 ▸ c1, hd, hb⟩
      obtain ⟨q, hq⟩ := choose_lt each
      exact .inr ⟨x, q, rfl, hl, hq⟩
  obtain ⟨a4, rfl, rfl, rfl⟩ := open_bool Ybgu.underlying4 (hval 4 4 v4 rfl rfl) h4
  clear hA0 hval0
  refine (walk a0 len0 cap0 ns a1 a2 a3 len3 cap3 a4 W w0 w1 w3).mono fun e W' ⟨he, bel⟩ => ?_
  subst he
  exact ⟨_, rfl, _, _, _, [], _, [], hW', trodAll_mk1 (shut_bool Ybgu.underlying4 _), (trodAll_cons_mk (Below.trod laidOut (by kernel_rfl) (of_decide_eq_true (by kernel_rfl)) k0 bel lt0) (trodAll_cons_mk (shut_int Ybgu.underlying23 w1) (trodAll_cons_mk (shut_bool Ybgu.underlying4 _) (trodAll_cons_mk (Below.trod laidOut (by kernel_rfl) (of_decide_eq_true (by kernel_rfl)) k3 bel lt3) (trodAll_cons_mk (shut_bool Ybgu.underlying4 _) trodAll_mk0))))), rfl, bel.frame _, fun h => by cases h⟩

theorem over : Rows.lawS4198BCarriedRow.holds Ybgu.pinned (OpenSpec.ofChange Rows.lawS4198BCarriedSpec) :=
  OpenClaim.holds_of_wide 3 Ybgu.f3 rfl rfl rfl rfl rfl rfl rfl ⟨rfl, rfl, rfl, rfl, rfl⟩ rfl rfl rfl rfl rfl (by kernel_rfl) Ybgu.func3 (by kernel_rfl)
    (of_decide_eq_true (by kernel_rfl)) (by unfold Func.isWrapper; first | (rw [if_pos (by decide +kernel)]; kernel_rfl) | (rw [if_neg (by decide +kernel)]; exact ⟨rfl, rfl⟩))
    (fun os started H enc _ => lifted os started H enc)

/-- ████ THE STATEMENT ████ -/
theorem proved : Rows.LawS4198BCarriedSaid := over
#print axioms proved
end Go.Proofs.Yboneinjo.lawS4198BCarried
