/-
  THE PROOF OF 'Rows.LawS4198CMemberSaid': the frame after the guide's skeleton for slices ('Below'), the argument [][]int opened at every row ('open_int_rows').
-/
import Derived.Test.YboneinjrRows
import Derived.Test.YboneinjrWalk
import Derived.WalkKit
import Derived.ProofKit
import Derived.OpenShut
import Derived.ChangeOld
import Derived.Below
import Derived.Deep.Matrix
namespace Go.Proofs.Yboneinjr.lawS4198CMember
open Go.ChangeShapes Go.WideShapes Go.ChangeAt Go.RowKit Go.Deep

theorem own : ownKnob Ybgx.prog.godebug = none := by kernel_rfl
theorem laidOut : laidOutB Ybgx.prog = true := by kernel_rfl

/-- What the walk is told of the groups that came in. -/
def IsGrid (w : World) (a : Option Addr) (len cap : Nat) : Prop :=
  (a = none ∧ len = 0 ∧ cap = 0) ∨
  ∃ (x : Addr) (A : Nat → Option Addr) (L C : Nat → Nat) (Z : Nat → List Int), a = some x ∧ len ≤ cap ∧ ∀ r, r < cap → w.cell? (x.add r) = some (.slice (A r) (L r) (C r)) ∧ L r ≤ C r ∧ C r ≤ maxLen ∧ (Z r).length = C r ∧ (A r = none → C r = 0) ∧
    ∀ a', A r = some a' → ∀ c, c < C r → w.cell? (a'.add c) = some (.int .i64 ((Z r).getD c 0))

theorem walk (a0 : Option Addr) (len0 cap0 : Nat) (a1 a2 : Int) (w : World) (w0 : IsGrid w a0 len0 cap0) (w2 : (Lit.int .u64 a2).wf = true) :
    Calls Ybgx.prog 3 #[.slice a0 len0 cap0, .int .i64 a1, .int .u64 a2] w fun e w' => e = .returned (.bool true) ∧ Below w.heap.size w w' := by
  rcases w0 with ⟨rfl, rfl, rfl⟩ | ⟨x, A, L, C, Z, rfl, hl, hr⟩
  · exact law_none _ _ _ _ _
  by_cases h0 : len0 = 0
  · subst h0; exact law_none _ _ _ _ _
  by_cases h1 : 1024 < len0
  · exact law_many _ _ _ _ _ _ h1
  obtain ⟨b2, _⟩ := bounds_u64 w2
  obtain ⟨bg, og, sp⟩ := x
  have hsp : sp = none := by simpa [Addr.add] using World.cell?_spot (hr 0 (by omega)).1
  subst hsp
  obtain ⟨i, hil, hi⟩ := idx_nat (IntKind.u64.wrap a1) len0 (u64_lo a1) (by omega) (by omega)
  obtain ⟨hc, hLC, hC, hz, hA, hcell⟩ := hr i (by omega)
  rw [add_plain] at hc
  by_cases hL0 : L i = 0
  · rw [hL0] at hc
    exact law_void bg og len0 cap0 a1 a2 w (by omega) (by omega) i (A i) (C i) hi hil hc
  have hLm : L i ≤ 9223372036854775807 := Nat.le_trans hLC hC
  obtain ⟨j, hjl, hj⟩ := idx_nat a2 (L i) b2 (by omega) hLm
  rw [Int.tmod_eq_emod_of_nonneg b2] at hj
  cases hAi : A i with
  | none => have := hA hAi; omega
  | some y =>
    rw [hAi] at hc
    obtain ⟨ba, oa, sp⟩ := y
    have hsp : sp = none := by simpa [Addr.add] using World.cell?_spot (hcell _ hAi 0 (by omega))
    subst hsp
    exact law_some bg og len0 cap0 a1 a2 w (by omega) (by omega) i ba oa (L i) (C i) j (Z i) hi hil hj hjl hc hLC hC hz (fun c hcc => by rw [← add_plain]; exact hcell _ hAi c hcc) b2

/-! ### THE ROW's STEP -/
set_option maxRecDepth 100000 in
theorem lifted (os : Os) (started : os.Started) (H : Type) (enc : TypeId × Value → H) :
    ReturnsInHanded {} Ybgx.checked os 3 .any (Rows.lawS4198CMemberSpec.pre6 enc Ybgx.prog Ybgx.f3 Rows.lawS4198CMemberRow.domain false) (Rows.lawS4198CMemberSpec.post enc Ybgx.prog Ybgx.f3 false true false false) := by
  refine returnsInHanded_of_change (C := Ybgx.checked) own started (by kernel_rfl) Ybgx.func3
    (ChangeSpec.witness6 (enc := enc) (C := Ybgx.checked) false ⟨#[], #[.slice none 0 0, .int .i64 0, .int .u64 0], []⟩ 8 (by kernel_rfl) (by kernel_rfl) (by kernel_rfl) (by kernel_rfl)) ?_
  intro W base args ds gs before hval0 hW hcnd _
  have hval : ∀ (j : Nat) t v, Ybgx.f3.params[j]? = some t → args[j]? = some v → Value.okWide Ybgx.prog W .any base t v := hval0
  have hW' := hW
  obtain ⟨p, q, hA0, hV, rfl, hfz, hnd⟩ := hW
  have hA : DataW.TrodAll enc Ybgx.prog W 0 (fun _ => true) true Ybgx.f3.params.toList args.toList ds p := hA0
  rw [Ybgx.params3] at hA hval
  obtain ⟨v0, vs0, d0, ds0, p0, q0, hargs, rfl, rfl, h0, r0⟩ := trodAll_cons hA
  obtain ⟨v1, vs1, d1, ds1, p1, q1, rfl, rfl, rfl, h1, r1⟩ := trodAll_cons r0
  obtain ⟨v2, vs2, d2, ds2, p2, q2, rfl, rfl, rfl, h2, r2⟩ := trodAll_cons r1
  obtain ⟨rfl, rfl, rfl⟩ := trodAll_nil r2
  obtain rfl : args = #[v0, v1, v2] := by cases args; simp_all
  obtain ⟨rfl, rfl⟩ := trodVars_none hV
  obtain ⟨a0, len0, cap0, rfl⟩ := okWide_slice Ybgx.underlying22 (hval 0 22 v0 rfl rfl)
  have k0 := h0
  have lt0 : ∀ x ∈ p0, x.block < W.heap.size := by obtain ⟨m, hm⟩ := k0; exact DataW.trod_lt m _ _ _ hm
  have w0 : IsGrid W a0 len0 cap0 := by
    obtain ⟨fuel, hf⟩ := h0
    rcases open_int_rows Ybgx.underlying22 Ybgx.underlying40 Ybgx.underlying3 (by kernel_rfl) (by kernel_rfl) hf with ⟨hcs, _⟩ | ⟨x, l, c, A, L, C, Z, hcs, _, hl, hm, _, hrows⟩
    · simp [Value.cells] at hcs
      obtain ⟨rfl, rfl, rfl⟩ := hcs
      exact .inl ⟨rfl, rfl, rfl⟩
    · simp [Value.cells] at hcs
      obtain ⟨rfl, rfl, rfl⟩ := hcs
      exact .inr ⟨x, A, L, C, Z, rfl, hl, fun r hr => by
        obtain ⟨q1, q2, q3, q4, _, q6, q7⟩ := hrows r hr
        exact ⟨q1, q2, q3, q4, q6, fun a' ha' => (q7 a' ha').2⟩⟩
  obtain ⟨a1, rfl, rfl, rfl, w1⟩ := open_int Ybgx.underlying3 (hval 1 3 v1 rfl rfl) h1
  obtain ⟨a2, rfl, rfl, rfl, w2⟩ := open_int Ybgx.underlying23 (hval 2 23 v2 rfl rfl) h2
  clear hA0 hval0
  refine (walk a0 len0 cap0 a1 a2 W w0 w2).mono fun e W' ⟨he, bel⟩ => ?_
  subst he
  exact ⟨_, rfl, _, _, _, [], _, [], hW', trodAll_mk1 (shut_bool Ybgx.underlying4 _), (trodAll_cons_mk (Below.trod laidOut (by kernel_rfl) (of_decide_eq_true (by kernel_rfl)) k0 bel lt0) (trodAll_cons_mk (shut_int Ybgx.underlying3 w1) (trodAll_cons_mk (shut_int Ybgx.underlying23 w2) trodAll_mk0))), rfl, bel.frame _, fun h => by cases h⟩

theorem over : Rows.lawS4198CMemberRow.holds Ybgx.pinned (OpenSpec.ofChange Rows.lawS4198CMemberSpec) :=
  OpenClaim.holds_of_wide 3 Ybgx.f3 rfl rfl rfl rfl rfl rfl rfl ⟨rfl, rfl, rfl, rfl, rfl⟩ rfl rfl rfl rfl rfl (by kernel_rfl) Ybgx.func3 (by kernel_rfl)
    (of_decide_eq_true (by kernel_rfl)) (by unfold Func.isWrapper; first | (rw [if_pos (by decide +kernel)]; kernel_rfl) | (rw [if_neg (by decide +kernel)]; exact ⟨rfl, rfl⟩))
    (fun os started H enc _ => lifted os started H enc)

/-- THE STATEMENT -/
theorem proved : Rows.LawS4198CMemberSaid := over
#print axioms proved
end Go.Proofs.Yboneinjr.lawS4198CMember
