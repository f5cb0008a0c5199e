/-
  THE PROOF OF 'Rows.LawS4198CModelSaid': the frame after the guide's skeleton for slices ('Below'), the argument [][]int opened at every row ('open_int_rows').
-/
import Derived.Test.YboneinjqRows
import Derived.Test.YboneinjqWalk
import Derived.WalkKit
import Derived.ProofKit
import Derived.OpenShut
import Derived.ChangeOld
import Derived.Below
import Derived.Deep.Matrix
import Derived.ShutString
namespace Go.Proofs.Yboneinjq.lawS4198CModel
open Go.ChangeShapes Go.WideShapes Go.ChangeAt Go.RowKit Go.Deep
open Go.ChangeMaps (open_string shut_string)

theorem own : ownKnob Ybgw.prog.godebug = none := by kernel_rfl
theorem laidOut : laidOutB Ybgw.prog = true := by kernel_rfl

/-- What the walk is told of the groups that came in. -/
def IsGrid (w : World) (a : Option Addr) (len cap : Nat) : Prop :=
  (a = none ∧ len = 0 ∧ cap = 0) ∨
  ∃ (x : Addr) (A : Nat → Option Addr) (L C : Nat → Nat) (Z : Nat → List Int), a = some x ∧ len ≤ cap ∧ ∀ r, r < cap → w.cell? (x.add r) = some (.slice (A r) (L r) (C r)) ∧ L r ≤ C r ∧ C r ≤ maxLen ∧ (Z r).length = C r ∧ (A r = none → C r = 0) ∧
    ∀ a', A r = some a' → ∀ c, c < C r → w.cell? (a'.add c) = some (.int .i64 ((Z r).getD c 0))

theorem walk (a0 : Option Addr) (len0 cap0 : Nat) (a1 a2 a3 : Int) (a4 : ByteArray) (w : World) (w0 : IsGrid w a0 len0 cap0) (w1 : (Lit.int .u8 a1).wf = true) :
    Calls Ybgw.prog 3 #[.slice a0 len0 cap0, .int .u8 a1, .int .i64 a2, .int .i64 a3, .string a4] w fun e w' => e = .returned (.bool true) ∧ Below w.heap.size w w' := by
  obtain ⟨b1, _⟩ := bounds_u8 w1
  have h3 : a1 % 3 = 0 ∨ a1 % 3 = 1 ∨ a1 % 3 = 2 := by omega
  have none_ok : ∀ (g : Option Addr) (cap : Nat), Calls Ybgw.prog 3 #[.slice g 0 cap, .int .u8 a1, .int .i64 a2, .int .i64 a3, .string a4] w fun e w' => e = .returned (.bool true) ∧ Below w.heap.size w w' := fun g cap =>
    law_plain g 0 cap a1 a2 a3 _ a4 w (by omega) b1 rfl (by omega) (fun _ => none) (fun _ => 0) (fun _ => 0) (fun r hr => by omega)
  rcases w0 with ⟨rfl, rfl, rfl⟩ | ⟨x, A, L, C, Z, rfl, hl, hr⟩
  · exact none_ok _ _
  by_cases h0 : len0 = 0
  · subst h0; exact none_ok _ _
  by_cases h1 : 1024 < len0
  · exact law_many _ _ _ _ _ _ _ _ h1
  obtain ⟨bg, og, sp⟩ := x
  have hsp : sp = none := by simpa [Addr.add] using World.cell?_spot (hr 0 (by omega)).1
  subst hsp
  have hrow : ∀ r, r < len0 → w.cell? ⟨bg, og + r, none⟩ = some (.slice (A r) (L r) (C r)) := fun r h => by rw [← add_plain]; exact (hr r (by omega)).1
  by_cases h2 : a1 % 3 = 2
  · obtain ⟨i, hil, hi⟩ := idx_lo a2 len0 (by omega) (by omega)
    obtain ⟨_, hLC, hC, hz, hA, hcell⟩ := hr i (by omega)
    exact law_multi bg og len0 cap0 i a1 a2 a3 a4 (has (Z i) (L i) a3) w (by omega) (by omega) b1 h2 A L C hrow hi hil
      (fun w' hw => contains_row w (A i) (L i) (C i) (Z i) a3 hLC hC hz hA hcell w' hw) (fun w' hw => member_row w (A i) (L i) (C i) (Z i) a3 hLC hC hz hA hcell w' hw)
  · exact law_plain _ len0 cap0 a1 a2 a3 _ a4 w (by omega) b1 rfl (by omega) A L C (fun r h => ⟨bg, og, rfl, hrow r h⟩)

/-! ### THE ROW's STEP -/
set_option maxRecDepth 100000 in
theorem lifted (os : Os) (started : os.Started) (H : Type) (enc : TypeId × Value → H) :
    ReturnsInHanded {} Ybgw.checked os 3 .any (Rows.lawS4198CModelSpec.pre6 enc Ybgw.prog Ybgw.f3 Rows.lawS4198CModelRow.domain false) (Rows.lawS4198CModelSpec.post enc Ybgw.prog Ybgw.f3 false true false false) := by
  refine returnsInHanded_of_change (C := Ybgw.checked) own started (by kernel_rfl) Ybgw.func3
    (ChangeSpec.witness6 (enc := enc) (C := Ybgw.checked) false ⟨#[], #[.slice none 0 0, .int .u8 0, .int .i64 0, .int .i64 0, .string ByteArray.empty], []⟩ 8 (by kernel_rfl) (by kernel_rfl) (by kernel_rfl) (by kernel_rfl)) ?_
  intro W base args ds gs before hval0 hW hcnd _
  have hval : ∀ (j : Nat) t v, Ybgw.f3.params[j]? = some t → args[j]? = some v → Value.okWide Ybgw.prog W .any base t v := hval0
  have hW' := hW
  obtain ⟨p, q, hA0, hV, rfl, hfz, hnd⟩ := hW
  have hA : DataW.TrodAll enc Ybgw.prog W 0 (fun _ => true) true Ybgw.f3.params.toList args.toList ds p := hA0
  rw [Ybgw.params3] at hA hval
  obtain ⟨v0, vs0, d0, ds0, p0, q0, hargs, rfl, rfl, h0, r0⟩ := trodAll_cons hA
  obtain ⟨v1, vs1, d1, ds1, p1, q1, rfl, rfl, rfl, h1, r1⟩ := trodAll_cons r0
  obtain ⟨v2, vs2, d2, ds2, p2, q2, rfl, rfl, rfl, h2, r2⟩ := trodAll_cons r1
  obtain ⟨v3, vs3, d3, ds3, p3, q3, rfl, rfl, rfl, h3, r3⟩ := trodAll_cons r2
  obtain ⟨v4, vs4, d4, ds4, p4, q4, rfl, rfl, rfl, h4, r4⟩ := trodAll_cons r3
  obtain ⟨rfl, rfl, rfl⟩ := trodAll_nil r4
  obtain rfl : args = #[v0, v1, v2, v3, v4] := by cases args; simp_all
  obtain ⟨rfl, rfl⟩ := trodVars_none hV
  obtain ⟨a0, len0, cap0, rfl⟩ := okWide_slice Ybgw.underlying22 (hval 0 22 v0 rfl rfl)
  have k0 := h0
  have lt0 : ∀ x ∈ p0, x.block < W.heap.size := by obtain ⟨m, hm⟩ := k0; exact DataW.trod_lt m _ _ _ hm
  have w0 : IsGrid W a0 len0 cap0 := by
    obtain ⟨fuel, hf⟩ := h0
    rcases open_int_rows Ybgw.underlying22 Ybgw.underlying23 Ybgw.underlying3 (by kernel_rfl) (by kernel_rfl) hf with ⟨hcs, _⟩ | ⟨x, l, c, A, L, C, Z, hcs, _, hl, hm, _, hrows⟩
    · simp [Value.cells] at hcs
      obtain ⟨rfl, rfl, rfl⟩ := hcs
      exact .inl ⟨rfl, rfl, rfl⟩
    · simp [Value.cells] at hcs
      obtain ⟨rfl, rfl, rfl⟩ := hcs
      exact .inr ⟨x, A, L, C, Z, rfl, hl, fun r hr => by
        obtain ⟨q1, q2, q3, q4, _, q6, q7⟩ := hrows r hr
        exact ⟨q1, q2, q3, q4, q6, fun a' ha' => (q7 a' ha').2⟩⟩
  obtain ⟨a1, rfl, rfl, rfl, w1⟩ := open_int Ybgw.underlying5 (hval 1 5 v1 rfl rfl) h1
  obtain ⟨a2, rfl, rfl, rfl, w2⟩ := open_int Ybgw.underlying3 (hval 2 3 v2 rfl rfl) h2
  obtain ⟨a3, rfl, rfl, rfl, w3⟩ := open_int Ybgw.underlying3 (hval 3 3 v3 rfl rfl) h3
  obtain ⟨a4, rfl, rfl, rfl, w4⟩ := open_string Ybgw.underlying9 (hval 4 9 v4 rfl rfl) h4
  clear hA0 hval0
  refine (walk a0 len0 cap0 a1 a2 a3 a4 W w0 w1).mono fun e W' ⟨he, bel⟩ => ?_
  subst he
  exact ⟨_, rfl, _, _, _, [], _, [], hW', trodAll_mk1 (shut_bool Ybgw.underlying4 _), (trodAll_cons_mk (Below.trod laidOut (by kernel_rfl) (of_decide_eq_true (by kernel_rfl)) k0 bel lt0) (trodAll_cons_mk (shut_int Ybgw.underlying5 w1) (trodAll_cons_mk (shut_int Ybgw.underlying3 w2) (trodAll_cons_mk (shut_int Ybgw.underlying3 w3) (trodAll_cons_mk (shut_string Ybgw.underlying9 w4) trodAll_mk0))))), rfl, bel.frame _, fun h => by cases h⟩

theorem over : Rows.lawS4198CModelRow.holds Ybgw.pinned (OpenSpec.ofChange Rows.lawS4198CModelSpec) :=
  OpenClaim.holds_of_wide 3 Ybgw.f3 rfl rfl rfl rfl rfl rfl rfl ⟨rfl, rfl, rfl, rfl, rfl⟩ rfl rfl rfl rfl rfl (by kernel_rfl) Ybgw.func3 (by kernel_rfl)
    (of_decide_eq_true (by kernel_rfl)) (by unfold Func.isWrapper; first | (rw [if_pos (by decide +kernel)]; kernel_rfl) | (rw [if_neg (by decide +kernel)]; exact ⟨rfl, rfl⟩))
    (fun os started H enc _ => lifted os started H enc)

/-- THE STATEMENT -/
theorem proved : Rows.LawS4198CModelSaid := over
#print axioms proved
end Go.Proofs.Yboneinjq.lawS4198CModel
