import Derived.Test.YbulkchwkRows
import Derived.WalkKit
import Derived.WalkSpells
import Derived.ProofKit
import Derived.RowKit3
import Derived.BigRegion
import Derived.Deep.QuietTactic
import Derived.BigQuiet
namespace Go.Proofs.Ybulkchwk
open Go.RowKit

set_option maxHeartbeats 400000 in
theorem ms_any (u : Int) (h0 : 1 ≤ u) (h1 : u ≤ 1000) (w : World) :
    Calls Yba.prog 8 #[.int .i64 (u * 1000000)] w fun e w' => e = .returned (.int .i64 u) ∧ w' = w := by
  go_enter Yba.func8, Yba.ntmps8
  go_wp2
  go_ret
  exact ⟨rfl, rfl⟩

set_option maxHeartbeats 400000 in
theorem field_any (a0 a1 a2 a3 a4 a5 : Int) (h0 : 0 ≤ a0) (h1 : a0 ≤ 62) (w : World) :
    Calls Yba.prog 9 #[.agg #[.int .i64 a0, .int .i64 a1, .int .i64 a2, .int .i64 a3, .int .i64 a4, .int .i64 a5]] w fun e w' =>
      (∃ s, e = .returned (.agg #[.int .u64 s, .int .i64 (wrap64 (wrap64 (2 ^ a0.toNat) - 1))])) ∧ ∃ c1 c2 : Array Value, w' = ((w.alloc (.cells c1 27)).alloc (.cells c2 39)).drew := by
  go_enter Yba.func9, Yba.ntmps9
  go_wp2
  go_region
  go_wp2
  exact bodyPost_ret (v := .agg #[.int .u64 (IntKind.u64.wrap (wrap64 (wrap64 (a3 + a2) + a1))), .int .i64 (wrap64 (wrap64 (2 ^ a0.toNat) - 1))]) (by simp [results, Yba.results9, go_sem]) rfl ⟨⟨_, rfl⟩, _, _, rfl⟩

set_option maxHeartbeats 400000 in
theorem layout_pos (a0 a1 a2 a3 a4 a5 : Int) (w0 : 0 ≤ a0) (w0' : a0 ≤ 255) (w4 : 0 ≤ a4) (w4' : a4 ≤ 65535) (h : 0 ≤ a5) (h' : a5 ≤ 9223372036854775807) (w : World) :
    Calls Yba.prog 5 #[.int .u8 a0, .int .i64 a1, .int .i64 a2, .int .i64 a3, .int .u16 a4, .int .i64 a5] w fun e w' =>
      e = .returned (.tuple #[.agg #[.int .i64 (a0 % 63), .int .i64 a1, .int .i64 a2, .int .i64 a3, .int .i64 ((a4 % 1000 + 1) * 1000000), .int .i64 a5], .int .i64 (a4 % 1000 + 1), .int .i64 a5, .int .i64 (a0 % 63)]) ∧ ∃ c1 c2 : Array Value, w' = (w.alloc (.cells c1 27)).alloc (.cells c2 27) := by
  go_enter Yba.func5, Yba.ntmps5
  go_wp2
  exact bodyPost_ret (v := .tuple #[.agg #[.int .i64 (a0 % 63), .int .i64 a1, .int .i64 a2, .int .i64 a3, .int .i64 ((a4 % 1000 + 1) * 1000000), .int .i64 a5], .int .i64 (a4 % 1000 + 1), .int .i64 a5, .int .i64 (a0 % 63)]) (by simp [results, Yba.results5, go_sem]) rfl ⟨rfl, _, _, rfl⟩

set_option maxHeartbeats 400000 in
theorem layout_neg (a0 a1 a2 a3 a4 a5 : Int) (w0 : 0 ≤ a0) (w0' : a0 ≤ 255) (w4 : 0 ≤ a4) (w4' : a4 ≤ 65535) (h : a5 < 0) (h' : -9223372036854775808 ≤ a5) (w : World) :
    Calls Yba.prog 5 #[.int .u8 a0, .int .i64 a1, .int .i64 a2, .int .i64 a3, .int .u16 a4, .int .i64 a5] w fun e w' =>
      e = .returned (.tuple #[.agg #[.int .i64 (a0 % 63), .int .i64 a1, .int .i64 a2, .int .i64 a3, .int .i64 ((a4 % 1000 + 1) * 1000000), .int .i64 (-(a5 + 1))], .int .i64 (a4 % 1000 + 1), .int .i64 (-(a5 + 1)), .int .i64 (a0 % 63)]) ∧ ∃ c1 c2 : Array Value, w' = (w.alloc (.cells c1 27)).alloc (.cells c2 27) := by
  go_enter Yba.func5, Yba.ntmps5
  go_wp2
  exact bodyPost_ret (v := .tuple #[.agg #[.int .i64 (a0 % 63), .int .i64 a1, .int .i64 a2, .int .i64 a3, .int .i64 ((a4 % 1000 + 1) * 1000000), .int .i64 (-(a5 + 1))], .int .i64 (a4 % 1000 + 1), .int .i64 (-(a5 + 1)), .int .i64 (a0 % 63)]) (by simp [results, Yba.results5, go_sem]) rfl ⟨rfl, _, _, rfl⟩

/-- The layout, at both signs of the epoch, with its four numbers as letters. -/
theorem layout_any (a0 a1 a2 a3 a4 a5 : Int) (w0 : 0 ≤ a0) (w0' : a0 ≤ 255) (w4 : 0 ≤ a4) (w4' : a4 ≤ 65535) (h : -9223372036854775808 ≤ a5) (h' : a5 ≤ 9223372036854775807) :
    ∃ t u e : Int, 0 ≤ t ∧ t ≤ 62 ∧ 1 ≤ u ∧ u ≤ 1000 ∧ 0 ≤ e ∧ e ≤ 9223372036854775807 ∧ ∀ w : World,
    Calls Yba.prog 5 #[.int .u8 a0, .int .i64 a1, .int .i64 a2, .int .i64 a3, .int .u16 a4, .int .i64 a5] w fun x w' =>
      x = .returned (.tuple #[.agg #[.int .i64 t, .int .i64 a1, .int .i64 a2, .int .i64 a3, .int .i64 (u * 1000000), .int .i64 e], .int .i64 u, .int .i64 e, .int .i64 t]) ∧ ∃ c1 c2 : Array Value, w' = (w.alloc (.cells c1 27)).alloc (.cells c2 27) := by
  by_cases hs : 0 ≤ a5
  · exact ⟨a0 % 63, a4 % 1000 + 1, a5, by omega, by omega, by omega, by omega, by omega, by omega, fun w => layout_pos a0 a1 a2 a3 a4 a5 w0 w0' w4 w4' hs h' w⟩
  · exact ⟨a0 % 63, a4 % 1000 + 1, -(a5 + 1), by omega, by omega, by omega, by omega, by omega, by omega, fun w => layout_neg a0 a1 a2 a3 a4 a5 w0 w0' w4 w4' (by omega) h w⟩

theorem field_max (s M : Int) (w : World) : (Instr.field 39 (.agg #[.int .u64 s, .int .i64 M]) 1).run Yba.prog w = .ok (.int .i64 M) w := by kernel_rfl

set_option maxHeartbeats 400000 in
theorem step_before (t a1 a2 a3 u e m : Int) (h : m < e) (w : World) :
    Calls Yba.prog 6 #[.agg #[.int .i64 t, .int .i64 a1, .int .i64 a2, .int .i64 a3, .int .i64 (u * 1000000), .int .i64 e], .int .i64 m] w fun x w' =>
      x = .returned (.tuple #[.int .i64 0, .bool false]) ∧ ∃ c1 : Array Value, w' = w.alloc (.cells c1 27) := by
  go_enter Yba.func6, Yba.ntmps6
  go_wp2
  go_ret2
  exact ⟨rfl, _, rfl⟩

set_option maxHeartbeats 400000 in
theorem step_after (t a1 a2 a3 u e m : Int) (h : e ≤ m) (h0 : 0 ≤ e) (h1 : m ≤ 9223372036854775807) (u0 : 1 ≤ u) (u1 : u ≤ 1000) (t0 : 0 ≤ t) (t1 : t ≤ 62) (w : World) :
    Calls Yba.prog 6 #[.agg #[.int .i64 t, .int .i64 a1, .int .i64 a2, .int .i64 a3, .int .i64 (u * 1000000), .int .i64 e], .int .i64 m] w fun x w' =>
      x = .returned (.tuple #[.int .i64 ((m - e) / u), .bool (decide ((m - e) / u ≤ wrap64 (wrap64 (2 ^ t.toNat) - 1)))]) ∧ ∃ (c0 c1 c2 : Array Value) (nq : Nat), w' = ((((w.alloc (.cells c0 27)).drewN nq).alloc (.cells c1 27)).alloc (.cells c2 39)).drew := by
  have hf : ∀ (s M : Int) (w : World), (Instr.field 39 (.agg #[.int .u64 s, .int .i64 M]) 1).run Yba.prog w = .ok (.int .i64 M) w := field_max
  go_enter Yba.func6, Yba.ntmps6
  go_wp2_with fail
  go_quiet ((go_at_call 8; exact Calls.quiet_of_same (ms_any u u0 u1 _)))
  go_wp2_with (go_at_call 9; refine (field_any t a1 a2 a3 (u * 1000000) e t0 t1 _).mono ?_; rintro x w' ⟨⟨s, rfl⟩, c1, c2, rfl⟩)
  go_ret2
  exact ⟨rfl, _, _, _, _, rfl⟩

theorem back_le (a u : Int) (h : 0 ≤ a) (u0 : 1 ≤ u) : 0 ≤ a / u ∧ 0 ≤ a / u * u ∧ a / u * u ≤ a ∧ a - a / u * u < u :=
  ⟨Int.ediv_nonneg h (by omega), Int.mul_nonneg (Int.ediv_nonneg h (by omega)) (by omega), Int.ediv_mul_le a (by omega), by
    have := Int.lt_ediv_add_one_mul_self a (show 0 < u by omega)
    rw [Int.add_mul] at this; omega⟩

set_option maxHeartbeats 400000 in
theorem start_any (t a1 a2 a3 u e q m : Int) (h : e ≤ m) (h0 : 0 ≤ e) (h1 : m ≤ 9223372036854775807) (u0 : 1 ≤ u) (u1 : u ≤ 1000) (q0 : 0 ≤ q * u) (q1 : q * u ≤ m - e) (w : World) :
    Calls Yba.prog 7 #[.agg #[.int .i64 t, .int .i64 a1, .int .i64 a2, .int .i64 a3, .int .i64 (u * 1000000), .int .i64 e], .int .i64 q] w fun x w' =>
      x = .returned (.int .i64 (e + q * u)) ∧ Grown w w' := by
  go_enter Yba.func7, Yba.ntmps7
  go_wp2_with fail
  go_quiet ((go_at_call 8; exact Calls.quiet_of_same (ms_any u u0 u1 _)))
  go_wp2
  go_ret
  exact ⟨rfl, by repeat (first | exact Grown.refl _ | apply Grown.drew | apply Grown.alloc)⟩
theorem wrap_quot (a u : Int) (h : 0 ≤ a) (h1 : a ≤ 9223372036854775807) (u0 : 1 ≤ u) : wrap64 (a / u) = a / u := by
  have h2 : 0 ≤ a / u := Int.ediv_nonneg h (by omega)
  have h3 : a / u ≤ a := Int.ediv_le_self u h
  unfold wrap64; omega

theorem grown_trans {a b c : World} (h1 : Grown a b) (h2 : Grown b c) : Grown a c :=
  ⟨World.keptBut_trans h1.1 h2.1, fun x => (h2.2.1 x).trans (h1.2.1 x), Nat.le_trans h1.2.2 h2.2.2⟩

end Go.Proofs.Ybulkchwk
