import Derived.Test.YboneinjoProg
import Derived.Test.YboneinjoBits
import Derived.WalkKit
import Derived.WalkSpells
import Derived.Handy
import Derived.Below
namespace Go.Proofs.Yboneinjo
open Go.RowKit

set_option maxHeartbeats 400000 in
theorem nsec_any (b : Nat) (wl : Int) (w : World) (hc : w.cell? ⟨b, 0, none⟩ = some (.int .u64 wl)) (h0 : 0 ≤ wl) (h1 : wl ≤ 999999999) :
    Calls Ybgu.prog 18 #[.pointer (some ⟨b, 0, none⟩)] w fun e w' => e = .returned (.int .i32 wl) ∧ w' = w := by
  have hm := and_mask30 wl h0 h1
  go_enter Ybgu.func18, Ybgu.ntmps18
  go_wp2
  go_ret
  exact ⟨rfl, rfl⟩

set_option maxHeartbeats 400000 in
theorem sec_any (b : Nat) (wl ex : Int) (w : World) (hc : w.cell? ⟨b, 0, none⟩ = some (.int .u64 wl)) (hc1 : w.cell? ⟨b, 1, none⟩ = some (.int .i64 ex)) (h0 : 0 ≤ wl) (h1 : wl ≤ 999999999) :
    Calls Ybgu.prog 17 #[.pointer (some ⟨b, 0, none⟩)] w fun e w' => e = .returned (.int .i64 ex) ∧ w' = w := by
  have ht := top_no wl h0 h1
  go_enter Ybgu.func17, Ybgu.ntmps17
  go_wp2
  go_ret
  exact ⟨rfl, rfl⟩

set_option maxHeartbeats 400000 in
/-- addSec at a time without a monotonic reading, its seconds 0: by 0 or by -1. -/
theorem addSec_any (b : Nat) (wl ds : Int) (w : World) (hc : w.cell? ⟨b, 0, none⟩ = some (.int .u64 wl)) (hc1 : w.cell? ⟨b, 1, none⟩ = some (.int .i64 0)) (hf : w.frozen? ⟨b, 1, none⟩ = false) (h0 : 0 ≤ wl) (h1 : wl ≤ 999999999)
    (hd : ds = 0 ∨ ds = -1) :
    Calls Ybgu.prog 19 #[.pointer (some ⟨b, 0, none⟩), .int .i64 ds] w fun e w' => e = .returned (.tuple #[]) ∧ w' = w.setCell ⟨b, 1, none⟩ (.int .i64 ds) := by
  have ht := top_no wl h0 h1
  rcases hd with rfl | rfl
  all_goals
    go_enter Ybgu.func19, Ybgu.ntmps19
    go_wp2
    go_end0
    exact ⟨rfl, rfl⟩

theorem tdiv_small (d : Int) (h0 : d < 0) (h1 : -32768 ≤ d) : d.tdiv 1000000000 = 0 := by
  have e : d = -(-d) := by omega
  rw [e, Int.neg_tdiv, Int.tdiv_eq_ediv_of_nonneg (by omega)]; omega
theorem tmod_small (d : Int) (h0 : d < 0) (h1 : -32768 ≤ d) : d.tmod 1000000000 = d := by
  rw [Int.tmod_def, tdiv_small d h0 h1]; omega

/-! ### The zero time, a small number of nanoseconds later or earlier -/
set_option maxHeartbeats 800000 in
theorem add_pos (d : Int) (h0 : 0 ≤ d) (h1 : d ≤ 32767) (w : World) :
    Calls Ybgu.prog 12 #[.agg #[.int .u64 0, .int .i64 0, .pointer none], .int .i64 d] w fun e w' => e = .returned (.agg #[.int .u64 d, .int .i64 0, .pointer none]) ∧ ∃ c1 c2 : Array Value, w' = (w.alloc (.cells c1 65)).alloc (.cells c2 65) := by
  have hz := or_none d (by omega) (by omega)
  have hn := andNot_none
  have ht := top_no d (by omega) (by omega)
  have q1 : d / 1000000000 = 0 := by omega
  have q2 : d % 1000000000 = d := by omega
  go_enter Ybgu.func12, Ybgu.ntmps12
  go_wp2_with fail
  refine (nsec_any _ 0 _ ?_ (by omega) (by omega)).mono ?_
  · simp [go_sem]
  rintro e w' ⟨rfl, rfl⟩
  go_wp2_with fail
  refine (addSec_any _ d 0 _ ?_ ?_ ?_ (by omega) (by omega) (by omega)).mono ?_
  · simp [go_sem]
  · simp [go_sem]
  · simp [go_sem]
  rintro e w' ⟨rfl, rfl⟩
  go_wp2
  exact bodyPost_ret (v := .agg #[.int .u64 d, .int .i64 0, .pointer none]) (by simp [results, Ybgu.results12, go_sem]) rfl ⟨rfl, _, _, rfl⟩

set_option maxHeartbeats 800000 in
theorem add_neg (d : Int) (h0 : d < 0) (h1 : -32768 ≤ d) (w : World) :
    Calls Ybgu.prog 12 #[.agg #[.int .u64 0, .int .i64 0, .pointer none], .int .i64 d] w fun e w' => e = .returned (.agg #[.int .u64 (d + 1000000000), .int .i64 (-1), .pointer none]) ∧ ∃ c1 c2 : Array Value, w' = (w.alloc (.cells c1 65)).alloc (.cells c2 65) := by
  have hz := or_none (d + 1000000000) (by omega) (by omega)
  have hn := andNot_none
  have ht := top_no (d + 1000000000) (by omega) (by omega)
  have q1 := tdiv_small d h0 h1
  have q2 := tmod_small d h0 h1
  go_enter Ybgu.func12, Ybgu.ntmps12
  go_wp2_with fail
  refine (nsec_any _ 0 _ ?_ (by omega) (by omega)).mono ?_
  · simp [go_sem]
  rintro e w' ⟨rfl, rfl⟩
  go_wp2_with fail
  refine (addSec_any _ (d + 1000000000) (-1) _ ?_ ?_ ?_ (by omega) (by omega) (by omega)).mono ?_
  · simp [go_sem]
  · simp [go_sem]
  · simp [go_sem]
  rintro e w' ⟨rfl, rfl⟩
  go_wp2
  exact bodyPost_ret (v := .agg #[.int .u64 (d + 1000000000), .int .i64 (-1), .pointer none]) (by simp [results, Ybgu.results12, go_sem]) rfl ⟨rfl, _, _, rfl⟩

/-- The wall word and the seconds of the time that is d nanoseconds from the zero time. -/
def dwall (d : Int) : Int := if d < 0 then d + 1000000000 else d
def dext (d : Int) : Int := if d < 0 then -1 else 0
/-- That time's value. -/
def dtime (d : Int) : Array Value := #[.int .u64 (dwall d), .int .i64 (dext d), .pointer none]
theorem dwall_bd (d : Int) (h0 : -32768 ≤ d) (h1 : d ≤ 32767) : 0 ≤ dwall d ∧ dwall d ≤ 999999999 := by unfold dwall; split <;> omega
theorem d_after (d1 d2 : Int) (h0 : -32768 ≤ d1) (h1 : d1 ≤ 32767) (k0 : -32768 ≤ d2) (k1 : d2 ≤ 32767) :
    (dext d2 < dext d1 ∧ d2 < d1) ∨ (dext d1 < dext d2 ∧ ¬ d2 < d1) ∨ (dext d1 = dext d2 ∧ (dwall d2 < dwall d1 ↔ d2 < d1)) := by
  unfold dext dwall; split <;> split <;> omega
theorem d_equal (d1 d2 : Int) (h0 : -32768 ≤ d1) (h1 : d1 ≤ 32767) (k0 : -32768 ≤ d2) (k1 : d2 ≤ 32767) :
    (dext d1 = dext d2 ∧ dwall d1 = dwall d2) ↔ d1 = d2 := by
  unfold dext dwall; split <;> split <;> omega

theorem add_any (d : Int) (h0 : -32768 ≤ d) (h1 : d ≤ 32767) (w : World) :
    Calls Ybgu.prog 12 #[.agg #[.int .u64 0, .int .i64 0, .pointer none], .int .i64 d] w fun e w' => e = .returned (.agg (dtime d)) ∧ ∃ c1 c2 : Array Value, w' = (w.alloc (.cells c1 65)).alloc (.cells c2 65) := by
  by_cases h : d < 0
  · have e : dtime d = #[.int .u64 (d + 1000000000), .int .i64 (-1), .pointer none] := by simp [dtime, dwall, dext, h]
    rw [e]; exact add_neg d h h0 w
  · have e : dtime d = #[.int .u64 d, .int .i64 0, .pointer none] := by simp [dtime, dwall, dext, h]
    rw [e]; exact add_pos d (by omega) h1 w

set_option maxHeartbeats 400000 in
theorem due_any (d : Int) (h0 : -32768 ≤ d) (h1 : d ≤ 32767) (w : World) :
    Calls Ybgu.prog 5 #[.int .i64 d] w fun e w' => e = .returned (.agg #[.int .u64 (dwall d), .int .i64 (dext d), .pointer none]) ∧ ∃ c1 c2 c3 : Array Value, w' = ((w.alloc (.cells c1 65)).alloc (.cells c2 65)).alloc (.cells c3 65) := by
  go_enter Ybgu.func5, Ybgu.ntmps5
  go_wp2_with fail
  refine (add_any d h0 h1 _).mono ?_
  rintro e w' ⟨rfl, c1, c2, rfl⟩
  unfold dtime
  go_wp2
  exact bodyPost_ret (v := .agg #[.int .u64 (dwall d), .int .i64 (dext d), .pointer none]) (by simp [results, Ybgu.results5, go_sem]) rfl ⟨rfl, _, _, _, rfl⟩

set_option maxHeartbeats 800000 in
/-- After, at two times without a monotonic reading. -/
theorem after_gen (w1 e1 w2 e2 : Int) (r : Bool) (a0 : 0 ≤ w1) (a1 : w1 ≤ 999999999) (b0 : 0 ≤ w2) (b1 : w2 ≤ 999999999)
    (h : (e2 < e1 ∧ r = true) ∨ (e1 < e2 ∧ r = false) ∨ (e1 = e2 ∧ r = decide (w2 < w1))) (w : World) :
    Calls Ybgu.prog 14 #[.agg #[.int .u64 w1, .int .i64 e1, .pointer none], .agg #[.int .u64 w2, .int .i64 e2, .pointer none]] w fun e w' => e = .returned (.bool r) ∧ ∃ c1 c2 : Array Value, w' = (w.alloc (.cells c1 65)).alloc (.cells c2 65) := by
  obtain ⟨l0, l1⟩ := and_low w1 w2 a0 a1 b0 b1
  have ht := top_no _ l0 l1
  clear l0 l1
  rcases h with ⟨h, rfl⟩ | ⟨h, rfl⟩ | ⟨rfl, rfl⟩
  · go_enter Ybgu.func14, Ybgu.ntmps14
    go_wp2_with fail
    refine (sec_any _ w1 e1 _ ?_ ?_ a0 a1).mono ?_
    · simp [go_sem]
    · simp [go_sem]
    rintro e w' ⟨rfl, rfl⟩
    go_wp2_with fail
    refine (sec_any _ w2 e2 _ ?_ ?_ b0 b1).mono ?_
    · simp [go_sem]
    · simp [go_sem]
    rintro e w' ⟨rfl, rfl⟩
    go_wp2_with fail
    go_ret
    exact ⟨rfl, _, _, rfl⟩
  · have hne : (e1 == e2) = false := by simp; omega
    have hnl : decide (e2 < e1) = false := by simp; omega
    go_enter Ybgu.func14, Ybgu.ntmps14
    go_wp2_with fail
    refine (sec_any _ w1 e1 _ ?_ ?_ a0 a1).mono ?_
    · simp [go_sem]
    · simp [go_sem]
    rintro e w' ⟨rfl, rfl⟩
    go_wp2_with fail
    refine (sec_any _ w2 e2 _ ?_ ?_ b0 b1).mono ?_
    · simp [go_sem]
    · simp [go_sem]
    rintro e w' ⟨rfl, rfl⟩
    go_wp2_with fail
    go_ret
    exact ⟨rfl, _, _, rfl⟩
  · go_enter Ybgu.func14, Ybgu.ntmps14
    go_wp2_with fail
    refine (sec_any _ w1 e1 _ ?_ ?_ a0 a1).mono ?_
    · simp [go_sem]
    · simp [go_sem]
    rintro e w' ⟨rfl, rfl⟩
    go_wp2_with fail
    refine (sec_any _ w2 e1 _ ?_ ?_ b0 b1).mono ?_
    · simp [go_sem]
    · simp [go_sem]
    rintro e w' ⟨rfl, rfl⟩
    go_wp2_with fail
    refine (nsec_any _ w1 _ ?_ a0 a1).mono ?_
    · simp [go_sem]
    rintro e w' ⟨rfl, rfl⟩
    go_wp2_with fail
    refine (nsec_any _ w2 _ ?_ b0 b1).mono ?_
    · simp [go_sem]
    rintro e w' ⟨rfl, rfl⟩
    go_wp2_with fail
    go_ret
    exact ⟨rfl, _, _, rfl⟩

theorem after_any (d1 d2 : Int) (h0 : -32768 ≤ d1) (h1 : d1 ≤ 32767) (k0 : -32768 ≤ d2) (k1 : d2 ≤ 32767) (w : World) :
    Calls Ybgu.prog 14 #[.agg #[.int .u64 (dwall d1), .int .i64 (dext d1), .pointer none], .agg #[.int .u64 (dwall d2), .int .i64 (dext d2), .pointer none]] w fun e w' => e = .returned (.bool (decide (d2 < d1))) ∧ ∃ c1 c2 : Array Value, w' = (w.alloc (.cells c1 65)).alloc (.cells c2 65) := by
  obtain ⟨p0, p1⟩ := dwall_bd d1 h0 h1
  obtain ⟨q0, q1⟩ := dwall_bd d2 k0 k1
  refine after_gen _ _ _ _ _ p0 p1 q0 q1 ?_ w
  rcases d_after d1 d2 h0 h1 k0 k1 with ⟨a, b⟩ | ⟨a, b⟩ | ⟨a, b⟩
  · exact .inl ⟨a, by simp [b]⟩
  · exact .inr (.inl ⟨a, by simp [b]⟩)
  · exact .inr (.inr ⟨a, by simp [b]⟩)

set_option maxHeartbeats 800000 in
/-- Equal, at two times without a monotonic reading. -/
theorem equal_gen (w1 e1 w2 e2 : Int) (r : Bool) (a0 : 0 ≤ w1) (a1 : w1 ≤ 999999999) (b0 : 0 ≤ w2) (b1 : w2 ≤ 999999999)
    (h : ((e1 == e2) = false ∧ r = false) ∨ (e1 = e2 ∧ r = (w1 == w2))) (w : World) :
    Calls Ybgu.prog 10 #[.agg #[.int .u64 w1, .int .i64 e1, .pointer none], .agg #[.int .u64 w2, .int .i64 e2, .pointer none]] w fun e w' => e = .returned (.bool r) ∧ ∃ c1 c2 : Array Value, w' = (w.alloc (.cells c1 65)).alloc (.cells c2 65) := by
  obtain ⟨l0, l1⟩ := and_low w1 w2 a0 a1 b0 b1
  have ht := top_no _ l0 l1
  clear l0 l1
  rcases h with ⟨h, rfl⟩ | ⟨rfl, rfl⟩
  · go_enter Ybgu.func10, Ybgu.ntmps10
    go_wp2_with fail
    refine (sec_any _ w1 e1 _ ?_ ?_ a0 a1).mono ?_
    · simp [go_sem]
    · simp [go_sem]
    rintro e w' ⟨rfl, rfl⟩
    go_wp2_with fail
    refine (sec_any _ w2 e2 _ ?_ ?_ b0 b1).mono ?_
    · simp [go_sem]
    · simp [go_sem]
    rintro e w' ⟨rfl, rfl⟩
    go_wp2_with fail
    go_ret
    exact ⟨rfl, _, _, rfl⟩
  · go_enter Ybgu.func10, Ybgu.ntmps10
    go_wp2_with fail
    refine (sec_any _ w1 e1 _ ?_ ?_ a0 a1).mono ?_
    · simp [go_sem]
    · simp [go_sem]
    rintro e w' ⟨rfl, rfl⟩
    go_wp2_with fail
    refine (sec_any _ w2 e1 _ ?_ ?_ b0 b1).mono ?_
    · simp [go_sem]
    · simp [go_sem]
    rintro e w' ⟨rfl, rfl⟩
    go_wp2_with fail
    refine (nsec_any _ w1 _ ?_ a0 a1).mono ?_
    · simp [go_sem]
    rintro e w' ⟨rfl, rfl⟩
    go_wp2_with fail
    refine (nsec_any _ w2 _ ?_ b0 b1).mono ?_
    · simp [go_sem]
    rintro e w' ⟨rfl, rfl⟩
    go_wp2_with fail
    go_ret
    exact ⟨rfl, _, _, rfl⟩

theorem equal_any (d1 d2 : Int) (h0 : -32768 ≤ d1) (h1 : d1 ≤ 32767) (k0 : -32768 ≤ d2) (k1 : d2 ≤ 32767) (w : World) :
    Calls Ybgu.prog 10 #[.agg #[.int .u64 (dwall d1), .int .i64 (dext d1), .pointer none], .agg #[.int .u64 (dwall d2), .int .i64 (dext d2), .pointer none]] w fun e w' => e = .returned (.bool (d1 == d2)) ∧ ∃ c1 c2 : Array Value, w' = (w.alloc (.cells c1 65)).alloc (.cells c2 65) := by
  obtain ⟨p0, p1⟩ := dwall_bd d1 h0 h1
  obtain ⟨q0, q1⟩ := dwall_bd d2 k0 k1
  refine equal_gen _ _ _ _ _ p0 p1 q0 q1 ?_ w
  have hd := d_equal d1 d2 h0 h1 k0 k1
  by_cases he : dext d1 = dext d2
  · refine .inr ⟨he, ?_⟩
    rw [Bool.eq_iff_iff]; simp
    exact ⟨fun h => (hd.2 h).2, fun h => hd.1 ⟨he, h⟩⟩
  · refine .inl ⟨by simp [he], ?_⟩
    simp
    exact fun h => he (hd.2 h).1
end Go.Proofs.Yboneinjo
