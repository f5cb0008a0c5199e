import Derived.Test.YboneinjrRows
import Derived.Test.YboneinjrShelf
import Derived.WalkKit
import Derived.WalkSpells
import Derived.Handy
import Derived.Below
import Derived.WalkSmall
import Derived.BigQuiet
import Derived.Deep.QuietTactic
namespace Go.Proofs.Yboneinjr
open Go.RowKit

set_option maxHeartbeats 400000 in
/-- sendsTo at a step that is no multicast: whether To is proc. -/
theorem sends_plain (p : Option Addr) (o to proc : Int) (m : ByteArray) (ho : (o == 2) = false) (w : World) :
    Calls Ybgx.prog 4 #[.pointer p, .agg #[.int .i64 o, .string m, .int .i64 to], .int .i64 proc] w fun e w' =>
      e = .returned (.bool (to == proc)) ∧ w' = w.alloc (.cells #[.int .i64 o, .string m, .int .i64 to] 46) := by
  go_enter Ybgx.func4, Ybgx.ntmps4
  go_wp2
  go_ret
  exact ⟨rfl, rfl⟩

/-- Whatever w holds, w' holds. -/
def Holds (w w' : World) : Prop := ∀ a v, w.cell? a = some v → w'.cell? a = some v

theorem holds_alloc_drewN (w : World) (o : Obj) (n : Nat) : Holds w ((w.alloc o).drewN n) := by
  intro a v h
  have hb := World.block_lt_of_cell? _ _ h
  have e : ((w.alloc o).drewN n).cell? a = (w.alloc o).cell? a := by simp
  rw [e, World.cell?_alloc_lt _ _ _ hb]; exact h

/-- slices.Contains at a row that w knows, in whatever world holds what w holds. -/
theorem contains_row (w : World) (A : Option Addr) (L C : Nat) (zs : List Int) (proc : Int) (hL : L ≤ C) (hC : C ≤ maxLen) (hz : zs.length = C) (hA : A = none → C = 0)
    (hc : ∀ a, A = some a → ∀ j, j < C → w.cell? (a.add j) = some (.int .i64 (zs.getD j 0))) (w' : World) (hw : Holds w w') :
    Calls Ybgx.prog 5 #[.slice A L C, .int .i64 proc] w' fun e w'' => e = .returned (.bool ((zs.take L).contains proc)) ∧ w'' = w' := by
  unfold maxLen at hC
  by_cases h0 : L = 0
  · subst h0
    simpa using Ybgx.slices_Contains_int_empty A C proc w'
  · cases A with
    | none => have := hA rfl; omega
    | some a =>
      obtain ⟨b, off, sp⟩ := a
      have h1 := hc _ rfl 0 (by omega)
      have hsp : sp = none := by simpa [Addr.add] using World.cell?_spot h1
      subst hsp
      exact Ybgx.slices_Contains_int b off L C zs proc w' (by omega) (by omega) (fun j hj => hw _ _ (by have := hc _ rfl j (by omega); rw [Go.WideShapes.add_plain] at this; exact this))

set_option maxHeartbeats 400000 in
/-- sendsTo at a multicast step. -/
theorem sends_multi (bp bs bg og k len cap L C : Nat) (A : Option Addr) (hit : Bool) (proc : Int) (m : ByteArray) (w : World)
    (h1 : w.cell? ⟨bp, 0, none⟩ = some (.pointer (some ⟨bs, 0, none⟩))) (h2 : w.cell? ⟨bs, 11, none⟩ = some (.slice (some ⟨bg, og, none⟩) len cap))
    (h3 : w.cell? ⟨bg, og + k, none⟩ = some (.slice A L C)) (hk : k < len)
    (hc : ∀ w', Holds w w' → Calls Ybgx.prog 5 #[.slice A L C, .int .i64 proc] w' fun e w'' => e = .returned (.bool hit) ∧ w'' = w') :
    Calls Ybgx.prog 4 #[.pointer (some ⟨bp, 0, none⟩), .agg #[.int .i64 2, .string m, .int .i64 k], .int .i64 proc] w fun e w' =>
      e = .returned (.bool hit) ∧ Below w.heap.size w w' := by
  have HC : Hid _ := hc
  clear hc
  have g1 : ∀ o, (w.alloc o).cell? ⟨bp, 0, none⟩ = some (.pointer (some ⟨bs, 0, none⟩)) := fun o => holds_alloc_drewN w o 0 _ _ h1
  have g2 : ∀ o, (w.alloc o).cell? ⟨bs, 11, none⟩ = some (.slice (some ⟨bg, og, none⟩) len cap) := fun o => holds_alloc_drewN w o 0 _ _ h2
  have g3 : ∀ o, (w.alloc o).cell? ⟨bg, og + k, none⟩ = some (.slice A L C) := fun o => holds_alloc_drewN w o 0 _ _ h3
  have k1 : (0 : Int) ≤ (k : Int) := by omega
  have k2 : (k : Int) < (len : Int) := by omega
  clear h1 h2 h3
  go_enter Ybgx.func4, Ybgx.ntmps4
  go_wp2_with fail
  go_quiet ((go_at_call 5; exact Calls.quiet_of_same (HC.out _ (holds_alloc_drewN _ _ _))))
  go_wp2
  go_ret
  exact ⟨rfl, below_drewN ((Below.refl _ _).alloc (Nat.le_refl _) _) _⟩

theorem idx_nat (a : Int) (n : Nat) (h : 0 ≤ a) (hn : 0 < n) (hl : n ≤ 9223372036854775807) : ∃ k : Nat, k < n ∧ wrap64 (a.tmod n) = (k : Int) := by
  refine ⟨(a.tmod n).toNat, ?_, ?_⟩
  · have h1 := Int.tmod_lt_of_pos a (show (0 : Int) < n by omega)
    have h2 := Int.tmod_nonneg n h
    omega
  · have h1 := Int.tmod_lt_of_pos a (show (0 : Int) < n by omega)
    have h2 := Int.tmod_nonneg n h
    unfold wrap64
    omega

theorem u64_lo (a : Int) : 0 ≤ IntKind.u64.wrap a := by rw [IntKind.wrap_u64]; omega

theorem holds3 (w : World) (o1 o2 o3 : Obj) : Holds w (((w.alloc o1).alloc o2).alloc o3) := by
  intro a v h
  have hb := World.block_lt_of_cell? _ _ h
  have s1 : (w.alloc o1).heap.size = w.heap.size + 1 := by simp
  have s2 : ((w.alloc o1).alloc o2).heap.size = w.heap.size + 1 + 1 := by simp
  rw [World.cell?_alloc_lt _ _ _ (by omega), World.cell?_alloc_lt _ _ _ (by omega), World.cell?_alloc_lt _ _ _ (by omega)]; exact h

theorem Holds.trans {a b c : World} (h1 : Holds a b) (h2 : Holds b c) : Holds a c := fun x v h => h2 x v (h1 x v h)

theorem mem_hit (zs : List Int) (L j : Nat) (hj : j < L) (hL : L ≤ zs.length) : (zs.take L).contains (zs.getD j 0) = true := by
  have h : j < zs.length := by omega
  rw [List.contains_iff_mem]
  have e : zs.getD j 0 = zs[j] := by simp [List.getD, h]
  rw [e]
  have : zs[j] = (zs.take L)[j]'(by simp; omega) := by simp
  rw [this]
  exact List.getElem_mem _

set_option maxHeartbeats 800000 in
theorem law_some (bg og len cap : Nat) (to k : Int) (w : World) (hl0 : 0 < len) (hl : len ≤ 1024) (i : Nat) (ba oa L C j : Nat) (zs : List Int)
    (hi : wrap64 ((IntKind.u64.wrap to).tmod ↑len) = (i : Int)) (hil : i < len) (hj : wrap64 (k % ↑L) = (j : Int)) (hjl : j < L)
    (hr : w.cell? ⟨bg, og + i, none⟩ = some (.slice (some ⟨ba, oa, none⟩) L C)) (hLC : L ≤ C) (hC : C ≤ maxLen) (hz : zs.length = C)
    (hc : ∀ c, c < C → w.cell? ⟨ba, oa + c, none⟩ = some (.int .i64 (zs.getD c 0)))
    (k0 : 0 ≤ k) :
    Calls Ybgx.prog 3 #[.slice (some ⟨bg, og, none⟩) len cap, .int .i64 to, .int .u64 k] w fun e w' => e = .returned (.bool true) ∧ Below w.heap.size w w' := by
  have n0 : ((len : Int) == 0) = false := by simp; omega
  have n1 : ((L : Int) == 0) = false := by simp; omega
  have hr' : ∀ o1 o2 o3, (((w.alloc o1).alloc o2).alloc o3).cell? ⟨bg, og + i, none⟩ = some (.slice (some ⟨ba, oa, none⟩) L C) := fun o1 o2 o3 => holds3 w o1 o2 o3 _ _ hr
  have hm : ∀ o1 o2 o3, (((w.alloc o1).alloc o2).alloc o3).cell? ⟨ba, oa + j, none⟩ = some (.int .i64 (zs.getD j 0)) := fun o1 o2 o3 => holds3 w o1 o2 o3 _ _ (hc j (by omega))
  have HIT := mem_hit zs L j hjl (by omega)
  have HC : Hid (∀ w', Holds w w' → Calls Ybgx.prog 5 #[.slice (some ⟨ba, oa, none⟩) L C, .int .i64 (zs.getD j 0)] w' fun e w'' => e = .returned (.bool true) ∧ w'' = w') := fun w' hw => by
    rw [← HIT]
    exact contains_row w _ L C zs _ hLC hC hz (fun h => by cases h) (fun a ha c hcc => by cases ha; rw [Go.WideShapes.add_plain]; exact hc c hcc) w' hw
  have LE : L ≤ 9223372036854775807 := Nat.le_trans hLC hC
  clear hc hr hC HIT hz
  generalize zs.getD j 0 = x at *
  go_enter Ybgx.func3, Ybgx.ntmps3
  go_wp2_with fail
  refine (sends_plain _ _ _ _ _ (by decide) _).mono ?_
  rintro e w' ⟨rfl, rfl⟩
  go_wp2_with fail
  rw [hi]
  refine (sends_multi (w.heap.size + 1) w.heap.size bg og i len cap L C (some ⟨ba, oa, none⟩) true x _ _ ?_ ?_ ?_ hil ?_).mono ?_
  · simp [go_sem]
  · simp [go_sem]
  · exact hr' _ _ _
  · exact fun w' hw => HC.out w' ((holds3 w _ _ _).trans hw)
  rintro e w' ⟨rfl, hb⟩
  go_wp2
  go_ret
  exact ⟨rfl, ((((Below.refl _ _).alloc (Nat.le_refl _) _).alloc (by simp) _).alloc (by simp; omega) _).trans (hb.mono (by simp; omega))⟩

set_option maxHeartbeats 800000 in
/-- The group picked is empty. -/
theorem law_void (bg og len cap : Nat) (to k : Int) (w : World) (hl0 : 0 < len) (hl : len ≤ 1024) (i : Nat) (A : Option Addr) (C : Nat)
    (hi : wrap64 ((IntKind.u64.wrap to).tmod ↑len) = (i : Int)) (hil : i < len) (hr : w.cell? ⟨bg, og + i, none⟩ = some (.slice A 0 C)) :
    Calls Ybgx.prog 3 #[.slice (some ⟨bg, og, none⟩) len cap, .int .i64 to, .int .u64 k] w fun e w' => e = .returned (.bool true) ∧ Below w.heap.size w w' := by
  have n0 : ((len : Int) == 0) = false := by simp; omega
  have hr' : ∀ o1 o2 o3, (((w.alloc o1).alloc o2).alloc o3).cell? ⟨bg, og + i, none⟩ = some (.slice A 0 C) := fun o1 o2 o3 => holds3 w o1 o2 o3 _ _ hr
  clear hr
  go_enter Ybgx.func3, Ybgx.ntmps3
  go_wp2_with (go_at_call 4; refine (sends_plain _ _ _ _ _ (by decide) _).mono ?_; rintro e w' ⟨rfl, rfl⟩)
  go_ret
  exact ⟨rfl, (((Below.refl _ _).alloc (Nat.le_refl _) _).alloc (by simp) _).alloc (by simp; omega) _⟩

set_option maxHeartbeats 400000 in
/-- No group. -/
theorem law_none (a : Option Addr) (cap : Nat) (to k : Int) (w : World) :
    Calls Ybgx.prog 3 #[.slice a 0 cap, .int .i64 to, .int .u64 k] w fun e w' => e = .returned (.bool true) ∧ Below w.heap.size w w' := by
  go_enter Ybgx.func3, Ybgx.ntmps3
  go_wp2_with (go_at_call 4; refine (sends_plain _ _ _ _ _ (by decide) _).mono ?_; rintro e w' ⟨rfl, rfl⟩)
  go_ret
  exact ⟨rfl, (((Below.refl _ _).alloc (Nat.le_refl _) _).alloc (by simp) _).alloc (by simp; omega) _⟩

set_option maxHeartbeats 400000 in
/-- Too many groups. -/
theorem law_many (a : Option Addr) (len cap : Nat) (to k : Int) (w : World) (h : 1024 < len) :
    Calls Ybgx.prog 3 #[.slice a len cap, .int .i64 to, .int .u64 k] w fun e w' => e = .returned (.bool true) ∧ Below w.heap.size w w' := by
  have h' : (1024 : Int) < (len : Int) := by omega
  go_enter Ybgx.func3, Ybgx.ntmps3
  go_wp2
  go_ret
  exact ⟨rfl, Below.refl _ _⟩
end Go.Proofs.Yboneinjr
