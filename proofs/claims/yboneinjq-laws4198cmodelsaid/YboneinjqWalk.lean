import Derived.Test.YboneinjqRows
import Derived.Test.YboneinjqShelf
import Derived.WalkKit
import Derived.WalkSpells
import Derived.Handy
import Derived.Below
import Derived.WalkSmall
import Derived.BigQuiet
import Derived.Deep.QuietTactic
namespace Go.Proofs.Yboneinjq
open Go.RowKit

set_option maxHeartbeats 400000 in
/-- sendsTo at a step that is no multicast: whether To is proc. -/
theorem sends_plain (p : Option Addr) (o to proc : Int) (m : ByteArray) (ho : (o == 2) = false) (w : World) :
    Calls Ybgw.prog 4 #[.pointer p, .agg #[.int .i64 o, .string m, .int .i64 to], .int .i64 proc] w fun e w' =>
      e = .returned (.bool (to == proc)) ∧ w' = w.alloc (.cells #[.int .i64 o, .string m, .int .i64 to] 46) := by
  go_enter Ybgw.func4, Ybgw.ntmps4
  go_wp2
  go_ret
  exact ⟨rfl, rfl⟩

/-- Whatever w holds, w' holds. -/
def Holds (w w' : World) : Prop := ∀ a v, w.cell? a = some v → w'.cell? a = some v

theorem holds_alloc_drewN (w : World) (o : Obj) (n : Nat) : Holds w ((w.alloc o).drewN n) := by
  intro a v h
  have hb := World.block_lt_of_cell? _ _ h
  have e : ((w.alloc o).drewN n).cell? a = (w.alloc o).cell? a := by simp
  rw [e, World.cell?_alloc_lt _ _ _ hb]; exact h

/-- slices.Contains at a row that w knows, in whatever world holds what w holds. -/
theorem contains_row (w : World) (A : Option Addr) (L C : Nat) (zs : List Int) (proc : Int) (hL : L ≤ C) (hC : C ≤ maxLen) (hz : zs.length = C) (hA : A = none → C = 0)
    (hc : ∀ a, A = some a → ∀ j, j < C → w.cell? (a.add j) = some (.int .i64 (zs.getD j 0))) (w' : World) (hw : Holds w w') :
    Calls Ybgw.prog 6 #[.slice A L C, .int .i64 proc] w' fun e w'' => e = .returned (.bool ((zs.take L).contains proc)) ∧ w'' = w' := by
  unfold maxLen at hC
  by_cases h0 : L = 0
  · subst h0
    simpa using Ybgw.slices_Contains_int_empty A C proc w'
  · cases A with
    | none => have := hA rfl; omega
    | some a =>
      obtain ⟨b, off, sp⟩ := a
      have h1 := hc _ rfl 0 (by omega)
      have hsp : sp = none := by simpa [Addr.add] using World.cell?_spot h1
      subst hsp
      exact Ybgw.slices_Contains_int b off L C zs proc w' (by omega) (by omega) (fun j hj => hw _ _ (by have := hc _ rfl j (by omega); rw [Go.WideShapes.add_plain] at this; exact this))

set_option maxHeartbeats 400000 in
/-- sendsTo at a multicast step. -/
theorem sends_multi (bp bs bg og k len cap L C : Nat) (A : Option Addr) (hit : Bool) (proc : Int) (m : ByteArray) (w : World)
    (h1 : w.cell? ⟨bp, 0, none⟩ = some (.pointer (some ⟨bs, 0, none⟩))) (h2 : w.cell? ⟨bs, 11, none⟩ = some (.slice (some ⟨bg, og, none⟩) len cap))
    (h3 : w.cell? ⟨bg, og + k, none⟩ = some (.slice A L C)) (hk : k < len)
    (hc : ∀ w', Holds w w' → Calls Ybgw.prog 6 #[.slice A L C, .int .i64 proc] w' fun e w'' => e = .returned (.bool hit) ∧ w'' = w') :
    Calls Ybgw.prog 4 #[.pointer (some ⟨bp, 0, none⟩), .agg #[.int .i64 2, .string m, .int .i64 k], .int .i64 proc] w fun e w' =>
      e = .returned (.bool hit) ∧ ∃ n, w' = (w.alloc (.cells #[.int .i64 2, .string m, .int .i64 k] 46)).drewN n := by
  have HC : Hid _ := hc
  clear hc
  have g1 : ∀ o, (w.alloc o).cell? ⟨bp, 0, none⟩ = some (.pointer (some ⟨bs, 0, none⟩)) := fun o => holds_alloc_drewN w o 0 _ _ h1
  have g2 : ∀ o, (w.alloc o).cell? ⟨bs, 11, none⟩ = some (.slice (some ⟨bg, og, none⟩) len cap) := fun o => holds_alloc_drewN w o 0 _ _ h2
  have g3 : ∀ o, (w.alloc o).cell? ⟨bg, og + k, none⟩ = some (.slice A L C) := fun o => holds_alloc_drewN w o 0 _ _ h3
  have k1 : (0 : Int) ≤ (k : Int) := by omega
  have k2 : (k : Int) < (len : Int) := by omega
  clear h1 h2 h3
  go_enter Ybgw.func4, Ybgw.ntmps4
  go_wp2_with fail
  go_quiet ((go_at_call 6; exact Calls.quiet_of_same (HC.out _ (holds_alloc_drewN _ _ _))))
  go_wp2
  go_ret
  exact ⟨rfl, _, rfl⟩

theorem idx_nat (a : Int) (n : Nat) (h : 0 ≤ a) (hn : 0 < n) (hl : n ≤ 9223372036854775807) : ∃ k : Nat, k < n ∧ wrap64 (a.tmod n) = (k : Int) := by
  refine ⟨(a.tmod n).toNat, ?_, ?_⟩
  · have h1 := Int.tmod_lt_of_pos a (show (0 : Int) < n by omega)
    have h2 := Int.tmod_nonneg n h
    omega
  · have h1 := Int.tmod_lt_of_pos a (show (0 : Int) < n by omega)
    have h2 := Int.tmod_nonneg n h
    unfold wrap64
    omega

theorem u64_lo (a : Int) : 0 ≤ IntKind.u64.wrap a := by rw [IntKind.wrap_u64]; omega

theorem holds3 (w : World) (o1 o2 o3 : Obj) : Holds w (((w.alloc o1).alloc o2).alloc o3) := by
  intro a v h
  have hb := World.block_lt_of_cell? _ _ h
  have s1 : (w.alloc o1).heap.size = w.heap.size + 1 := by simp
  have s2 : ((w.alloc o1).alloc o2).heap.size = w.heap.size + 1 + 1 := by simp
  rw [World.cell?_alloc_lt _ _ _ (by omega), World.cell?_alloc_lt _ _ _ (by omega), World.cell?_alloc_lt _ _ _ (by omega)]; exact h

theorem Holds.trans {a b c : World} (h1 : Holds a b) (h2 : Holds b c) : Holds a c := fun x v h => h2 x v (h1 x v h)

/-! ### The model: a loop over one group -/
/-- Whether x is among the first L. -/
def has (zs : List Int) (L : Nat) (x : Int) : Bool := (zs.take L).contains x
theorem has_step (zs : List Int) (x : Int) (k : Nat) (hk : k < zs.length) (h : has zs k x = false) (hx : (zs.getD k 0 == x) = false) : has zs (k + 1) x = false := by
  unfold has at h ⊢
  have e : zs.getD k 0 = zs[k] := by simp [List.getD, hk]
  rw [e] at hx
  rw [List.take_succ_eq_append_getElem hk, List.contains_append, h]
  simp at hx ⊢
  exact fun e => hx e.symm
theorem has_hit (zs : List Int) (x : Int) (k L : Nat) (hk : k < L) (hL : L ≤ zs.length) (hx : (zs.getD k 0 == x) = true) : has zs L x = true := by
  unfold has
  have h : k < zs.length := by omega
  have e : zs.getD k 0 = zs[k] := by simp [List.getD, h]
  rw [e] at hx
  rw [List.contains_iff_mem, ← eq_of_beq hx]
  have : zs[k] = (zs.take L)[k]'(by simp; omega) := by simp
  rw [this]
  exact List.getElem_mem _

theorem ret_bool {a b : Bool} (h : a = b) : Ending.returned (.bool a) = .returned (.bool b) := by rw [h]

set_option maxHeartbeats 400000 in
theorem member_loop (b off L C : Nat) (zs : List Int) (x : Int) (w : World) (hL : L ≤ zs.length) (hb : L ≤ 9223372036854775807)
    (hc : ∀ j, j < zs.length → w.cell? ⟨b, off + j, none⟩ = some (.int .i64 (zs.getD j 0))) :
    Calls Ybgw.prog 5 #[.slice (some ⟨b, off, none⟩) L C, .int .i64 x] w fun e w' => e = .returned (.bool (has zs L x)) ∧ w' = w := by
  have HCC : Hid _ := hc
  clear hc
  go_enter Ybgw.func5, Ybgw.ntmps5
  go_wp2
  go_loop [5] (fun i => ∃ k : Nat, k ≤ L ∧ i = .int .i64 k ∧ has zs k x = false) (fun i => L - (intOf i).toNat)
  case atStart => exact ⟨0, Nat.zero_le _, rfl, by simp [has]⟩
  case round =>
    obtain ⟨k, hk, rfl, hno⟩ := hrel
    have HNO : Hid _ := hno
    clear hno
    by_cases hlt : k < L
    · have hcell := HCC.out k (by omega)
      by_cases hx : (zs.getD k 0 == x) = true
      · have HHIT : Hid _ := has_hit zs x k L hlt hL hx
        generalize zs.getD k 0 = y at hcell hx
        go_wp2
        go_ret
        exact ⟨ret_bool HHIT.out.symm, rfl⟩
      · have hx' : (zs.getD k 0 == x) = false := by simpa using hx
        have HST : Hid _ := has_step zs x k (by omega) HNO.out hx'
        clear hx
        generalize zs.getD k 0 = y at hcell hx'
        go_wp2
        go_round
        case rel => exact ⟨k + 1, by omega, by go_num, HST.out⟩
        case measure => simp [intOf]; omega
    · have hkL : k = L := by omega
      subst hkL
      go_wp2
      go_ret
      exact ⟨ret_bool HNO.out.symm, rfl⟩

set_option maxHeartbeats 400000 in
theorem member_empty (A : Option Addr) (C : Nat) (x : Int) (w : World) :
    Calls Ybgw.prog 5 #[.slice A 0 C, .int .i64 x] w fun e w' => e = .returned (.bool false) ∧ w' = w := by
  go_enter Ybgw.func5, Ybgw.ntmps5
  go_wp2
  go_loop [5] (fun i => i = .int .i64 0) (fun _ => 0)
  case atStart => rfl
  case round =>
    subst hrel
    go_wp2
    go_ret
    exact ⟨rfl, rfl⟩

/-- The model at a row that w knows, in whatever world holds what w holds. -/
theorem member_row (w : World) (A : Option Addr) (L C : Nat) (zs : List Int) (x : Int) (hL : L ≤ C) (hC : C ≤ maxLen) (hz : zs.length = C) (hA : A = none → C = 0)
    (hc : ∀ a, A = some a → ∀ j, j < C → w.cell? (a.add j) = some (.int .i64 (zs.getD j 0))) (w' : World) (hw : Holds w w') :
    Calls Ybgw.prog 5 #[.slice A L C, .int .i64 x] w' fun e w'' => e = .returned (.bool (has zs L x)) ∧ w'' = w' := by
  unfold maxLen at hC
  by_cases h0 : L = 0
  · subst h0
    have e : has zs 0 x = false := by simp [has]
    rw [e]; exact member_empty A C x w'
  · cases A with
    | none => have := hA rfl; omega
    | some a =>
      obtain ⟨b, off, sp⟩ := a
      have h1 := hc _ rfl 0 (by omega)
      have hsp : sp = none := by simpa [Addr.add] using World.cell?_spot h1
      subst hsp
      exact member_loop b off L C zs x w' (by omega) (by omega) (fun j hj => hw _ _ (by have := hc _ rfl j (by omega); rw [Go.WideShapes.add_plain] at this; exact this))

theorem idx_lo (a : Int) (n : Nat) (hn : 0 < n) (hl : n ≤ 9223372036854775807) : ∃ k : Nat, k < n ∧ wrap64 ((IntKind.u64.wrap a).tmod n) = (k : Int) := idx_nat _ n (u64_lo a) hn hl

set_option maxHeartbeats 800000 in
/-- A send or a receive: the groups are looked through, then the step is asked. -/
theorem law_plain (g : Option Addr) (len cap : Nat) (o to proc s : Int) (m : ByteArray) (w : World) (hl : len ≤ 1024) (o0 : 0 ≤ o) (hs : o % 3 = s) (hs2 : s = 0 ∨ s = 1 ∨ (s = 2 ∧ len = 0))
    (A : Nat → Option Addr) (L C : Nat → Nat) (hr : ∀ r, r < len → ∃ bg og, g = some ⟨bg, og, none⟩ ∧ w.cell? ⟨bg, og + r, none⟩ = some (.slice (A r) (L r) (C r))) :
    Calls Ybgw.prog 3 #[.slice g len cap, .int .u8 o, .int .i64 to, .int .i64 proc, .string m] w fun e w' => e = .returned (.bool true) ∧ Below w.heap.size w w' := by
  have hl' : ¬ (1024 : Int) < (len : Int) := by omega
  have HR : Hid _ := hr
  have HS : Hid _ := hs
  have HS2 : Hid _ := hs2
  clear hr hs hs2
  go_enter Ybgw.func3, Ybgw.ntmps3
  go_wp2
  go_loop [11] (fun i => ∃ k : Nat, k ≤ len ∧ i = .int .i64 k) (fun i => len - (intOf i).toNat)
  case atStart => exact ⟨0, Nat.zero_le _, rfl⟩
  case round =>
    obtain ⟨k, hk, rfl⟩ := hrel
    by_cases hlt : k < len
    · obtain ⟨bg, og, rfl, hcell⟩ := HR.out k hlt
      clear HR HS HS2
      go_wp2
      · go_ret
        exact ⟨rfl, Below.refl _ _⟩
      · go_round
        case rel => exact ⟨k + 1, by omega, by go_num⟩
        case measure => simp [intOf]; omega
    · have hs := HS.out
      rcases HS2.out with rfl | rfl | ⟨rfl, rfl⟩
      all_goals
        clear HR HS HS2
        go_wp2_with (go_at_call 4; refine (sends_plain _ _ _ _ _ (by decide) _).mono ?_; rintro e w' ⟨rfl, rfl⟩)
        go_ret
        exact ⟨rfl, (((Below.refl _ _).alloc (Nat.le_refl _) _).alloc (by simp) _).alloc (by simp; omega) _⟩

set_option maxHeartbeats 800000 in
/-- A multicast: the group that To is mapped to is asked, and so is the model. -/
theorem law_multi (bg og len cap i : Nat) (o to proc : Int) (m : ByteArray) (hit : Bool) (w : World) (hl0 : 0 < len) (hl : len ≤ 1024) (o0 : 0 ≤ o) (hs : o % 3 = 2)
    (A : Nat → Option Addr) (L C : Nat → Nat) (hr : ∀ r, r < len → w.cell? ⟨bg, og + r, none⟩ = some (.slice (A r) (L r) (C r)))
    (hi : wrap64 ((IntKind.u64.wrap to).tmod ↑len) = (i : Int)) (hil : i < len)
    (hc : ∀ w', Holds w w' → Calls Ybgw.prog 6 #[.slice (A i) (L i) (C i), .int .i64 proc] w' fun e w'' => e = .returned (.bool hit) ∧ w'' = w')
    (hm : ∀ w', Holds w w' → Calls Ybgw.prog 5 #[.slice (A i) (L i) (C i), .int .i64 proc] w' fun e w'' => e = .returned (.bool hit) ∧ w'' = w') :
    Calls Ybgw.prog 3 #[.slice (some ⟨bg, og, none⟩) len cap, .int .u8 o, .int .i64 to, .int .i64 proc, .string m] w fun e w' => e = .returned (.bool true) ∧ Below w.heap.size w w' := by
  have hl' : ¬ (1024 : Int) < (len : Int) := by omega
  have n0 : ((len : Int) == 0) = false := by simp; omega
  have hr' : ∀ o1 o2 o3, (((w.alloc o1).alloc o2).alloc o3).cell? ⟨bg, og + i, none⟩ = some (.slice (A i) (L i) (C i)) := fun o1 o2 o3 => holds3 w o1 o2 o3 _ _ (hr i hil)
  have hr2 : ∀ o1 o2, ((w.alloc o1).alloc o2).cell? ⟨bg, og + i, none⟩ = some (.slice (A i) (L i) (C i)) := fun o1 o2 => by
    have h := hr i hil
    have hb := World.block_lt_of_cell? _ _ h
    rw [World.cell?_alloc_lt _ _ _ (by simp; exact Nat.lt_succ_of_lt hb), World.cell?_alloc_lt _ _ _ hb]; exact h
  have HR : Hid _ := hr
  have HS : Hid _ := hs
  have HC : Hid _ := hc
  have HM : Hid _ := hm
  have HI : Hid _ := hi
  have HR2 : Hid _ := hr2
  have HR3 : Hid _ := hr'
  clear hr hs hc hm hi hr2 hr'
  go_enter Ybgw.func3, Ybgw.ntmps3
  go_wp2
  go_loop [11] (fun i => ∃ k : Nat, k ≤ len ∧ i = .int .i64 k) (fun i => len - (intOf i).toNat)
  case atStart => exact ⟨0, Nat.zero_le _, rfl⟩
  case round =>
    obtain ⟨k, hk, rfl⟩ := hrel
    by_cases hlt : k < len
    · have hcell := HR.out k hlt
      clear HR HS HC HM HI HR2 HR3
      go_wp2
      · go_ret
        exact ⟨rfl, Below.refl _ _⟩
      · go_round
        case rel => exact ⟨k + 1, by omega, by go_num⟩
        case measure => simp [intOf]; omega
    · have hs := HS.out
      have hi := HI.out
      have hr' := HR3.out
      clear HR HS HI
      go_wp2_with fail
      refine (sends_multi (w.heap.size + 1) w.heap.size bg og i len cap (L i) (C i) (A i) hit proc m _ ?_ ?_ ?_ hil ?_).mono ?_
      · simp [go_sem]
      · simp [go_sem]
      · exact HR2.out _ _
      · exact fun w' hw => HC.out w' (Holds.trans (fun a v h => by
          have hb := World.block_lt_of_cell? _ _ h
          rw [World.cell?_alloc_lt _ _ _ (by simp; exact Nat.lt_succ_of_lt hb), World.cell?_alloc_lt _ _ _ hb]; exact h) hw)
      rintro e w' ⟨rfl, nq, rfl⟩
      go_wp2_with fail
      refine (HM.out _ ?_).mono ?_
      · exact fun a v h => holds3 w _ _ _ a v h
      rintro e w' ⟨rfl, rfl⟩
      go_wp2
      go_ret
      exact ⟨ret_bool (by simp), below_drewN ((((Below.refl _ _).alloc (Nat.le_refl _) _).alloc (by simp) _).alloc (by simp; omega) _) _⟩

set_option maxHeartbeats 400000 in
/-- Too many groups. -/
theorem law_many (a : Option Addr) (len cap : Nat) (o to proc : Int) (m : ByteArray) (w : World) (h : 1024 < len) :
    Calls Ybgw.prog 3 #[.slice a len cap, .int .u8 o, .int .i64 to, .int .i64 proc, .string m] w fun e w' => e = .returned (.bool true) ∧ Below w.heap.size w w' := by
  have h' : (1024 : Int) < (len : Int) := by omega
  go_enter Ybgw.func3, Ybgw.ntmps3
  go_wp2
  go_ret
  exact ⟨rfl, Below.refl _ _⟩
end Go.Proofs.Yboneinjq
