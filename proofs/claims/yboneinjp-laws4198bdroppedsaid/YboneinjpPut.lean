import Derived.Test.YboneinjpTime
import Derived.Test.YboneinjpQueue
import Derived.Test.YboneinjpLocks
import Derived.Test.YboneinjpComm
import Derived.Conc.MuLone
import Derived.Deep.Cut
namespace Go.Proofs.Yboneinjp
open Go.RowKit Go.MuLone Go.Conc

theorem Kept.setChan {S : Nat → Prop} {w : World} {c cap : Nat} {buf : Array Value} {cl : Bool} {s r : Nat} {tm : Bool} (hc : S c) : Kept S w (w.setChan c cap buf cl s r tm) :=
  ⟨rfl, rfl, rfl, by simp [World.setChan], fun k _ hs => by simp only [World.setChan]; rw [Array.getElem?_setIfInBounds_ne (fun (e : c = k) => hs (e ▸ hc))]⟩

/-- What the wake channel's send leaves. -/
theorem woken {lb c s : Nat} {w W : World} (hne : c ≠ lb) (hlb : lb < W.heap.size) (hlc : c < W.heap.size) (k : Kept (fun k => k = lb) w W) (d : ∀ j, W.cell? ⟨lb, j, none⟩ = w.cell? ⟨lb, j, none⟩) (e : ∀ j, W.frozen? ⟨lb, j, none⟩ = w.frozen? ⟨lb, j, none⟩) :
    (∃ s', (W.setChan c 1 #[.agg #[]] false (s + 1) 0 false).heap[c]? = some (.chan 1 #[.agg #[]] false s' 0 false)) ∧ (∀ j, (W.setChan c 1 #[.agg #[]] false (s + 1) 0 false).cell? ⟨lb, j, none⟩ = w.cell? ⟨lb, j, none⟩) ∧
      (∀ j, (W.setChan c 1 #[.agg #[]] false (s + 1) 0 false).frozen? ⟨lb, j, none⟩ = w.frozen? ⟨lb, j, none⟩) ∧ Kept (fun k => k = lb ∨ k = c) w (W.setChan c 1 #[.agg #[]] false (s + 1) 0 false) := by
  have kc : Kept (fun k => k = c) W (W.setChan c 1 #[.agg #[]] false (s + 1) 0 false) := Kept.setChan rfl
  refine ⟨⟨_, heap_setChan _ _ _ _ _ _ _ _ hlc⟩, fun j => ?_, fun j => ?_, (k.mono (fun _ _ h => .inl h)).trans (Kept.setChan (.inr rfl))⟩
  · rw [kc.cell ⟨lb, j, none⟩ hlb (fun h => hne h.symm)]; exact d j
  · rw [kc.frozen ⟨lb, j, none⟩ hlb (fun h => hne h.symm)]; exact e j

set_option maxRecDepth 100000 in
set_option maxHeartbeats 800000 in
/-- put while no connection carries the link: the frame is dropped; the wake channel gets a value. -/
theorem put_drop (lb c : Nat) (fr : Value) (buf : Array Value) (s : Nat) (w : World) (h0 : w.cell? ⟨lb, 0, none⟩ = some (.int .i32 0)) (f0 : w.frozen? ⟨lb, 0, none⟩ = false)
    (h2 : w.cell? ⟨lb, 2, none⟩ = some (.pointer none)) (h8 : w.cell? ⟨lb, 8, none⟩ = some (.chan (some c))) (hne : c ≠ lb) (hc : w.heap[c]? = some (.chan 1 buf false s 0 false)) (x y : Int)
    (hbuf : buf = #[] ∨ buf = #[.agg #[]]) :
    Calls Ybgv.prog 6 #[.pointer (some ⟨lb, 0, none⟩), fr, .agg #[.int .u64 x, .int .i64 y, .pointer none]] w fun e w' => e = .returned (.tuple #[]) ∧
      (∃ s', w'.heap[c]? = some (.chan 1 #[.agg #[]] false s' 0 false)) ∧ (∀ j, w'.cell? ⟨lb, j, none⟩ = w.cell? ⟨lb, j, none⟩) ∧ (∀ j, w'.frozen? ⟨lb, j, none⟩ = w.frozen? ⟨lb, j, none⟩) ∧ Kept (fun k => k = lb ∨ k = c) w w' := by
  have hlt := World.block_lt_of_cell? _ _ h0
  have hltc : c < w.heap.size := by have := Array.getElem?_eq_some_iff.1 hc; exact this.1
  go_enter Ybgv.func6, Ybgv.ntmps6
  go_wp2_with fail
  obtain ⟨W0, hW0⟩ : ∃ W0, w.alloc (.cells #[.int .u64 x, .int .i64 y, .pointer none] 44) = W0 := ⟨_, rfl⟩
  have k0 : Kept (fun _ => False) w W0 := hW0 ▸ Kept.alloc _
  have d0 : ∀ j, W0.cell? ⟨lb, j, none⟩ = w.cell? ⟨lb, j, none⟩ := fun j => k0.cell ⟨lb, j, none⟩ hlt (fun h => h)
  have e0 : ∀ j, W0.frozen? ⟨lb, j, none⟩ = w.frozen? ⟨lb, j, none⟩ := fun j => k0.frozen ⟨lb, j, none⟩ hlt (fun h => h)
  rw [hW0]
  clear hW0
  refine (lock_free Ybgv.muLib ⟨lb, 0, none⟩ W0 ((d0 0).trans h0) ((e0 0).trans f0)).mono ?_
  rintro e w' ⟨rfl, rfl⟩
  obtain ⟨W1, hW1⟩ : ∃ W1, W0.setCell ⟨lb, 0, none⟩ (.int .i32 1) = W1 := ⟨_, rfl⟩
  have k1 : Kept (fun k => k = lb) w W1 := hW1 ▸ (k0.mono (fun _ _ h => h.elim)).trans (Kept.setCell rfl)
  have c10 : W1.cell? ⟨lb, 0, none⟩ = some (.int .i32 1) := hW1 ▸ World.cell?_setCell_same _ _ _ ((d0 0).trans h0)
  have d1 : ∀ j, j ≠ 0 → W1.cell? ⟨lb, j, none⟩ = w.cell? ⟨lb, j, none⟩ := fun j hj => by rw [← hW1, World.cell?_setCell_other _ _ _ _ (fun e => hj (by cases e; rfl))]; exact d0 j
  have e1 : ∀ j, W1.frozen? ⟨lb, j, none⟩ = w.frozen? ⟨lb, j, none⟩ := fun j => by rw [← hW1, World.frozen?_setCell]; exact e0 j
  rw [hW1]
  clear hW1 k0 d0 e0
  have c12 : W1.cell? ⟨lb, 2, none⟩ = some (.pointer none) := (d1 2 (by omega)).trans h2
  have K1 : Hid _ := k1
  have D1 : Hid _ := d1
  have E1 : Hid _ := e1
  clear k1 d1 e1
  go_wp2_with fail
  refine (unlock_held Ybgv.muLib ⟨lb, 0, none⟩ W1 c10 ((E1.out 0).trans f0)).mono ?_
  rintro e w' ⟨rfl, rfl⟩
  obtain ⟨W2, hW2⟩ : ∃ W2, W1.setCell ⟨lb, 0, none⟩ (.int .i32 0) = W2 := ⟨_, rfl⟩
  have k2 : Kept (fun k => k = lb) w W2 := hW2 ▸ K1.out.trans (Kept.setCell rfl)
  have d2 : ∀ j, W2.cell? ⟨lb, j, none⟩ = w.cell? ⟨lb, j, none⟩ := fun j => by
    by_cases hj : j = 0
    · subst hj; rw [h0, ← hW2]; exact World.cell?_setCell_same _ _ _ c10
    · rw [← hW2, World.cell?_setCell_other _ _ _ _ (fun e => hj (by cases e; rfl))]; exact D1.out j hj
  have e2 : ∀ j, W2.frozen? ⟨lb, j, none⟩ = w.frozen? ⟨lb, j, none⟩ := fun j => by rw [← hW2, World.frozen?_setCell]; exact E1.out j
  rw [hW2]
  clear hW2 c10 c12 K1 D1 E1
  have c28 : W2.cell? ⟨lb, 8, none⟩ = some (.chan (some c)) := (d2 8).trans h8
  have hc2 : W2.heap[c]? = some (.chan 1 buf false s 0 false) := (k2.block c hltc (by omega)).trans hc
  have K2 : Hid _ := k2
  have D2 : Hid _ := d2
  have E2 : Hid _ := e2
  clear k2 d2 e2
  go_upto_region 12 with fail
  refine wp_region_at ?_
  change wpAt _ _ _ [0, 1, 2] _ _
  rcases hbuf with rfl | rfl
  · refine wpAt_select_room (c := c) (cap := 1) (buf := #[]) (v := .agg #[]) (z := .agg #[]) (s := s) (r := 0) (tm := false) rfl rfl (by simp [go_sem, execOp, scase, Act.eval]) hc2 (by decide) ?_
    refine wpAt_from 1 rfl ?_
    simp only [List.drop_succ_cons, List.drop_zero]
    have HE : Hid _ := woken (s := s) hne (Nat.lt_of_lt_of_le hlt K2.out.size) (Nat.lt_of_lt_of_le hltc K2.out.size) K2.out D2.out E2.out
    go_wp2
    go_end0
    exact ⟨rfl, HE.out⟩
  · refine wpAt_select_full (c := c) (cap := 1) (buf := #[.agg #[]]) (v := .agg #[]) (z := .agg #[]) (s := s) (r := 0) (tm := false) rfl rfl (by simp [go_sem, execOp, scase, Act.eval]) hc2 (by decide) ?_
    refine wpAt_from 1 rfl ?_
    simp only [List.drop_succ_cons, List.drop_zero]
    have HC2 : Hid _ := hc2
    clear hc2 hc
    go_wp2
    go_end0
    exact ⟨rfl, ⟨_, HC2.out⟩, D2.out, E2.out, K2.out.mono (fun _ _ h => .inl h)⟩
end Go.Proofs.Yboneinjp
