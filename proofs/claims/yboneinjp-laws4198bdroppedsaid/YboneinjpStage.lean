import Derived.Test.YboneinjpPut
import Derived.Test.YboneinjpRows
import Derived.Test.YboneinjpAppend
import Derived.Conc.SmallLaws
import Derived.Conc.LoneSelectN
namespace Go.Proofs.Yboneinjp
open Go.RowKit Go.MuLone Go.Conc

theorem info27 : ∃ i, Ybgv.prog.info? 27 = some i ∧ i.bytes = 0 := by
  have h : (Ybgv.prog.info? 27).map (·.bytes) = some 0 := by kernel_rfl
  obtain ⟨i, hi, hb⟩ := Option.map_eq_some_iff.1 h
  exact ⟨i, hi, hb⟩
theorem mk1 (w : World) : (Instr.makeChan 26 (.int .i64 1)).run Ybgv.prog w = .ok (.chan (some w.heap.size)) (w.alloc (.chan 1 #[] false 0 0 false)) := by
  obtain ⟨i, hi, hb⟩ := info27
  simpa using run_makeChan (P := Ybgv.prog) (w := w) Ybgv.underlying26 hi .i64 1 (by omega) (by rw [hb]; omega)
theorem info5 : ∃ i, Ybgv.prog.info? 5 = some i ∧ i.zero = some (.int .u8 0) ∧ i.size = 1 ∧ i.bytes = 1 := by
  have h : (Ybgv.prog.info? 5).map (fun i => (i.zero, i.size, i.bytes)) = some (some (.int .u8 0), 1, 1) := by kernel_rfl
  obtain ⟨i, hi, hb⟩ := Option.map_eq_some_iff.1 h
  simp only [Prod.mk.injEq] at hb
  exact ⟨i, hi, hb.1, hb.2.1, hb.2.2⟩

/-- The bytes of a row as cells. -/
def cellsOf (ns : List Int) : List Value := ns.map fun n => .int .u8 n
theorem cellsOf_length (ns : List Int) : (cellsOf ns).length = ns.length := by simp [cellsOf]
theorem cellsOf_one (ns : List Int) : ∀ u ∈ cellsOf ns, u.oneCell' = true := by
  intro u hu
  obtain ⟨_, _, rfl⟩ := List.mem_map.1 hu
  rfl

/-- What is known of the link (block w.heap.size + 1), its wake channel (block w.heap.size), its bytes and its holds, in a world W behind w. -/
structure Stage (w W : World) (pend items : Value) (base : Int) (ns : List Int) (buf : Array Value) (n : Nat) (hs : List Value) : Prop where
  h0 : W.cell? ⟨w.heap.size + 1, 0, none⟩ = some (.int .i32 0)
  h2 : W.cell? ⟨w.heap.size + 1, 2, none⟩ = some (.pointer none)
  h3 : W.cell? ⟨w.heap.size + 1, 3, none⟩ = some pend
  h4 : W.cell? ⟨w.heap.size + 1, 4, none⟩ = some items
  h5 : W.cell? ⟨w.heap.size + 1, 5, none⟩ = some (.int .i64 0)
  h7 : W.cell? ⟨w.heap.size + 1, 7, none⟩ = some (.int .i64 base)
  h8 : W.cell? ⟨w.heap.size + 1, 8, none⟩ = some (.chan (some w.heap.size))
  fz : ∀ j, W.frozen? ⟨w.heap.size + 1, j, none⟩ = false
  chan : ∃ s, W.heap[w.heap.size]? = some (.chan 1 buf false s 0 false)
  kept : Kept (fun k => w.heap.size ≤ k) w W
  pown : W.ownsRow (w.heap.size + 2) 5 1 pend ns.length (cellsOf ns)
  hown : W.ownsRow (w.heap.size + 2) 46 4 items n hs
  apart : ∀ g, pend.ownBlock = some g → items.ownBlock ≠ some g
  size : w.heap.size + 2 ≤ W.heap.size

section
variable {w W W' : World} {pend items : Value} {base : Int} {ns : List Int} {buf : Array Value} {n : Nat} {hs : List Value}
/-- Whatever turns nothing that was there leaves the stage. -/
theorem Stage.on (h : Stage w W pend items base ns buf n hs) (k : Kept (fun _ => False) W W') : Stage w W' pend items base ns buf n hs := by
  have hz := h.size
  have c : ∀ j, W'.cell? ⟨w.heap.size + 1, j, none⟩ = W.cell? ⟨w.heap.size + 1, j, none⟩ := fun j => k.cell ⟨w.heap.size + 1, j, none⟩ (by simp; omega) (fun x => x)
  obtain ⟨s, hc⟩ := h.chan
  exact ⟨(c 0).trans h.h0, (c 2).trans h.h2, (c 3).trans h.h3, (c 4).trans h.h4, (c 5).trans h.h5, (c 7).trans h.h7, (c 8).trans h.h8, fun j => (k.frozen ⟨w.heap.size + 1, j, none⟩ (by simp; omega) (fun x => x)).trans (h.fz j),
    ⟨s, (k.block _ (by omega) (fun x => x)).trans hc⟩, h.kept.after k (fun _ _ x => x.elim), own_kept h.pown k (fun _ _ x => x), own_kept h.hown k (fun _ _ x => x), h.apart, Nat.le_trans hz k.size⟩

/-- Behind a Push. -/
theorem Stage.pushed (h : Stage w W pend items base ns buf n hs) {news : List Value} (hp : Pushed (w.heap.size + 2) (w.heap.size + 1) 4 items n hs news W W') :
    ∃ g cap, Stage w W' pend (.slice (some ⟨g, 0, none⟩) (n + 1) cap) base ns buf (n + 1) (hs ++ news) := by
  obtain ⟨g, cap, hc4, ho, hat, hcj, hfj, hk⟩ := hp
  have hz := h.size
  have hp := h.pown.lt
  have hi := h.hown.lt
  have hne : ∀ k, k = w.heap.size ∨ pend.ownBlock = some k → ¬ (k = w.heap.size + 1 ∨ some k = items.ownBlock) := by
    rintro k (rfl | hk) (e | e)
    · omega
    · have := (hi _ e.symm).1; omega
    · have := (hp _ hk).1; omega
    · exact h.apart k hk e.symm
  obtain ⟨s, hc⟩ := h.chan
  refine ⟨g, cap, (hcj 0 (by omega)).trans h.h0, (hcj 2 (by omega)).trans h.h2, (hcj 3 (by omega)).trans h.h3, hc4, (hcj 5 (by omega)).trans h.h5, (hcj 7 (by omega)).trans h.h7, (hcj 8 (by omega)).trans h.h8, fun j => (hfj j).trans (h.fz j),
    ⟨s, (hk.block _ (by omega) (hne _ (.inl rfl))).trans hc⟩, h.kept.after hk ?_, own_kept h.pown hk (fun g hg => hne g (.inr hg)), ho, ?_, Nat.le_trans hz hk.size⟩
  · rintro k _ (e | e)
    · omega
    · have := (hi _ e.symm).1; omega
  · intro g' hg' e
    simp [Value.ownBlock] at e
    subst e
    rcases hat with e | e
    · exact h.apart g hg' e
    · have := (hp _ hg').2; omega
end
end Go.Proofs.Yboneinjp
