/-
  COMMUNICATION IN ONE GOROUTINE, AS RULES FOR 'Code.wp': a plain region that holds a send into a buffer with room, or a select of one send with a default. Over any program. ('Code.wp' is a statement on the machine's steps; the kit's laws on one step of a lone machine, Derived/Conc/LoneSelect.lean, give each rule.)
-/
import Derived.Conc.LoneSelect
import Derived.Tactics
namespace Go.Proofs.Yboneinjo
open Go.Conc Go.RowKit

section
variable {P : Program} {ops : Array Oper} {Q : Exit → Act → World → Prop} {a : Act} {w : World}

/-- What is left of a plain region, the operations 'l' still to come. -/
def wpAt (P : Program) (ops : Array Oper) (Q : Exit → Act → World → Prop) (l : List Nat) (a : Act) (w : World) : Prop :=
  ∀ (b : Frame) (k : List Item) (cs : List Frame), ∃ e a' w', Q e a' w' ∧ Arrives P (lone (b.at a (.inRegion ops l :: k)) cs w) b k cs e a' w'

theorem wp_region_at {id : Nat} (h : wpAt P ops Q (List.range ops.size) a w) : (Code.region id ops false).wp P Q a w := by
  intro b k cs
  obtain ⟨e, a', w', q, r⟩ := h b k cs
  exact ⟨e, a', w', q, .of_steps (.one step_region) r⟩

theorem wpAt_ops {l : List Nat} (h : wpOps P ops Q l a w) : wpAt P ops Q l a w := fun b k cs => wp_ops l a w h b k cs

/-- The rest of the region as the kit's walk takes it. -/
theorem wpAt_from (k : Nat) {l : List Nat} (hl : List.range' k (ops.toList.drop k).length = l) (h : wpList P ops Q (ops.toList.drop k) a w) : wpAt P ops Q l a w := by
  refine wpAt_ops ?_
  rw [← hl, wpOps_eq_wpList (ops.toList.drop k) k (fun j => by simp)]
  exact h

theorem wpAt_nil (h : Q .normal a w) : wpAt P ops Q [] a w := wpAt_ops h

/-- An operation that yields a value. -/
theorem wpAt_value {i : Nat} {rest : List Nat} {o : Oper} {v : Value} {w' : World} (ho : ops[i]? = some o) (hw : Region.wanted o (yielded ops a.tmps) = true)
    (hr : (execOp a.eval o).run P w = .ok (.value v) w') (h : wpAt P ops Q rest (a.put o.dst v) w') : wpAt P ops Q (i :: rest) a w := by
  intro b k cs
  obtain ⟨e, a', w'', q, r⟩ := h b k cs
  refine ⟨e, a', w'', q, .of_steps (.one (step_lone_go ?_)) r⟩
  have hfin : (b.at a (.inRegion ops (i :: rest) :: k)).finish v = b.at (a.put o.dst v) (.inRegion ops rest :: k) := by
    rw [Frame.finish_at, ho]; rfl
  rw [stepG_op ho hw, ← hfin]; simp [stepG.apply, hr]

/-- An operation that is a communication is handed up to the machine; the frame stands; whatever the frame's kind. -/
theorem stepG_comm_any {b : Frame} {k : List Item} {cs : List Frame} {i : Nat} {rest : List Nat} {o : Oper} {cases : Array CommCase} {blocking : Bool} {shape : CommShape} {w' : World} (ho : ops[i]? = some o) (hw : Region.wanted o (yielded ops a.tmps) = true)
    (hr : (execOp a.eval o).run P w = .ok (.comm cases blocking shape) w') :
    ∃ es, stepG P true (G (b.at a (.inRegion ops (i :: rest) :: k)) cs) w = .comm (G (b.at a (.inRegion ops (i :: rest) :: k)) cs) cases blocking shape w' es := by
  rw [stepG_oper ho hw]
  simp [stepG.apply, hr, G, Frame.at, GStep.after]

theorem wpAt_send_room {i : Nat} {rest : List Nat} {o : Oper} {c cap s r : Nat} {buf : Array Value} {v z : Value} {tm : Bool} (ho : ops[i]? = some o) (hw : Region.wanted o (yielded ops a.tmps) = true)
    (hr : (execOp a.eval o).run P w = .ok (.comm #[scase c v z] true .send) w) (hc : w.heap[c]? = some (.chan cap buf false s r tm)) (hroom : buf.size < cap)
    (h : wpAt P ops Q rest (a.put o.dst undef) (w.setChan c cap (buf.push v) false (s + 1) r tm)) : wpAt P ops Q (i :: rest) a w := by
  intro b k cs
  obtain ⟨e, a', w'', q, q'⟩ := h b k cs
  refine ⟨e, a', w'', q, .of_steps (.one ?_) q'⟩
  obtain ⟨es, hs⟩ := stepG_comm_any (b := b) (k := k) (cs := cs) (rest := rest) ho hw hr
  have := step_lone_send_room hs hc hroom
  rw [Frame.finish_at, ho] at this
  exact this

theorem wpAt_select_room {i : Nat} {rest : List Nat} {o : Oper} {c cap s r : Nat} {buf : Array Value} {v z : Value} {tm : Bool} (ho : ops[i]? = some o) (hw : Region.wanted o (yielded ops a.tmps) = true)
    (hr : (execOp a.eval o).run P w = .ok (.comm #[scase c v z] false .select) w) (hc : w.heap[c]? = some (.chan cap buf false s r tm)) (hroom : buf.size < cap)
    (h : wpAt P ops Q rest (a.put o.dst (.tuple #[goInt 0, .bool false])) (w.setChan c cap (buf.push v) false (s + 1) r tm)) : wpAt P ops Q (i :: rest) a w := by
  intro b k cs
  obtain ⟨e, a', w'', q, q'⟩ := h b k cs
  refine ⟨e, a', w'', q, .of_steps (.one ?_) q'⟩
  obtain ⟨es, hs⟩ := stepG_comm_any (b := b) (k := k) (cs := cs) (rest := rest) ho hw hr
  have := step_lone_select_send_room hs hc hroom
  rw [Frame.finish_at, ho] at this
  exact this

theorem wpAt_select_full {i : Nat} {rest : List Nat} {o : Oper} {c cap s r : Nat} {buf : Array Value} {v z : Value} {tm : Bool} (ho : ops[i]? = some o) (hw : Region.wanted o (yielded ops a.tmps) = true)
    (hr : (execOp a.eval o).run P w = .ok (.comm #[scase c v z] false .select) w) (hc : w.heap[c]? = some (.chan cap buf false s r tm)) (hfull : cap ≤ buf.size)
    (h : wpAt P ops Q rest (a.put o.dst (.tuple #[goInt (-1), .bool false])) w) : wpAt P ops Q (i :: rest) a w := by
  intro b k cs
  obtain ⟨e, a', w'', q, q'⟩ := h b k cs
  refine ⟨e, a', w'', q, .of_steps (.one ?_) q'⟩
  obtain ⟨es, hs⟩ := stepG_comm_any (b := b) (k := k) (cs := cs) (rest := rest) ho hw hr
  have := step_lone_select_send_full hs hc hfull
  rw [Frame.finish_at, ho] at this
  exact this
end
end Go.Proofs.Yboneinjo
