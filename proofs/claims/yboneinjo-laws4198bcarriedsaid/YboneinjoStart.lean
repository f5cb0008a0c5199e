import Derived.Test.YboneinjoState
import Derived.Test.YboneinjoShelf
import Derived.Conc.SmallLaws
import Derived.Conc.LoneSelectN
import Derived.Lib.Builder
namespace Go.Proofs.Yboneinjo
open Go.RowKit Go.MuLone Go.Conc

theorem info33 : ∃ i, Ybgu.prog.info? 33 = some i ∧ i.bytes = 0 := by
  have h : (Ybgu.prog.info? 33).map (·.bytes) = some 0 := by kernel_rfl
  obtain ⟨i, hi, hb⟩ := Option.map_eq_some_iff.1 h
  exact ⟨i, hi, hb⟩
theorem mk1 (w : World) : (Instr.makeChan 45 (.int .i64 1)).run Ybgu.prog w = .ok (.chan (some w.heap.size)) (w.alloc (.chan 1 #[] false 0 0 false)) := by
  obtain ⟨i, hi, hb⟩ := info33
  simpa using run_makeChan (P := Ybgu.prog) (w := w) Ybgu.underlying45 hi .i64 1 (by omega) (by rw [hb]; omega)

def link0 (w : World) (co : Obj) (base : Int) : World := ((w.alloc co).alloc (.chan 1 #[] false 0 0 false)).alloc (.cells #[.int .i32 0, .int .u32 0, .pointer (some ⟨w.heap.size, 0, none⟩), .slice none 0 0, .slice none 0 0, .int .i64 0, .int .i64 0, .int .i64 base, .chan (some (w.heap.size + 1))] 59)
theorem link0_kept (w : World) (co : Obj) (base : Int) : Kept (fun _ => False) w (link0 w co base) := ((Kept.alloc _).trans (Kept.alloc _)).trans (Kept.alloc _)
theorem link0_chan (w : World) (co : Obj) (base : Int) : (link0 w co base).heap[w.heap.size + 1]? = some (.chan 1 #[] false 0 0 false) := by
  unfold link0
  rw [Below.heap_alloc _ _ _ (by simp)]
  have := heap_alloc_new (w.alloc co) (.chan 1 #[] false 0 0 false)
  simpa using this
theorem link0_size (w : World) (co : Obj) (base : Int) : (link0 w co base).heap.size = w.heap.size + 3 := by simp [link0]
theorem link0_cell (w : World) (co : Obj) (base : Int) (j : Nat) (v : Value) (h : (#[.int .i32 0, .int .u32 0, .pointer (some ⟨w.heap.size, 0, none⟩), .slice none 0 0, .slice none 0 0, .int .i64 0, .int .i64 0, .int .i64 base, .chan (some (w.heap.size + 1))] : Array Value)[j]? = some v) :
    (link0 w co base).cell? ⟨w.heap.size + 2, j, none⟩ = some v := by
  have e := World.news_of_block (heap_alloc_new ((w.alloc co).alloc (.chan 1 #[] false 0 0 false)) (.cells #[.int .i32 0, .int .u32 0, .pointer (some ⟨w.heap.size, 0, none⟩), .slice none 0 0, .slice none 0 0, .int .i64 0, .int .i64 0, .int .i64 base, .chan (some (w.heap.size + 1))] 59)) j v (by simpa using h)
  rw [Go.WideShapes.add_plain, Nat.zero_add] at e
  simpa [link0] using e

/-- The link is made, its first bytes are laid. -/
theorem LS.start (w w1 : World) (co : Obj) (a' : Option Addr) (len0 c' : Nat) (base : Int) (ns : List Int) (hns : ns.length = len0) (hown : w1.ownsRow (w.heap.size + 3) 5 1 (.slice a' len0 c') len0 (cellsOf ns))
    (hgrow : (link0 w co base).grownBy w1 none) : LS w (w1.setCell ⟨w.heap.size + 2, 3, none⟩ (.slice a' len0 c')) (.slice a' len0 c') (.slice none 0 0) (.slice none 0 0) (.slice none 0 0) (.slice none 0 0) base #[] ns [] [] [] [] := by
  have hk1 : Kept (fun _ => False) (link0 w co base) w1 := (Kept.of_grown hgrow).mono (fun k _ e => by simp at e)
  have hl := link0_size w co base
  have hc : ∀ j v, (link0 w co base).cell? ⟨w.heap.size + 2, j, none⟩ = some v → w1.cell? ⟨w.heap.size + 2, j, none⟩ = some v := fun j v h => (hk1.cell ⟨w.heap.size + 2, j, none⟩ (by simp; omega) (fun x => x)).trans h
  have hf : ∀ j, w1.frozen? ⟨w.heap.size + 2, j, none⟩ = false := fun j => (hk1.frozen ⟨w.heap.size + 2, j, none⟩ (by simp; omega) (fun x => x)).trans (by simp [link0, go_sem])
  have hset : ∀ j v, j ≠ 3 → w1.cell? ⟨w.heap.size + 2, j, none⟩ = some v → (w1.setCell ⟨w.heap.size + 2, 3, none⟩ (.slice a' len0 c')).cell? ⟨w.heap.size + 2, j, none⟩ = some v := fun j v hj h => by
    rw [World.cell?_setCell_other _ _ _ _ (fun e => hj (by cases e; rfl))]; exact h
  have hks : Kept (fun k => k = w.heap.size + 2) w1 (w1.setCell ⟨w.heap.size + 2, 3, none⟩ (.slice a' len0 c')) := Kept.setCell rfl
  have hsz := hk1.size
  have hsz2 := hks.size
  refine ⟨⟨by omega, by omega, by omega, hset 0 _ (by omega) (hc 0 _ (link0_cell w co base 0 _ rfl)), hset 2 _ (by omega) (hc 2 _ (link0_cell w co base 2 _ rfl)), World.cell?_setCell_same _ _ _ (hc 3 (.slice none 0 0) (link0_cell w co base 3 _ rfl)), hset 4 _ (by omega) (hc 4 _ (link0_cell w co base 4 _ rfl)),
      hset 5 _ (by omega) (hc 5 _ (link0_cell w co base 5 _ rfl)), hset 7 _ (by omega) (hc 7 _ (link0_cell w co base 7 _ rfl)), hset 8 _ (by omega) (hc 8 _ (link0_cell w co base 8 _ rfl)), fun j => by rw [World.frozen?_setCell]; exact hf j, ⟨0, ?_⟩, ?_, World.ownsRow_nil _ _ _ _, (Apart.nil _).symm, by omega, Kept.refl _ _, fun _ x => .inl x, fun _ x => .inl x⟩,
    World.ownsRow_nil _ _ _ _, World.ownsRow_nil _ _ _ _, World.ownsRow_nil _ _ _ _, (Apart.nil _).symm, (Apart.nil _).symm, (Apart.nil _).symm, Apart.nil _, Apart.nil _, Apart.nil _, Apart.nil _, Apart.nil _, Apart.nil _, ?_⟩
  · rw [hks.block _ (by omega) (by omega), hk1.block _ (by omega) (fun x => x)]
    exact link0_chan w co base
  · rw [hns]
    exact own_kept hown hks (fun g hg e => by have := (hown.lt g hg).1; omega)
  · exact (((link0_kept w co base).mono (fun _ _ x => x.elim)).after hk1 (fun _ _ x => x.elim)).after hks (fun k hk e => by omega)

theorem kept4 (W : World) (a b c d : Obj) : Kept (fun _ => False) W ((((W.alloc a).alloc b).alloc c).alloc d).drew := ((((Kept.alloc _).trans (Kept.alloc _)).trans (Kept.alloc _)).trans (Kept.alloc _)).trans Kept.drew
theorem lit4 (W : World) (a b c d : Obj) : ((((W.alloc a).alloc b).alloc c).alloc d).drew.heap[W.heap.size + 1 + 1 + 1]? = some d := by
  have h : ((((W.alloc a).alloc b).alloc c).alloc d).heap[W.heap.size + 1 + 1 + 1]? = some d := by
    have := heap_alloc_new (((W.alloc a).alloc b).alloc c) d
    simpa only [World.size_alloc] using this
  exact h

/-- Before the law's own bytes are laid: n holds, the law's rows of them. -/
def LI0 (w W : World) (base : Int) (buf : Array Value) (ns : List Int) (n : Nat) (dues ends : Value) : Prop :=
  ∃ pend items hs, LS w W pend items (.slice none 0 0) dues ends base buf ns hs [] (hs.map Prod.fst) (hs.map Prod.snd) ∧ hs.length = n ∧ n ≤ 1 ∧ (∀ p ∈ hs, -32768 ≤ p.1 ∧ p.1 ≤ 32767)

/-- At the head of round k: n holds, nw bytes. -/
def LI (w W : World) (pre : Bool) (base : Int) (k n nw : Nat) (want dues ends : Value) : Prop :=
  ∃ pend items buf bs hs, LS w W pend items want dues ends base buf bs hs bs (hs.map Prod.fst) (hs.map Prod.snd) ∧ hs.length = n ∧ bs.length = nw ∧ (∀ p ∈ hs, -32768 ≤ p.1 ∧ p.1 ≤ 32767) ∧
    ((buf = #[] ∧ k = 0 ∧ pre = false) ∨ (buf = #[.agg #[]] ∧ (0 < k ∨ pre = true)))

theorem LI0.full {w W : World} {base : Int} {buf : Array Value} {ns : List Int} {n : Nat} {dues ends : Value} (h : LI0 w W base buf ns n dues ends) (s : Nat) : LI0 w (W.setChan (w.heap.size + 1) 1 #[.agg #[]] false (s + 1) 0 false) base #[.agg #[]] ns n dues ends := by
  obtain ⟨pend, items, hs, h1, h2, h3, h4⟩ := h
  exact ⟨pend, items, hs, h1.put (h1.ps.woken s), h2, h3, h4⟩

theorem bytes_row {W : World} {base : Nat} {a : Option Addr} {n c : Nat} {ns : List Int} (h : W.ownsRow base 5 1 (.slice a n c) n (cellsOf ns)) : Lib.BytesIn W a n ns := by
  intro hn
  rcases h.2 with ⟨_, h0⟩ | ⟨g, cap, cur, e, _, _, _, _, _, _⟩
  · omega
  · simp at e
    obtain ⟨rfl, rfl⟩ := e
    refine ⟨g, 0, rfl, fun i hi => ?_⟩
    have hl : ns.length = n := by have := h.1; rw [cellsOf_length] at this; omega
    have := h.cellAt i (by omega)
    rw [Nat.zero_add, this]
    simp [cellsOf, List.getD, List.getElem?_eq_getElem (show i < ns.length by omega)]

theorem len_chan {W : World} {c : Nat} {buf : Array Value} {s : Nat} (hc : W.heap[c]? = some (.chan 1 buf false s 0 false)) (ty : TypeId) : (Builtin.len_ #[45] ty #[.chan (some c)]).run Ybgu.prog W = .ok (.int .i64 buf.size) W :=
  run_len_chan 45 ty Ybgu.underlying45 hc

/-- A struct boxed and stored into its new block. -/
theorem kept_new (W : World) (o : Obj) (a b : Value) : Kept (fun _ => False) W (((W.alloc o).setCell ⟨W.heap.size, 0, none⟩ a).setCell ⟨W.heap.size, 1, none⟩ b) :=
  ((Kept.alloc o).after (Kept.setCell (S := fun k => k = W.heap.size) rfl) (fun k hk e => by omega)).after (Kept.setCell (S := fun k => k = W.heap.size) rfl) (fun k hk e => by omega)

theorem map_fst_set (hs : List (Int × Int)) (i : Nat) (p : Int × Int) (e : Int) (h : hs[i]? = some p) : (hs.set i (p.1, e)).map Prod.fst = hs.map Prod.fst := by
  rw [List.map_set]
  apply List.ext_getElem?
  intro j
  by_cases hj : i = j
  · subst hj
    obtain ⟨hi, rfl⟩ := List.getElem?_eq_some_iff.1 h
    simp [hi]
  · simp [hj]
theorem map_snd_set (hs : List (Int × Int)) (i : Nat) (p : Int × Int) (e : Int) : (hs.set i (p.1, e)).map Prod.snd = (hs.map Prod.snd).set i e := by rw [List.map_set]
theorem bd_set {hs : List (Int × Int)} {i : Nat} {p : Int × Int} (e : Int) (hi : hs[i]? = some p) (hd : ∀ p ∈ hs, -32768 ≤ p.1 ∧ p.1 ≤ 32767) : ∀ q ∈ hs.set i (p.1, e), -32768 ≤ q.1 ∧ q.1 ≤ 32767 := by
  intro q hq
  rcases List.mem_or_eq_of_mem_set hq with h | rfl
  · exact hd q h
  · exact hd p (List.mem_of_getElem? hi)
theorem bd_snoc {hs : List (Int × Int)} {d : Int} (e : Int) (h0 : -32768 ≤ d) (h1 : d ≤ 32767) (hd : ∀ p ∈ hs, -32768 ≤ p.1 ∧ p.1 ≤ 32767) : ∀ q ∈ hs ++ [(d, e)], -32768 ≤ q.1 ∧ q.1 ≤ 32767 := by
  intro q hq
  rcases List.mem_append.1 hq with h | h
  · exact hd q h
  · simp at h; subst h; exact ⟨h0, h1⟩

theorem PS.cell_away {w0 : World} {lb c B : Nat} {p0 i0 : Value} {W : World} {mu : Int} {cn pend items : Value} {base : Int} {buf : Array Value} {bs : List Int} {hs : List (Int × Int)} (h : PS w0 lb c B p0 i0 W mu cn pend items base buf bs hs)
    (b j : Nat) (hB : B ≤ b) (hb : b < w0.heap.size) (hp : p0.ownBlock ≠ some b) (hi : i0.ownBlock ≠ some b) : W.cell? ⟨b, j, none⟩ = w0.cell? ⟨b, j, none⟩ := by
  have hl := h.lt
  have hc := h.clt
  refine h.kept.cell ⟨b, j, none⟩ hb ?_
  rintro (e | e | e | e)
  · simp at e; omega
  · simp at e; omega
  · exact hp e.symm
  · exact hi e.symm

section
variable {w W W' : World} {pend items want dues ends : Value} {base : Int} {buf : Array Value} {bs : List Int} {hs : List (Int × Int)} {ws ds es : List Int}
theorem LS.src (h : LS w W pend items want dues ends base buf bs hs ws ds es) {af : Option Addr} {m cf : Nat} {ms : List Int}
    (x : (af = none ∧ m = 0 ∧ cf = 0) ∨ ∃ ad, af = some ad ∧ ∀ j u, (cellsOf ms)[j]? = some u → w.cell? (ad.add j) = some u) :
    (af = none ∧ m = 0 ∧ cf = 0) ∨ ∃ ad, af = some ad ∧ ∀ j u, (cellsOf ms)[j]? = some u → (ad.add j).block ≠ w.heap.size + 2 ∧ W.cell? (ad.add j) = some u := by
  rcases x with x | ⟨ad, e, x⟩
  · exact .inl x
  · refine .inr ⟨ad, e, fun j u hu => ?_⟩
    have hlt := World.block_lt_of_cell? _ _ (x j u hu)
    exact ⟨by omega, (h.kept.cell _ hlt (by omega)).trans (x j u hu)⟩
/-- No row lies in the block that comes next. -/
theorem LS.next (h : LS w W pend items want dues ends base buf bs hs ws ds es) : w.heap.size + 3 ≤ W.heap.size ∧ pend.ownBlock ≠ some W.heap.size ∧ items.ownBlock ≠ some W.heap.size ∧ want.ownBlock ≠ some W.heap.size :=
  ⟨h.ps.size, fun e => Nat.lt_irrefl _ (h.ps.pown.lt _ e).2, fun e => Nat.lt_irrefl _ (h.ps.hown.lt _ e).2, fun e => Nat.lt_irrefl _ (h.wown.lt _ e).2⟩
end

section
variable {w W W' : World} {pend items want dues ends : Value} {base : Int} {buf : Array Value} {bs : List Int} {hs : List (Int × Int)} {ws ds es : List Int}
theorem LS.dues_cell {ad : Option Addr} {n cd : Nat} (h : LS w W pend items want (.slice ad n cd) ends base buf bs hs ws ds es) (hn : ds.length = n) {i : Nat} {x : Int} (hx : ds[i]? = some x) : ∃ g, ad = some ⟨g, 0, none⟩ ∧ W.cell? ⟨g, i, none⟩ = some (.int .i64 x) := by
  have hi : i < n := by rw [← hn]; exact (List.getElem?_eq_some_iff.1 hx).1
  have ho := h.down
  rw [hn] at ho
  obtain ⟨g, c, hv, _, _⟩ := ho.form (by omega)
  simp only [Value.slice.injEq] at hv
  obtain ⟨rfl, _, rfl⟩ := hv
  refine ⟨g, rfl, (ho.cellAt i (by omega)).trans ?_⟩
  simp [ints, hx]
theorem LS.ends_cell {ae : Option Addr} {n ce : Nat} (h : LS w W pend items want dues (.slice ae n ce) base buf bs hs ws ds es) (hn : es.length = n) {i : Nat} {x : Int} (hx : es[i]? = some x) : ∃ g, ae = some ⟨g, 0, none⟩ ∧ W.cell? ⟨g, i, none⟩ = some (.int .i64 x) ∧ W.frozen? ⟨g, i, none⟩ = false := by
  have hi : i < n := by rw [← hn]; exact (List.getElem?_eq_some_iff.1 hx).1
  have ho := h.eown
  rw [hn] at ho
  obtain ⟨g, c, hv, _, _⟩ := ho.form (by omega)
  simp only [Value.slice.injEq] at hv
  obtain ⟨rfl, _, rfl⟩ := hv
  refine ⟨g, rfl, (ho.cellAt i (by omega)).trans ?_, ho.frozenAt i⟩
  simp [ints, hx]

theorem LI.pushed {pre : Bool} {k n N : Nat} {ms : List Int} {d e : Int} (h : LS w W pend items want dues ends base #[.agg #[]] (bs ++ ms) (nexth hs d (base + ((bs.length : Int) + (ms.length : Int)))) (bs ++ ms) (hs.map Prod.fst ++ [d]) (hs.map Prod.snd ++ [e]))
    (he : e = base + ((bs.length : Int) + (ms.length : Int))) (hx : ∀ e, nexth hs d e = hs ++ [(d, e)]) (hn : hs.length = n) (hN : bs.length + ms.length = N) (d0 : -32768 ≤ d) (d1 : d ≤ 32767) (hd : ∀ p ∈ hs, -32768 ≤ p.1 ∧ p.1 ≤ 32767) : LI w W pre base (k + 1) (n + 1) N want dues ends := by
  subst he
  rw [hx] at h
  refine ⟨pend, items, _, bs ++ ms, hs ++ [(d, base + ((bs.length : Int) + (ms.length : Int)))], ?_, by simp [hn], by simp [hN], bd_snoc _ d0 d1 hd, .inr ⟨rfl, .inl (by omega)⟩⟩
  rw [List.map_append, List.map_append]
  exact h
theorem LI.merged {pre : Bool} {k n N i : Nat} {ms : List Int} {d e : Int} {p : Int × Int} (h : LS w W pend items want dues ends base #[.agg #[]] (bs ++ ms) (nexth hs d (base + ((bs.length : Int) + (ms.length : Int)))) (bs ++ ms) (hs.map Prod.fst) ((hs.map Prod.snd).set i e))
    (he : e = base + ((bs.length : Int) + (ms.length : Int))) (hx : ∀ e, nexth hs d e = hs.set i (p.1, e)) (hp : hs[i]? = some p) (hn : hs.length = n) (hN : bs.length + ms.length = N) (hd : ∀ p ∈ hs, -32768 ≤ p.1 ∧ p.1 ≤ 32767) : LI w W pre base (k + 1) n N want dues ends := by
  subst he
  rw [hx] at h
  refine ⟨pend, items, _, bs ++ ms, hs.set i (p.1, base + ((bs.length : Int) + (ms.length : Int))), ?_, by simp [hn], by simp [hN], bd_set _ hp hd, .inr ⟨rfl, .inl (by omega)⟩⟩
  rw [map_fst_set hs i p _ hp, map_snd_set]
  exact h
end

theorem neq_conn (a : Addr) (W : World) : (binOp .neq 28 (.pointer (some a)) (.pointer (some a))).run Ybgu.prog W = .ok (.bool false) W := by
  have h : (Ybgu.prog.info? 53).isSome = true := by kernel_rfl
  obtain ⟨j, hj⟩ := Option.isSome_iff_exists.1 h
  exact Lib.run_neq_ptr_same W a Ybgu.underlying28 hj
end Go.Proofs.Yboneinjo
