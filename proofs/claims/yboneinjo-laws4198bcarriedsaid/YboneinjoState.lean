/- The law's own state in memory: the link, and beside it the three rows that the law itself keeps. Worlds and lists alone, no walk but 'append'. -/
import Derived.Test.YboneinjoPut
namespace Go.Proofs.Yboneinjo
open Go.RowKit Go.Conc

def ints (ns : List Int) : List Value := ns.map fun n => .int .i64 n
theorem ints_length (ns : List Int) : (ints ns).length = ns.length := by simp [ints]

theorem Apart.symm {a b : Value} (h : Apart a b) : Apart b a := fun g hb ha => h g ha hb
theorem Apart.nil (v : Value) : Apart (.slice none 0 0) v := fun g h => by simp [Value.ownBlock] at h
/-- A row that lies where it lay, or in a new block. -/
theorem Apart.new {v v' u : Value} {N : Nat} (h : Apart v u) (hat : ∀ g, v'.ownBlock = some g → v.ownBlock = some g ∨ N ≤ g) (hu : ∀ g, u.ownBlock = some g → g < N) : Apart v' u := fun g hg hg' => by
  rcases hat g hg with x | x
  · exact h g x hg'
  · have := hu g hg'; omega

section
variable {w0 : World} {lb c B : Nat} {p0 i0 : Value} {W W' : World} {mu : Int} {cn pend items : Value} {base : Int} {buf : Array Value} {bs : List Int} {hs : List (Int × Int)}
theorem PS.away {S : Nat → Prop} (h : PS w0 lb c B p0 i0 W mu cn pend items base buf bs hs) (k : Kept S W W') (hl : ¬ S lb) (hc : ¬ S c) (hp : ∀ g, pend.ownBlock = some g → ¬ S g) (hi : ∀ g, items.ownBlock = some g → ¬ S g) :
    PS W' lb c B pend items W' mu cn pend items base buf bs hs := by
  have hlt := h.lt
  have hct := h.clt
  have hz := h.size
  have cc : ∀ j, W'.cell? ⟨lb, j, none⟩ = W.cell? ⟨lb, j, none⟩ := fun j => k.cell ⟨lb, j, none⟩ (by simp; omega) hl
  obtain ⟨s, hch⟩ := h.chan
  exact ⟨hlt, hct, h.ne, (cc 0).trans h.h0, (cc 2).trans h.h2, (cc 3).trans h.h3, (cc 4).trans h.h4, (cc 5).trans h.h5, (cc 7).trans h.h7, (cc 8).trans h.h8, fun j => (k.frozen ⟨lb, j, none⟩ (by simp; omega) hl).trans (h.fz j),
    ⟨s, (k.block _ (by omega) hc).trans hch⟩, own_kept h.pown k hp, own_kept h.hown k hi, h.apart, Nat.le_trans hz k.size, Kept.refl _ _, fun _ x => .inl x, fun _ x => .inl x⟩
end

structure LS (w W : World) (pend items want dues ends : Value) (base : Int) (buf : Array Value) (bs : List Int) (hs : List (Int × Int)) (ws ds es : List Int) : Prop where
  ps : PS W (w.heap.size + 2) (w.heap.size + 1) (w.heap.size + 3) pend items W 0 (.pointer (some ⟨w.heap.size, 0, none⟩)) pend items base buf bs hs
  wown : W.ownsRow (w.heap.size + 3) 5 1 want ws.length (cellsOf ws)
  down : W.ownsRow (w.heap.size + 3) 2 1 dues ds.length (ints ds)
  eown : W.ownsRow (w.heap.size + 3) 3 1 ends es.length (ints es)
  pw : Apart pend want
  pd : Apart pend dues
  pe : Apart pend ends
  iw : Apart items want
  id : Apart items dues
  ie : Apart items ends
  wd : Apart want dues
  we : Apart want ends
  de : Apart dues ends
  kept : Kept (fun k => w.heap.size ≤ k) w W

section
variable {w W W' : World} {pend items want dues ends : Value} {base : Int} {buf : Array Value} {bs : List Int} {hs : List (Int × Int)} {ws ds es : List Int}

theorem LS.on (h : LS w W pend items want dues ends base buf bs hs ws ds es) (k : Kept (fun _ => False) W W') : LS w W' pend items want dues ends base buf bs hs ws ds es :=
  ⟨h.ps.away k (fun x => x) (fun x => x) (fun _ _ x => x) (fun _ _ x => x), own_kept h.wown k (fun _ _ x => x), own_kept h.down k (fun _ _ x => x), own_kept h.eown k (fun _ _ x => x), h.pw, h.pd, h.pe, h.iw, h.id, h.ie, h.wd, h.we, h.de,
    h.kept.after k (fun _ _ x => x.elim)⟩

/-- The link has been worked on. -/
theorem LS.put {pend' items' : Value} {buf' : Array Value} {bs' : List Int} {hs' : List (Int × Int)} (h : LS w W pend items want dues ends base buf bs hs ws ds es)
    (p : PS W (w.heap.size + 2) (w.heap.size + 1) (w.heap.size + 3) pend items W' 0 (.pointer (some ⟨w.heap.size, 0, none⟩)) pend' items' base buf' bs' hs') : LS w W' pend' items' want dues ends base buf' bs' hs' ws ds es := by
  have k := p.kept
  have hw := h.wown.lt
  have hd := h.down.lt
  have he := h.eown.lt
  have hp := h.ps.pown.lt
  have hi := h.ps.hown.lt
  have sz := h.ps.size
  refine ⟨p.away (Kept.refl (fun _ => False) _) (fun x => x) (fun x => x) (fun _ _ x => x) (fun _ _ x => x), own_kept h.wown k ?_, own_kept h.down k ?_, own_kept h.eown k ?_,
    h.pw.new p.pb (fun g x => (hw g x).2), h.pd.new p.pb (fun g x => (hd g x).2), h.pe.new p.pb (fun g x => (he g x).2), h.iw.new p.ib (fun g x => (hw g x).2), h.id.new p.ib (fun g x => (hd g x).2), h.ie.new p.ib (fun g x => (he g x).2), h.wd, h.we, h.de, h.kept.after k ?_⟩
  · rintro g hg (x | x | x | x)
    · have := (hw g hg).1; omega
    · have := (hw g hg).1; omega
    · exact h.pw g x.symm hg
    · exact h.iw g x.symm hg
  · rintro g hg (x | x | x | x)
    · have := (hd g hg).1; omega
    · have := (hd g hg).1; omega
    · exact h.pd g x.symm hg
    · exact h.id g x.symm hg
  · rintro g hg (x | x | x | x)
    · have := (he g hg).1; omega
    · have := (he g hg).1; omega
    · exact h.pe g x.symm hg
    · exact h.ie g x.symm hg
  · rintro g _ (x | x | x | x)
    · omega
    · omega
    · have := (hp g x.symm).1; omega
    · have := (hi g x.symm).1; omega

/-- The row 'want' has turned. -/
theorem LS.row_want {want' : Value} {ws' : List Int} (h : LS w W pend items want dues ends base buf bs hs ws ds es) (k : Kept (fun k => some k = want.ownBlock) W W')
    (hown : W'.ownsRow (w.heap.size + 3) 5 1 want' ws'.length (cellsOf ws')) (hat : ∀ g, want'.ownBlock = some g → want.ownBlock = some g ∨ W.heap.size ≤ g) : LS w W' pend items want' dues ends base buf bs hs ws' ds es := by
  have hw := h.wown.lt
  have hd := h.down.lt
  have he := h.eown.lt
  have hp := h.ps.pown.lt
  have hi := h.ps.hown.lt
  have sz := h.ps.size
  exact ⟨h.ps.away k (fun e => by have := (hw _ e.symm).1; omega) (fun e => by have := (hw _ e.symm).1; omega) (fun g hg e => h.pw g hg e.symm) (fun g hg e => h.iw g hg e.symm),
    hown, own_kept h.down k (fun g hg e => h.wd g e.symm hg), own_kept h.eown k (fun g hg e => h.we g e.symm hg),
    (h.pw.symm.new hat (fun g x => (hp g x).2)).symm, h.pd, h.pe, (h.iw.symm.new hat (fun g x => (hi g x).2)).symm, h.id, h.ie,
    (h.wd.new hat (fun g x => (hd g x).2)), (h.we.new hat (fun g x => (he g x).2)), h.de,
    h.kept.after k (fun g _ e => by have := (hw g e.symm).1; omega)⟩

/-- The row 'dues' has turned. -/
theorem LS.row_dues {dues' : Value} {ds' : List Int} (h : LS w W pend items want dues ends base buf bs hs ws ds es) (k : Kept (fun k => some k = dues.ownBlock) W W')
    (hown : W'.ownsRow (w.heap.size + 3) 2 1 dues' ds'.length (ints ds')) (hat : ∀ g, dues'.ownBlock = some g → dues.ownBlock = some g ∨ W.heap.size ≤ g) : LS w W' pend items want dues' ends base buf bs hs ws ds' es := by
  have hw := h.wown.lt
  have hd := h.down.lt
  have he := h.eown.lt
  have hp := h.ps.pown.lt
  have hi := h.ps.hown.lt
  have sz := h.ps.size
  exact ⟨h.ps.away k (fun e => by have := (hd _ e.symm).1; omega) (fun e => by have := (hd _ e.symm).1; omega) (fun g hg e => h.pd g hg e.symm) (fun g hg e => h.id g hg e.symm),
    own_kept h.wown k (fun g hg e => h.wd.symm g e.symm hg), hown, own_kept h.eown k (fun g hg e => h.de g e.symm hg),
    h.pw, (h.pd.symm.new hat (fun g x => (hp g x).2)).symm, h.pe, h.iw, (h.id.symm.new hat (fun g x => (hi g x).2)).symm, h.ie,
    (h.wd.symm.new hat (fun g x => (hw g x).2)).symm, h.we, (h.de.new hat (fun g x => (he g x).2)),
    h.kept.after k (fun g _ e => by have := (hd g e.symm).1; omega)⟩

/-- The row 'ends' has turned. -/
theorem LS.row_ends {ends' : Value} {es' : List Int} (h : LS w W pend items want dues ends base buf bs hs ws ds es) (k : Kept (fun k => some k = ends.ownBlock) W W')
    (hown : W'.ownsRow (w.heap.size + 3) 3 1 ends' es'.length (ints es')) (hat : ∀ g, ends'.ownBlock = some g → ends.ownBlock = some g ∨ W.heap.size ≤ g) : LS w W' pend items want dues ends' base buf bs hs ws ds es' := by
  have hw := h.wown.lt
  have hd := h.down.lt
  have he := h.eown.lt
  have hp := h.ps.pown.lt
  have hi := h.ps.hown.lt
  have sz := h.ps.size
  exact ⟨h.ps.away k (fun e => by have := (he _ e.symm).1; omega) (fun e => by have := (he _ e.symm).1; omega) (fun g hg e => h.pe g hg e.symm) (fun g hg e => h.ie g hg e.symm),
    own_kept h.wown k (fun g hg e => h.we.symm g e.symm hg), own_kept h.down k (fun g hg e => h.de.symm g e.symm hg), hown,
    h.pw, h.pd, (h.pe.symm.new hat (fun g x => (hp g x).2)).symm, h.iw, h.id, (h.ie.symm.new hat (fun g x => (hi g x).2)).symm,
    h.wd, (h.we.symm.new hat (fun g x => (hw g x).2)).symm, (h.de.symm.new hat (fun g x => (hd g x).2)).symm,
    h.kept.after k (fun g _ e => by have := (he g e.symm).1; omega)⟩
end
theorem info2 : ∃ i, Ybgu.prog.info? 2 = some i ∧ i.zero = some (.int .i64 0) ∧ i.size = 1 ∧ i.bytes = 8 := by
  have h : (Ybgu.prog.info? 2).map (fun i => (i.zero, i.size, i.bytes)) = some (some (.int .i64 0), 1, 8) := by kernel_rfl
  obtain ⟨i, hi, hb⟩ := Option.map_eq_some_iff.1 h
  simp only [Prod.mk.injEq] at hb
  exact ⟨i, hi, hb.1, hb.2.1, hb.2.2⟩
theorem info3 : ∃ i, Ybgu.prog.info? 3 = some i ∧ i.zero = some (.int .i64 0) ∧ i.size = 1 ∧ i.bytes = 8 := by
  have h : (Ybgu.prog.info? 3).map (fun i => (i.zero, i.size, i.bytes)) = some (some (.int .i64 0), 1, 8) := by kernel_rfl
  obtain ⟨i, hi, hb⟩ := Option.map_eq_some_iff.1 h
  simp only [Prod.mk.injEq] at hb
  exact ⟨i, hi, hb.1, hb.2.1, hb.2.2⟩
theorem ints_one (ns : List Int) : ∀ u ∈ ints ns, u.oneCell' = true := by
  intro u hu
  obtain ⟨_, _, rfl⟩ := List.mem_map.1 hu
  rfl
section
variable {w W : World} {pend items want dues ends : Value} {base : Int} {buf : Array Value} {bs : List Int} {hs : List (Int × Int)} {ws ds es : List Int}

/-- dues = append(dues, d) -/
theorem LS.append_dues {av : Option Addr} {n cv : Nat} (h : LS w W pend items want (.slice av n cv) ends base buf bs hs ws ds es) (hn : ds.length = n) (hb : n ≤ 1000000) (d : Int) {ops : Array Oper} {rest : List Oper} {o : Oper} {a : Act} {Q : Exit → Act → World → Prop}
    (hgd : o.guard = none) (s x : Operand) (ho : o.op = .call { callee := .builtin .append, args := #[s, x], argTypes := #[60, 60] }) (hs' : a.eval s = .slice av n cv) (hx : a.eval x = .slice (some ⟨W.heap.size, 0, none⟩) 1 1)
    (k : ∀ a' c' W', LS w W' pend items want (.slice a' (n + 1) c') ends base buf bs hs ws (ds ++ [d]) es → wpList Ybgu.prog ops Q rest (a.put o.dst (.slice a' (n + 1) c')) W') : wpList Ybgu.prog ops Q (o :: rest) a (W.alloc (.cells #[.int .i64 d] 2)) := by
  obtain ⟨i, hi, hz, hsz, hby⟩ := info2
  have h' := h.on (Kept.alloc (.cells #[.int .i64 d] 2))
  have ho' := h'.down
  rw [hn] at ho'
  refine wpList_append_src _ hgd s x 60 ho (w.heap.size + 3) 2 i _ 1 8 Ybgu.underlying60 hi hz hsz hby rfl (by omega) (.slice av n cv) n (ints ds) hs' ho' (some ⟨W.heap.size, 0, none⟩) 1 1 [.int .i64 d] hx rfl
    (.inr ⟨_, rfl, World.news_of_block (cs := #[.int .i64 d]) (heap_alloc_new W _)⟩) (by simp [Value.oneCell']) (by unfold maxLen; omega) (by omega) h'.ps.size ?_
  intro a' c' W' hown hgrow hat
  refine k a' c' W' (h'.row_dues (Kept.of_grown hgrow) ?_ ?_)
  · rw [List.length_append, hn, show ints (ds ++ [d]) = ints ds ++ [.int .i64 d] by simp [ints]]; exact hown
  · intro g hg
    rcases hat with e | e
    · exact .inl (e ▸ hg)
    · rw [hg] at e; simp at e; right; simp; omega

/-- ends = append(ends, d) -/
theorem LS.append_ends {av : Option Addr} {n cv : Nat} (h : LS w W pend items want dues (.slice av n cv) base buf bs hs ws ds es) (hn : es.length = n) (hb : n ≤ 1000000) (d : Int) {ops : Array Oper} {rest : List Oper} {o : Oper} {a : Act} {Q : Exit → Act → World → Prop}
    (hgd : o.guard = none) (s x : Operand) (ho : o.op = .call { callee := .builtin .append, args := #[s, x], argTypes := #[48, 48] }) (hs' : a.eval s = .slice av n cv) (hx : a.eval x = .slice (some ⟨W.heap.size, 0, none⟩) 1 1)
    (k : ∀ a' c' W', LS w W' pend items want dues (.slice a' (n + 1) c') base buf bs hs ws ds (es ++ [d]) → wpList Ybgu.prog ops Q rest (a.put o.dst (.slice a' (n + 1) c')) W') : wpList Ybgu.prog ops Q (o :: rest) a (W.alloc (.cells #[.int .i64 d] 3)) := by
  obtain ⟨i, hi, hz, hsz, hby⟩ := info3
  have h' := h.on (Kept.alloc (.cells #[.int .i64 d] 3))
  have ho' := h'.eown
  rw [hn] at ho'
  refine wpList_append_src _ hgd s x 48 ho (w.heap.size + 3) 3 i _ 1 8 Ybgu.underlying48 hi hz hsz hby rfl (by omega) (.slice av n cv) n (ints es) hs' ho' (some ⟨W.heap.size, 0, none⟩) 1 1 [.int .i64 d] hx rfl
    (.inr ⟨_, rfl, World.news_of_block (cs := #[.int .i64 d]) (heap_alloc_new W _)⟩) (by simp [Value.oneCell']) (by unfold maxLen; omega) (by omega) h'.ps.size ?_
  intro a' c' W' hown hgrow hat
  refine k a' c' W' (h'.row_ends (Kept.of_grown hgrow) ?_ ?_)
  · rw [List.length_append, hn, show ints (es ++ [d]) = ints es ++ [.int .i64 d] by simp [ints]]; exact hown
  · intro g hg
    rcases hat with e | e
    · exact .inl (e ▸ hg)
    · rw [hg] at e; simp at e; right; simp; omega

/-- want = append(want, frame...) -/
theorem LS.append_want {av : Option Addr} {n cv N : Nat} (h : LS w W pend items (.slice av n cv) dues ends base buf bs hs ws ds es) (hn : ws.length = n) (src : Option Addr) (m c : Nat) (ms : List Int) (hm : ms.length = m) (hN : n + m = N) (hb : N ≤ 1000000)
    (hsrc : (src = none ∧ m = 0 ∧ c = 0) ∨ ∃ ad, src = some ad ∧ ∀ j u, (cellsOf ms)[j]? = some u → w.cell? (ad.add j) = some u) {ops : Array Oper} {rest : List Oper} {o : Oper} {a : Act} {Q : Exit → Act → World → Prop}
    (hgd : o.guard = none) (s x : Operand) (ho : o.op = .call { callee := .builtin .append, args := #[s, x], argTypes := #[22, 22] }) (hs' : a.eval s = .slice av n cv) (hx : a.eval x = .slice src m c)
    (k : ∀ a' c' W', Kept (fun k => some k = (Value.slice av n cv).ownBlock) W W' → LS w W' pend items (.slice a' N c') dues ends base buf bs hs (ws ++ ms) ds es → wpList Ybgu.prog ops Q rest (a.put o.dst (.slice a' N c')) W') : wpList Ybgu.prog ops Q (o :: rest) a W := by
  obtain ⟨i, hi, hz, hsz, hby⟩ := info5
  subst hN
  have ho' := h.wown
  rw [hn] at ho'
  refine wpList_append_src _ hgd s x 22 ho (w.heap.size + 3) 5 i _ 1 1 Ybgu.underlying22 hi hz hsz hby rfl (by omega) (.slice av n cv) n (cellsOf ws) hs' ho' src m c (cellsOf ms) hx (by rw [cellsOf_length, hm, Nat.mul_one])
    ?_ (cellsOf_one ms) (by unfold maxLen; omega) (by omega) h.ps.size ?_
  · rcases hsrc with y | ⟨ad, e, y⟩
    · exact .inl y
    · exact .inr ⟨ad, e, fun j u hu => (h.kept.cell _ (World.block_lt_of_cell? _ _ (y j u hu)) (by have := World.block_lt_of_cell? _ _ (y j u hu); omega)).trans (y j u hu)⟩
  intro a' c' W' hown hgrow hat
  refine k a' c' W' (Kept.of_grown hgrow) (h.row_want (Kept.of_grown hgrow) ?_ ?_)
  · rw [List.length_append, hn, hm, cellsOf_append]; exact hown
  · intro g hg
    rcases hat with e | e
    · exact .inl (e ▸ hg)
    · rw [hg] at e; simp at e; right; omega

/-- ends[i] = e -/
theorem LS.ends_set {g n cv i : Nat} (h : LS w W pend items want dues (.slice (some ⟨g, 0, none⟩) n cv) base buf bs hs ws ds es) (hn : es.length = n) (e : Int) :
    LS w (W.setCell ⟨g, i, none⟩ (.int .i64 e)) pend items want dues (.slice (some ⟨g, 0, none⟩) n cv) base buf bs hs ws ds (es.set i e) := by
  have ho := h.eown
  rw [hn] at ho
  obtain ⟨h1, h2⟩ := ho.stored i (.int .i64 e)
  refine h.row_ends (Kept.setCell (by simp [Value.ownBlock])) ?_ (fun g hg => .inl hg)
  rw [List.length_set, hn, show ints (es.set i e) = (ints es).set i (.int .i64 e) by simp [ints, List.map_set]]
  exact h1
end
end Go.Proofs.Yboneinjo
