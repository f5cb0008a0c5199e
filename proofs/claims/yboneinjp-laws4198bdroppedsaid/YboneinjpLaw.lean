import Derived.Test.YboneinjpStage
namespace Go.Proofs.Yboneinjp
open Go.RowKit Go.MuLone Go.Conc

theorem kept2 (w : World) (o1 o2 : Obj) : Kept (fun _ => False) w ((w.alloc o1).alloc o2) := (Kept.alloc _).trans (Kept.alloc _)

def link0 (w : World) (base : Int) : World := (w.alloc (.chan 1 #[] false 0 0 false)).alloc (.cells #[.int .i32 0, .int .u32 0, .pointer none, .slice none 0 0, .slice none 0 0, .int .i64 0, .int .i64 0, .int .i64 base, .chan (some w.heap.size)] 39)
theorem link0_chan (w : World) (base : Int) : (link0 w base).heap[w.heap.size]? = some (.chan 1 #[] false 0 0 false) := by
  unfold link0
  rw [Below.heap_alloc _ _ _ (by simp)]
  exact heap_alloc_new w _
theorem link0_size (w : World) (base : Int) : (link0 w base).heap.size = w.heap.size + 2 := by simp [link0]

/-- The link is made, its first bytes are laid. -/
theorem stage_start (w w1 : World) (a' : Option Addr) (len0 c' : Nat) (base : Int) (ns : List Int) (hns : ns.length = len0) (hown : w1.ownsRow (w.heap.size + 2) 5 1 (.slice a' len0 c') len0 (cellsOf ns))
    (hgrow : (link0 w base).grownBy w1 none) : Stage w (w1.setCell ⟨w.heap.size + 1, 3, none⟩ (.slice a' len0 c')) (.slice a' len0 c') (.slice none 0 0) base ns #[] 0 [] := by
  have hk1 : Kept (fun _ => False) (link0 w base) w1 := (Kept.of_grown hgrow).mono (fun k _ e => by simp at e)
  have hl := link0_size w base
  have hc : ∀ j v, (link0 w base).cell? ⟨w.heap.size + 1, j, none⟩ = some v → w1.cell? ⟨w.heap.size + 1, j, none⟩ = some v := fun j v h => (hk1.cell ⟨w.heap.size + 1, j, none⟩ (by simp; omega) (fun x => x)).trans h
  have hf : ∀ j, w1.frozen? ⟨w.heap.size + 1, j, none⟩ = false := fun j => (hk1.frozen ⟨w.heap.size + 1, j, none⟩ (by simp; omega) (fun x => x)).trans (by simp [link0, go_sem])
  have hset : ∀ j v, j ≠ 3 → w1.cell? ⟨w.heap.size + 1, j, none⟩ = some v → (w1.setCell ⟨w.heap.size + 1, 3, none⟩ (.slice a' len0 c')).cell? ⟨w.heap.size + 1, j, none⟩ = some v := fun j v hj h => by
    rw [World.cell?_setCell_other _ _ _ _ (fun e => hj (by cases e; rfl))]; exact h
  have hks : Kept (fun k => k = w.heap.size + 1) w1 (w1.setCell ⟨w.heap.size + 1, 3, none⟩ (.slice a' len0 c')) := Kept.setCell rfl
  have hsz := hk1.size
  refine ⟨hset 0 _ (by omega) (hc 0 _ (by simp [link0, go_sem])), hset 2 _ (by omega) (hc 2 _ (by simp [link0, go_sem])), World.cell?_setCell_same _ _ _ (hc 3 (.slice none 0 0) (by simp [link0, go_sem])), hset 4 _ (by omega) (hc 4 _ (by simp [link0, go_sem])), hset 5 _ (by omega) (hc 5 _ (by simp [link0, go_sem])), hset 7 _ (by omega) (hc 7 _ (by simp [link0, go_sem])), hset 8 _ (by omega) (hc 8 _ (by simp [link0, go_sem])),
    fun j => by rw [World.frozen?_setCell]; exact hf j, ⟨0, ?_⟩, ?_, ?_, World.ownsRow_nil _ _ _ _, fun g _ => by simp [Value.ownBlock], ?_⟩
  · rw [hks.block _ (by omega) (by omega), hk1.block _ (by omega) (fun x => x)]
    exact link0_chan w base
  · exact (((kept2 w _ _).mono (fun _ _ x => x.elim)).after hk1 (fun _ _ x => x.elim)).after hks (fun k hk e => by omega)
  · rw [hns]
    exact own_kept hown hks (fun g hg e => by have := (hown.lt g hg).1; omega)
  · have := hks.size; omega

theorem kept4 (W : World) (a b c d : Obj) : Kept (fun _ => False) W ((((W.alloc a).alloc b).alloc c).alloc d).drew := ((((Kept.alloc _).trans (Kept.alloc _)).trans (Kept.alloc _)).trans (Kept.alloc _)).trans Kept.drew
theorem lit4 (W : World) (a b c d : Obj) : ((((W.alloc a).alloc b).alloc c).alloc d).drew.heap[W.heap.size + 1 + 1 + 1]? = some d := by
  have h : ((((W.alloc a).alloc b).alloc c).alloc d).heap[W.heap.size + 1 + 1 + 1]? = some d := by
    have := heap_alloc_new (((W.alloc a).alloc b).alloc c) d
    simpa only [World.size_alloc] using this
  exact h

/-- Push at a stage. -/
theorem push_stage {w W : World} {pend items : Value} {base : Int} {ns : List Int} {buf : Array Value} {n : Nat} {hs : List Value} (hst : Stage w W pend items base ns buf n hs) {bv : Nat} {cs : Array Value} (hbv : W.heap[bv]? = some (.cells cs 46)) (hcs : cs.size = 4)
    (h1 : ∀ u ∈ cs.toList, u.oneCell' = true) (hn : n ≤ 1000000) (hne : bv ≠ w.heap.size + 1) :
    Calls Ybgv.prog 4 #[.pointer (some ⟨w.heap.size + 1, 4, none⟩), .slice (some ⟨bv, 0, none⟩) 1 1] W fun e W' => e = .returned (.tuple #[]) ∧ ∃ g cap, Stage w W' pend (.slice (some ⟨g, 0, none⟩) (n + 1) cap) base ns buf (n + 1) (hs ++ cs.toList) := by
  refine (push_any (w.heap.size + 2) (w.heap.size + 1) 4 n bv items hs cs.toList W hst.h4 (hst.fz 4) hst.hown (by omega) hst.size (by simpa using hcs) (World.news_of_block hbv) h1 hn hne).mono ?_
  rintro e W' ⟨rfl, hp⟩
  exact ⟨rfl, hst.pushed hp⟩

/-- A call that turns the wake channel alone, and leaves the link's cells as they were. -/
theorem Stage.waked {w W W' : World} {pend items : Value} {base : Int} {ns : List Int} {buf buf' : Array Value} {n : Nat} {hs : List Value} (h : Stage w W pend items base ns buf n hs)
    (hch : ∃ s', W'.heap[w.heap.size]? = some (.chan 1 buf' false s' 0 false)) (c : ∀ j, W'.cell? ⟨w.heap.size + 1, j, none⟩ = W.cell? ⟨w.heap.size + 1, j, none⟩) (f : ∀ j, W'.frozen? ⟨w.heap.size + 1, j, none⟩ = W.frozen? ⟨w.heap.size + 1, j, none⟩)
    (k : Kept (fun k => k = w.heap.size + 1 ∨ k = w.heap.size) W W') : Stage w W' pend items base ns buf' n hs := by
  have hp := h.pown.lt
  have hi := h.hown.lt
  exact ⟨(c 0).trans h.h0, (c 2).trans h.h2, (c 3).trans h.h3, (c 4).trans h.h4, (c 5).trans h.h5, (c 7).trans h.h7, (c 8).trans h.h8, fun j => (f j).trans (h.fz j),
    hch, h.kept.after k (fun k _ x => by omega), own_kept h.pown k (fun g hg x => by have := (hp g hg).1; omega), own_kept h.hown k (fun g hg x => by have := (hi g hg).1; omega), h.apart, Nat.le_trans h.size k.size⟩

theorem Stage.sent {w W : World} {pend items : Value} {base : Int} {ns : List Int} {n : Nat} {hs : List Value} (h : Stage w W pend items base ns #[] n hs) (s : Nat) : Stage w (W.setChan w.heap.size 1 #[.agg #[]] false (s + 1) 0 false) pend items base ns #[.agg #[]] n hs := by
  have hz := h.size
  have kc : Kept (fun k => k = w.heap.size) W (W.setChan w.heap.size 1 #[.agg #[]] false (s + 1) 0 false) := Kept.setChan rfl
  exact h.waked ⟨_, heap_setChan _ _ _ _ _ _ _ _ (by omega)⟩ (fun j => kc.cell ⟨w.heap.size + 1, j, none⟩ (by simp; omega) (by simp)) (fun j => kc.frozen ⟨w.heap.size + 1, j, none⟩ (by simp; omega) (by simp)) (kc.mono (fun _ _ x => .inr x))

theorem kept3 (W : World) (a b c : Obj) : Kept (fun _ => False) W (((W.alloc a).alloc b).alloc c) := ((Kept.alloc _).trans (Kept.alloc _)).trans (Kept.alloc _)

/-- put at a stage: the wake channel holds one value, nothing else has turned. -/
theorem put_stage {w W : World} {pend items : Value} {base : Int} {ns : List Int} {n : Nat} {hs : List Value} (hst : ∃ buf, (buf = #[] ∨ buf = #[.agg #[]]) ∧ Stage w W pend items base ns buf n hs) (fr : Value) (x y : Int) :
    Calls Ybgv.prog 6 #[.pointer (some ⟨w.heap.size + 1, 0, none⟩), fr, .agg #[.int .u64 x, .int .i64 y, .pointer none]] W fun e W' => e = .returned (.tuple #[]) ∧ Stage w W' pend items base ns #[.agg #[]] n hs := by
  obtain ⟨buf, hbuf, h⟩ := hst
  obtain ⟨s, hc⟩ := h.chan
  refine (put_drop (w.heap.size + 1) w.heap.size fr buf s W h.h0 (h.fz 0) h.h2 h.h8 (by omega) hc x y hbuf).mono ?_
  rintro e W' ⟨rfl, hch, hcell, hfz, hk⟩
  exact ⟨rfl, h.waked hch hcell hfz hk⟩

theorem bytes_row {w W : World} {base : Nat} {a : Option Addr} {n c : Nat} {ns : List Int} (h : W.ownsRow base 5 1 (.slice a n c) n (cellsOf ns)) (_hw : w = w) : Lib.BytesIn W a n ns := by
  intro hn
  rcases h.2 with ⟨_, h0⟩ | ⟨g, cap, cur, e, _, _, _, _, _, _⟩
  · omega
  · simp at e
    obtain ⟨rfl, rfl⟩ := e
    refine ⟨g, 0, rfl, fun i hi => ?_⟩
    have hl : ns.length = n := by have := h.1; rw [cellsOf_length] at this; omega
    have := h.cellAt i (by omega)
    rw [Nat.zero_add, this]
    simp [cellsOf, List.getD, List.getElem?_eq_getElem (show i < ns.length by omega)]

theorem bytes_src {w W : World} {a0 : Option Addr} {len0 cap0 : Nat} {ns : List Int} (hns : ns.length = len0) (hk : Kept (fun k => w.heap.size ≤ k) w W)
    (hsrc : (a0 = none ∧ len0 = 0 ∧ cap0 = 0) ∨ ∃ ad, a0 = some ad ∧ ∀ j u, (cellsOf ns)[j]? = some u → w.cell? (ad.add j) = some u) : Lib.BytesIn W a0 len0 ns := by
  rcases hsrc with ⟨_, rfl, _⟩ | ⟨ad, rfl, h⟩
  · exact Lib.BytesIn.nil _ _ _
  · refine Lib.BytesIn.of_cells (fun i hi => ?_)
    have hc := h i (.int .u8 (ns.getD i 0)) (by simp [cellsOf, List.getD, List.getElem?_eq_getElem (show i < ns.length by omega)])
    have hlt := World.block_lt_of_cell? _ _ hc
    exact (hk.cell _ hlt (by omega)).trans hc

theorem len_chan {w W : World} {pend items : Value} {base : Int} {ns : List Int} {n : Nat} {hs : List Value} (h : Stage w W pend items base ns #[.agg #[]] n hs) (ty : TypeId) : (Builtin.len_ #[26] ty #[.chan (some w.heap.size)]).run Ybgv.prog W = .ok (.int .i64 1) W := by
  obtain ⟨s, hc⟩ := h.chan
  exact run_len_chan 26 ty Ybgv.underlying26 hc

theorem at_zero (b o g n c : Nat) (w : World) (h0 : w.cell? ⟨b, o, none⟩ = some (.slice (some ⟨g, 0, none⟩) n c)) (h1 : w.cell? ⟨b, o + 1, none⟩ = some (.int .i64 0)) (hn : n ≤ 9223372036854775807) (hi : 0 < n) :
    Calls Ybgv.prog 9 #[.pointer (some ⟨b, o, none⟩), .int .i64 0] w fun e w' => e = .returned (.pointer (some ⟨g, 0, none⟩)) ∧ ∃ k, w' = w.drewN k := by
  simpa using at_any b o g n c 0 w h0 h1 hn hi

theorem hold_on {g : Nat} {a b c d : Value} {W W' : World} (h : W.cell? ⟨g, 0, none⟩ = some a ∧ W.cell? ⟨g, 1, none⟩ = some b ∧ W.cell? ⟨g, 2, none⟩ = some c ∧ W.cell? ⟨g, 3, none⟩ = some d ∧ g < W.heap.size) (k : Kept (fun _ => False) W W') :
    W'.cell? ⟨g, 0, none⟩ = some a ∧ W'.cell? ⟨g, 1, none⟩ = some b ∧ W'.cell? ⟨g, 2, none⟩ = some c ∧ W'.cell? ⟨g, 3, none⟩ = some d ∧ g < W'.heap.size :=
  ⟨(k.cell ⟨g, 0, none⟩ h.2.2.2.2 (fun x => x)).trans h.1, (k.cell ⟨g, 1, none⟩ h.2.2.2.2 (fun x => x)).trans h.2.1, (k.cell ⟨g, 2, none⟩ h.2.2.2.2 (fun x => x)).trans h.2.2.1, (k.cell ⟨g, 3, none⟩ h.2.2.2.2 (fun x => x)).trans h.2.2.2.1, Nat.lt_of_lt_of_le h.2.2.2.2 k.size⟩

set_option maxRecDepth 100000 in
set_option maxHeartbeats 1600000 in
theorem law_main (a0 a2 : Option Addr) (len0 cap0 len2 cap2 : Nat) (base due : Int) (pre : Bool) (ns : List Int) (w : World) (b0 : 0 ≤ base) (b1 : base ≤ 65535) (d0 : -32768 ≤ due) (d1 : due ≤ 32767) (hl0 : len0 ≤ 1024) (hl2 : len2 ≤ 1024)
    (hns : ns.length = len0) (hsrc : (a0 = none ∧ len0 = 0 ∧ cap0 = 0) ∨ ∃ ad, a0 = some ad ∧ ∀ j u, (cellsOf ns)[j]? = some u → w.cell? (ad.add j) = some u) :
    Calls Ybgv.prog 3 #[.slice a0 len0 cap0, .int .u16 base, .slice a2 len2 cap2, .int .i16 due, .bool pre] w fun e w' => e = .returned (.bool true) ∧ Below w.heap.size w w' := by
  have hmk := mk1
  have hl0' : ¬ (1024 : Int) < (len0 : Int) := by omega
  have hl2' : ¬ (1024 : Int) < (len2 : Int) := by omega
  obtain ⟨i, hi, hz, hs, hby⟩ := info5
  have HSRC : Hid _ := hsrc
  have HNS : Hid _ := hns
  clear hsrc hns
  go_enter Ybgv.func3, Ybgv.ntmps3
  go_wp2_with (at_builtin; refine wpList_append_src _ rfl (.const (.slice none 0 0)) (.tmp 27) 22 rfl (w.heap.size + 2) 5 i _ 1 1 Ybgv.underlying22 hi hz hs hby rfl (by omega) (.slice none 0 0) 0 [] rfl (World.ownsRow_nil _ _ _ _) a0 len0 cap0 (cellsOf ns) rfl ?q1 ?q2 (cellsOf_one ns) ?q3 ?q4 ?q5 ?q6)
  case q1 => rw [cellsOf_length]; exact HNS.out
  case q2 =>
    rcases HSRC.out with h | ⟨ad, e, h⟩
    · exact .inl h
    · exact .inr ⟨ad, e, fun j u hu => ((kept2 w _ _).cell _ (World.block_lt_of_cell? _ _ (h j u hu)) (fun x => x)).trans (h j u hu)⟩
  case q3 => unfold maxLen; omega
  case q4 => omega
  case q6 =>
  intro a' c' w1 hown hgrow hat
  have HST : Hid _ := stage_start w w1 a' len0 c' base ns HNS.out hown hgrow
  have hk1 : Kept (fun _ => False) (link0 w base) w1 := (Kept.of_grown hgrow).mono (fun k _ e => by simp [Value.ownBlock] at e)
  have c3 : w1.cell? ⟨w.heap.size + 1, 3, none⟩ = some (.slice none 0 0) := (hk1.cell ⟨w.heap.size + 1, 3, none⟩ (by simp [link0]) (fun x => x)).trans (by simp [link0, go_sem])
  have f3 : w1.frozen? ⟨w.heap.size + 1, 3, none⟩ = false := (hk1.frozen ⟨w.heap.size + 1, 3, none⟩ (by simp [link0]) (fun x => x)).trans (by simp [link0, go_sem])
  clear hown hgrow hat hk1
  go_upto_region 5 with fail
  generalize w1.setCell ⟨w.heap.size + 1, 3, none⟩ (.slice a' len0 c') = W4 at HST ⊢
  clear c3 f3 hmk hi hz hs hby i
  have hw1 : IntKind.i64.wrap base = base := by rw [IntKind.wrap_i64]; omega
  have hw2 : IntKind.i64.wrap (base + (len0 : Int)) = base + (len0 : Int) := by rw [IntKind.wrap_i64]; omega
  have hsz := HST.out.size
  go_region_with (first | (go_at_call 5; refine (due_any 0 (by omega) (by omega) _).mono ?_; rintro e w' ⟨rfl, e1, e2, e3, rfl⟩) | (go_at_call 4; refine (push_stage (HST.out.on (kept4 W4 _ _ _ _)) (lit4 W4 _ _ _ _) rfl (by simp [Value.oneCell']) (by omega) (by omega)).mono ?_; rintro e W5 ⟨rfl, g, cap, hst5⟩))
  have HST5 : Hid _ := hst5
  clear hst5
  cases pre
  case' false => go_upto_region 8 with fail
  case' true =>
    obtain ⟨s0, hch⟩ := HST5.out.chan
    have c8 := HST5.out.h8
    go_upto_region 7 with fail
    refine wp_region_at ?_
    change wpAt _ _ _ [0, 1, 2, 3, 4, 5] _ _
    refine wpAt_value (v := .pointer (some ⟨w.heap.size + 1, 0, none⟩)) (w' := W5) rfl rfl (by simp [go_sem, execOp, Act.eval]) ?_
    refine wpAt_value (v := .pointer (some ⟨w.heap.size + 1, 0, none⟩)) (w' := W5) rfl rfl (by simp [go_sem, execOp, Act.eval, Act.put]) ?_
    refine wpAt_value (v := .pointer (some ⟨w.heap.size + 1, 8, none⟩)) (w' := W5) rfl rfl (by simp [go_sem, execOp, Act.eval, Act.put]) ?_
    refine wpAt_value (v := .chan (some w.heap.size)) (w' := W5) rfl rfl (by simp [go_sem, execOp, Act.eval, Act.put, c8]) ?_
    refine wpAt_value (v := .agg #[]) (w' := W5) rfl rfl (by simp [go_sem, execOp, Act.eval, Act.put]) ?_
    refine wpAt_send_room (c := w.heap.size) (cap := 1) (buf := #[]) (v := .agg #[]) (z := .tuple #[]) (s := s0) (r := 0) (tm := false) rfl rfl (by simp [go_sem, execOp, scase, Act.eval, Act.put]) hch (by decide) ?_
    have HST6 : Hid (Stage w (W5.setChan w.heap.size 1 (#[].push (.agg #[])) false (s0 + 1) 0 false) (.slice a' len0 c') (.slice (some ⟨g, 0, none⟩) 1 cap) base ns #[.agg #[]] 1 [.int .u64 (dwall 0), .int .i64 (dext 0), .pointer none, .int .i64 (base + (len0 : Int))]) := HST5.out.sent s0
    generalize W5.setChan w.heap.size 1 (#[].push (.agg #[])) false (s0 + 1) 0 false = W6 at HST6 ⊢
    refine wpAt_nil ?_
    simp only [Act.put, List.getElem_toArray, List.getElem_cons_succ, List.getElem_cons_zero, List.setIfInBounds_toArray, List.set_cons_succ, List.set_cons_zero]
    clear hch c8
    go_upto_region 8 with fail
    have STX : Hid (∃ buf, (buf = #[] ∨ buf = #[.agg #[]]) ∧ Stage w W6 (.slice a' len0 c') (.slice (some ⟨g, 0, none⟩) 1 cap) base ns buf 1 [.int .u64 (dwall 0), .int .i64 (dext 0), .pointer none, .int .i64 (base + (len0 : Int))]) := ⟨_, .inr rfl, HST6.out⟩
  case' false =>
    generalize W5 = W6 at HST5 ⊢
    have STX : Hid (∃ buf, (buf = #[] ∨ buf = #[.agg #[]]) ∧ Stage w W6 (.slice a' len0 c') (.slice (some ⟨g, 0, none⟩) 1 cap) base ns buf 1 [.int .u64 (dwall 0), .int .i64 (dext 0), .pointer none, .int .i64 (base + (len0 : Int))]) := ⟨_, .inl rfl, HST5.out⟩
  all_goals
    clear HST5
    go_wp2_with fail
    refine (due_any due d0 d1 _).mono ?_
    rintro e w' ⟨rfl, e4, e5, e6, rfl⟩
    go_wp2_with fail
    refine (put_stage (hst := by obtain ⟨buf, hb, h⟩ := STX.out; exact ⟨buf, hb, h.on (kept3 W6 _ _ _)⟩) _ _ _).mono ?_
    rintro e W7 ⟨rfl, hst7⟩
    have ST7 : Hid _ := hst7
    clear hst7 STX
    have p2 := ST7.out.h2
    have p3 := ST7.out.h3
    have p7 := ST7.out.h7
    have p8 := ST7.out.h8
    have plen := len_chan ST7.out
    have HB1 : Hid _ := bytes_row (w := w) (by have := ST7.out.pown; rw [HNS.out] at this; exact this) rfl
    have HB2 : Hid _ := bytes_src HNS.out ST7.out.kept HSRC.out
    go_wp2_with (go_at_call 7; refine (Ybgv.bytes_Equal_all a' a0 len0 c' len0 cap0 ns ns W7 HNS.out HNS.out HB1.out HB2.out).mono ?_; rintro e w' ⟨rfl, rfl⟩)
    clear p2 p3 p7 p8 plen HB1 HB2
    refine (len_any (w.heap.size + 1) 4 1 cap (some ⟨g, 0, none⟩) _ ST7.out.h4 ST7.out.h5 (by omega)).mono ?_
    rintro e w8 ⟨rfl, k8, rfl⟩
    go_wp2_with fail
    refine (at_zero (w.heap.size + 1) 4 g 1 cap (w'.drewN k8) (ST7.out.on (Kept.drewN k8)).h4 (ST7.out.on (Kept.drewN k8)).h5 (by omega) (by omega)).mono ?_
    rintro e w9 ⟨rfl, k9, rfl⟩
    have ST9 : Hid _ := (ST7.out.on (Kept.drewN k8)).on (Kept.drewN k9)
    clear ST7
    generalize (w'.drewN k8).drewN k9 = W9 at ST9 ⊢
    have hgl := (ST9.out.hown.lt g rfl).2
    have r0 := ST9.out.hown.cellAt 0 (by omega)
    have r1 := ST9.out.hown.cellAt 1 (by omega)
    have r2 := ST9.out.hown.cellAt 2 (by omega)
    have r3 := ST9.out.hown.cellAt 3 (by omega)
    simp only [List.getElem?_cons_zero, List.getElem?_cons_succ] at r0 r1 r2 r3
    go_wp2_with fail
    go_region_held3 (fun x => x.cell? ⟨g, 0, none⟩ = some (.int .u64 (dwall 0)) ∧ x.cell? ⟨g, 1, none⟩ = some (.int .i64 (dext 0)) ∧ x.cell? ⟨g, 2, none⟩ = some (.pointer none) ∧ x.cell? ⟨g, 3, none⟩ = some (.int .i64 (base + (len0 : Int))) ∧ g < x.heap.size) (exact hold_on (W := W9) ⟨r0, r1, r2, r3, hgl⟩ (by repeat (first | exact Kept.refl _ _ | refine Kept.trans ?_ Kept.drew | refine Kept.trans ?_ (Kept.alloc _))))
      (first | (go_at_call 5; refine (due_any 0 (by omega) (by omega) _).mono ?_; rintro e w'' ⟨rfl, e7, e8, e9, rfl⟩) | (go_at_call 10; refine (equal_any 0 0 (by omega) (by omega) (by omega) (by omega) _).mono ?_; rintro e w'' ⟨rfl, e10, e11, rfl⟩))
    go_wp2
    go_ret
    exact ⟨rfl, (ST9.out.on (by repeat (first | exact Kept.refl _ _ | refine Kept.trans ?_ Kept.drew | refine Kept.trans ?_ (Kept.alloc _)))).kept.below (Nat.le_refl _) (fun _ h => h)⟩

set_option maxHeartbeats 400000 in
/-- More bytes than the law looks at. -/
theorem law_many (a0 a2 : Option Addr) (len0 cap0 len2 cap2 : Nat) (base due : Int) (pre : Bool) (w : World) (h : 1024 < len0 ∨ 1024 < len2) :
    Calls Ybgv.prog 3 #[.slice a0 len0 cap0, .int .u16 base, .slice a2 len2 cap2, .int .i16 due, .bool pre] w fun e w' => e = .returned (.bool true) ∧ Below w.heap.size w w' := by
  by_cases h0 : 1024 < len0
  · have h0' : (1024 : Int) < (len0 : Int) := by omega
    go_enter Ybgv.func3, Ybgv.ntmps3
    go_wp2
    go_ret
    exact ⟨rfl, Below.refl _ _⟩
  · have h0' : ¬ (1024 : Int) < (len0 : Int) := by omega
    have h2' : (1024 : Int) < (len2 : Int) := by omega
    go_enter Ybgv.func3, Ybgv.ntmps3
    go_wp2
    go_ret
    exact ⟨rfl, Below.refl _ _⟩
end Go.Proofs.Yboneinjp
