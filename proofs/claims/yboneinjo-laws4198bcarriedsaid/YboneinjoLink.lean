/- The link's state in memory, and what each step of put makes of it: worlds and lists alone, no walk. -/
import Derived.Test.YboneinjoQueue
import Derived.Test.YboneinjoTime
import Derived.Conc.LoneCalls
namespace Go.Proofs.Yboneinjo
open Go.RowKit Go.Conc

/-! ### Holds as cells -/
/-- One hold's four cells: its due time, its end. -/
def hcell (p : Int × Int) : List Value := [.int .u64 (dwall p.1), .int .i64 (dext p.1), .pointer none, .int .i64 p.2]
def hcells (hs : List (Int × Int)) : List Value := hs.flatMap hcell
theorem hcells_length (hs : List (Int × Int)) : (hcells hs).length = hs.length * 4 := by
  induction hs with
  | nil => rfl
  | cons p hs ih => simp only [hcells, List.flatMap_cons, List.length_append, List.length_cons] at ih ⊢; rw [ih]; simp [hcell]; omega
theorem hcells_snoc (hs : List (Int × Int)) (p : Int × Int) : hcells (hs ++ [p]) = hcells hs ++ hcell p := by simp [hcells]
theorem hcells_at (hs : List (Int × Int)) (i : Nat) (p : Int × Int) (h : hs[i]? = some p) (r : Nat) (hr : r < 4) : (hcells hs)[i * 4 + r]? = (hcell p)[r]? := by
  induction hs generalizing i with
  | nil => simp at h
  | cons q hs ih =>
    have hc : (hcell q).length = 4 := rfl
    cases i with
    | zero =>
      simp at h; subst h
      simp only [hcells, List.flatMap_cons]
      rw [List.getElem?_append_left (by omega)]
      simp
    | succ i =>
      simp at h
      have := ih i h
      simp only [hcells, List.flatMap_cons] at this ⊢
      rw [List.getElem?_append_right (by omega), ← this]
      congr 1; omega
theorem hcells_set (hs : List (Int × Int)) (i : Nat) (p : Int × Int) (e : Int) (h : hs[i]? = some p) : (hcells hs).set (i * 4 + 3) (.int .i64 e) = hcells (hs.set i (p.1, e)) := by
  induction hs generalizing i with
  | nil => simp at h
  | cons q hs ih =>
    have hc : (hcell q).length = 4 := rfl
    cases i with
    | zero =>
      simp at h; subst h
      simp only [hcells, List.flatMap_cons, List.set_cons_zero]
      rw [List.set_append_left _ _ (by omega)]
      rfl
    | succ i =>
      simp at h
      have := ih i h
      simp only [hcells, List.flatMap_cons, List.set_cons_succ] at this ⊢
      rw [List.set_append_right _ _ (by omega), ← this]
      congr 2; omega

/-- What a put of (d, e) makes of the holds. -/
def nexth (hs : List (Int × Int)) (d e : Int) : List (Int × Int) :=
  match hs[hs.length - 1]? with
  | some p => if d ≤ p.1 then hs.set (hs.length - 1) (p.1, e) else hs ++ [(d, e)]
  | none => hs ++ [(d, e)]

def cellsOf (ns : List Int) : List Value := ns.map fun n => .int .u8 n
theorem cellsOf_length (ns : List Int) : (cellsOf ns).length = ns.length := by simp [cellsOf]
theorem cellsOf_append (a b : List Int) : cellsOf (a ++ b) = cellsOf a ++ cellsOf b := by simp [cellsOf]
theorem cellsOf_one (ns : List Int) : ∀ u ∈ cellsOf ns, u.oneCell' = true := by
  intro u hu
  obtain ⟨_, _, rfl⟩ := List.mem_map.1 hu
  rfl

/-- No block belongs to both. -/
def Apart (a b : Value) : Prop := ∀ g, a.ownBlock = some g → b.ownBlock ≠ some g

theorem Kept.setChan {S : Nat → Prop} {w : World} {c cap : Nat} {buf : Array Value} {cl : Bool} {s r : Nat} {tm : Bool} (hc : S c) : Kept S w (w.setChan c cap buf cl s r tm) :=
  ⟨rfl, rfl, rfl, by simp [World.setChan], fun k _ hs => by simp only [World.setChan]; rw [Array.getElem?_setIfInBounds_ne (fun (e : c = k) => hs (e ▸ hc))]⟩

/-- The state of put, entered in world w0 with the rows p0 (bytes) and i0 (holds), when it stands in world W. -/
structure PS (w0 : World) (lb c B : Nat) (p0 i0 : Value) (W : World) (mu : Int) (cn pend items : Value) (base : Int) (buf : Array Value) (bs : List Int) (hs : List (Int × Int)) : Prop where
  lt : lb < B
  clt : c < B
  ne : c ≠ lb
  h0 : W.cell? ⟨lb, 0, none⟩ = some (.int .i32 mu)
  h2 : W.cell? ⟨lb, 2, none⟩ = some cn
  h3 : W.cell? ⟨lb, 3, none⟩ = some pend
  h4 : W.cell? ⟨lb, 4, none⟩ = some items
  h5 : W.cell? ⟨lb, 5, none⟩ = some (.int .i64 0)
  h7 : W.cell? ⟨lb, 7, none⟩ = some (.int .i64 base)
  h8 : W.cell? ⟨lb, 8, none⟩ = some (.chan (some c))
  fz : ∀ j, W.frozen? ⟨lb, j, none⟩ = false
  chan : ∃ s, W.heap[c]? = some (.chan 1 buf false s 0 false)
  pown : W.ownsRow B 5 1 pend bs.length (cellsOf bs)
  hown : W.ownsRow B 67 4 items hs.length (hcells hs)
  apart : Apart pend items
  size : B ≤ W.heap.size
  kept : Kept (fun k => k = lb ∨ k = c ∨ some k = p0.ownBlock ∨ some k = i0.ownBlock) w0 W
  pb : ∀ g, pend.ownBlock = some g → p0.ownBlock = some g ∨ w0.heap.size ≤ g
  ib : ∀ g, items.ownBlock = some g → i0.ownBlock = some g ∨ w0.heap.size ≤ g

section
variable {w0 : World} {lb c B : Nat} {p0 i0 : Value} {W W' : World} {mu : Int} {cn pend items : Value} {base : Int} {buf : Array Value} {bs : List Int} {hs : List (Int × Int)}

theorem PS.on (h : PS w0 lb c B p0 i0 W mu cn pend items base buf bs hs) (k : Kept (fun _ => False) W W') : PS w0 lb c B p0 i0 W' mu cn pend items base buf bs hs := by
  have hl := h.lt
  have hc := h.clt
  have hz := h.size
  have cc : ∀ j, W'.cell? ⟨lb, j, none⟩ = W.cell? ⟨lb, j, none⟩ := fun j => k.cell ⟨lb, j, none⟩ (by simp; omega) (fun x => x)
  obtain ⟨s, hch⟩ := h.chan
  exact ⟨hl, hc, h.ne, (cc 0).trans h.h0, (cc 2).trans h.h2, (cc 3).trans h.h3, (cc 4).trans h.h4, (cc 5).trans h.h5, (cc 7).trans h.h7, (cc 8).trans h.h8, fun j => (k.frozen ⟨lb, j, none⟩ (by simp; omega) (fun x => x)).trans (h.fz j),
    ⟨s, (k.block _ (by omega) (fun x => x)).trans hch⟩, own_kept h.pown k (fun _ _ x => x), own_kept h.hown k (fun _ _ x => x), h.apart, Nat.le_trans hz k.size, h.kept.after k (fun _ _ x => x.elim), h.pb, h.ib⟩

/-- A step that turns one cell of the link. -/
theorem PS.cellSet (_h : PS w0 lb c B p0 i0 W mu cn pend items base buf bs hs) (j : Nat) (v : Value) :
    (∀ i, i ≠ j → (W.setCell ⟨lb, j, none⟩ v).cell? ⟨lb, i, none⟩ = W.cell? ⟨lb, i, none⟩) ∧ (∀ i, (W.setCell ⟨lb, j, none⟩ v).frozen? ⟨lb, i, none⟩ = W.frozen? ⟨lb, i, none⟩) ∧
    Kept (fun k => k = lb) W (W.setCell ⟨lb, j, none⟩ v) :=
  ⟨fun i hi => by rw [World.cell?_setCell_other _ _ _ _ (fun e => hi (by cases e; rfl))], fun i => by rw [World.frozen?_setCell], Kept.setCell rfl⟩

/-- The lock's word. -/
theorem PS.mutex (h : PS w0 lb c B p0 i0 W mu cn pend items base buf bs hs) (m : Int) : PS w0 lb c B p0 i0 (W.setCell ⟨lb, 0, none⟩ (.int .i32 m)) m cn pend items base buf bs hs := by
  obtain ⟨hcc, hff, hk⟩ := h.cellSet 0 (.int .i32 m)
  have hl := h.lt
  have hc := h.clt
  have hz := h.size
  obtain ⟨s, hch⟩ := h.chan
  have hp := h.pown.lt
  have hi := h.hown.lt
  have hn := h.ne
  exact ⟨hl, hc, hn, World.cell?_setCell_same _ _ _ h.h0, (hcc 2 (by omega)).trans h.h2, (hcc 3 (by omega)).trans h.h3, (hcc 4 (by omega)).trans h.h4, (hcc 5 (by omega)).trans h.h5, (hcc 7 (by omega)).trans h.h7, (hcc 8 (by omega)).trans h.h8,
    fun j => (hff j).trans (h.fz j), ⟨s, (hk.block _ (by omega) hn).trans hch⟩, own_kept h.pown hk (fun g hg e => by have := (hp g hg).1; omega), own_kept h.hown hk (fun g hg e => by have := (hi g hg).1; omega), h.apart, Nat.le_trans hz hk.size,
    h.kept.after hk (fun _ _ e => .inl e), h.pb, h.ib⟩

/-- The frame has been appended to the bytes, and the new slice stored. -/
theorem PS.appended (h : PS w0 lb c B p0 i0 W mu cn pend items base buf bs hs) {ms : List Int} {a' : Option Addr} {c' : Nat} (hsz0 : w0.heap.size ≤ W.heap.size)
    (hown : W'.ownsRow B 5 1 (.slice a' (bs.length + ms.length) c') (bs.length + ms.length) (cellsOf bs ++ cellsOf ms)) (hg : W.grownBy W' pend.ownBlock)
    (hat : (Value.slice a' (bs.length + ms.length) c').ownBlock = pend.ownBlock ∨ (Value.slice a' (bs.length + ms.length) c').ownBlock = some W.heap.size) :
    PS w0 lb c B p0 i0 (W'.setCell ⟨lb, 3, none⟩ (.slice a' (bs.length + ms.length) c')) mu cn (.slice a' (bs.length + ms.length) c') items base buf (bs ++ ms) hs := by
  have hl := h.lt
  have hc := h.clt
  have hz := h.size
  have hp := h.pown.lt
  have hi := h.hown.lt
  have hn := h.ne
  have kg := Kept.of_grown hg
  obtain ⟨s, hch⟩ := h.chan
  have hlb : ¬ (some lb = pend.ownBlock) := fun e => by have := (hp lb e.symm).1; omega
  have hcb : ¬ (some c = pend.ownBlock) := fun e => by have := (hp c e.symm).1; omega
  have hib : ∀ g, items.ownBlock = some g → ¬ (some g = pend.ownBlock) := fun g hg' e => h.apart g e.symm hg'
  have cc : ∀ j, W'.cell? ⟨lb, j, none⟩ = W.cell? ⟨lb, j, none⟩ := fun j => kg.cell ⟨lb, j, none⟩ (by simp; omega) hlb
  have ff : ∀ j, W'.frozen? ⟨lb, j, none⟩ = W.frozen? ⟨lb, j, none⟩ := fun j => kg.frozen ⟨lb, j, none⟩ (by simp; omega) hlb
  have hk : Kept (fun k => k = lb) W' (W'.setCell ⟨lb, 3, none⟩ (.slice a' (bs.length + ms.length) c')) := Kept.setCell rfl
  have hset : ∀ j v, j ≠ 3 → W.cell? ⟨lb, j, none⟩ = some v → (W'.setCell ⟨lb, 3, none⟩ (.slice a' (bs.length + ms.length) c')).cell? ⟨lb, j, none⟩ = some v := fun j v hj e => by
    rw [World.cell?_setCell_other _ _ _ _ (fun e => hj (by cases e; rfl)), cc j]; exact e
  have hs1 := kg.size
  refine ⟨hl, hc, hn, hset 0 _ (by omega) h.h0, hset 2 _ (by omega) h.h2, World.cell?_setCell_same _ _ _ ((cc 3).trans h.h3), hset 4 _ (by omega) h.h4, hset 5 _ (by omega) h.h5, hset 7 _ (by omega) h.h7, hset 8 _ (by omega) h.h8,
    fun j => by rw [World.frozen?_setCell, ff j]; exact h.fz j, ⟨s, ?_⟩, ?_, ?_, ?_, ?_, ?_, ?_, h.ib⟩
  · rw [hk.block _ (by omega) hn, kg.block _ (by omega) hcb]; exact hch
  · rw [List.length_append, cellsOf_append]
    exact own_kept hown hk (fun g hg' e => by have := (hown.lt g hg').1; omega)
  · exact own_kept (own_kept h.hown kg hib) hk (fun g hg' e => by have := (hi g hg').1; omega)
  · intro g hg' e
    rcases hat with x | x
    · exact h.apart g (x ▸ hg') e
    · rw [x] at hg'
      have := (hi g e).2
      simp at hg'; omega
  · have := hk.size; omega
  · refine (h.kept.after kg (fun k hk' e => ?_)).after hk (fun _ _ e => .inl e)
    rcases h.pb k e.symm with x | x
    · exact .inr (.inr (.inl x.symm))
    · omega
  · intro g hg'
    rcases hat with x | x
    · exact h.pb g (x ▸ hg')
    · rw [x] at hg'; simp at hg'; right; omega

/-- Push has been called. -/
theorem PS.pushed (h : PS w0 lb c B p0 i0 W mu cn pend items base buf bs hs) (hsz0 : w0.heap.size ≤ W.heap.size) {p : Int × Int} (hp : Pushed B lb 4 items hs.length (hcells hs) (hcell p) W W') :
    ∃ g cap, PS w0 lb c B p0 i0 W' mu cn pend (.slice (some ⟨g, 0, none⟩) (hs.length + 1) cap) base buf bs (hs ++ [p]) := by
  obtain ⟨g, cap, hc4, ho, hat, hcj, hfj, hk⟩ := hp
  have hl := h.lt
  have hc := h.clt
  have hz := h.size
  have hp := h.pown.lt
  have hi := h.hown.lt
  have hn := h.ne
  obtain ⟨s, hch⟩ := h.chan
  have hnc : ¬ (c = lb ∨ some c = items.ownBlock) := by
    rintro (e | e)
    · exact hn e
    · have := (hi c e.symm).1; omega
  have hnp : ∀ g, pend.ownBlock = some g → ¬ (g = lb ∨ some g = items.ownBlock) := by
    rintro g hg (e | e)
    · have := (hp g hg).1; omega
    · exact h.apart g hg e.symm
  refine ⟨g, cap, hl, hc, hn, (hcj 0 (by omega)).trans h.h0, (hcj 2 (by omega)).trans h.h2, (hcj 3 (by omega)).trans h.h3, hc4, (hcj 5 (by omega)).trans h.h5, (hcj 7 (by omega)).trans h.h7, (hcj 8 (by omega)).trans h.h8, fun j => (hfj j).trans (h.fz j),
    ⟨s, (hk.block _ (by omega) hnc).trans hch⟩, own_kept h.pown hk hnp, by rw [List.length_append, hcells_snoc]; exact ho, ?_, Nat.le_trans hz hk.size, h.kept.after hk ?_, h.pb, ?_⟩
  · intro g' hg' e
    simp [Value.ownBlock] at e
    subst e
    rcases hat with x | x
    · exact h.apart g hg' x
    · have := (hp g hg').2; omega
  · rintro k hk' (e | e)
    · exact .inl e
    · rcases h.ib k e.symm with x | x
      · exact .inr (.inr (.inr x.symm))
      · omega
  · intro g' hg'
    simp [Value.ownBlock] at hg'
    subst hg'
    rcases hat with x | x
    · exact h.ib g x
    · right; omega

/-- The last hold's end has been moved. -/
theorem PS.merged (h : PS w0 lb c B p0 i0 W mu cn pend items base buf bs hs) {g n cap i : Nat} {p : Int × Int} (e : Int) (hv : items = .slice (some ⟨g, 0, none⟩) n cap) (hi : hs[i]? = some p) :
    PS w0 lb c B p0 i0 (W.setCell ⟨g, i * 4 + 3, none⟩ (.int .i64 e)) mu cn pend items base buf bs (hs.set i (p.1, e)) := by
  subst hv
  have hl := h.lt
  have hc := h.clt
  have hz := h.size
  have hp := h.pown.lt
  have hii := h.hown.lt
  have hn := h.ne
  have hgB := (hii g rfl).1
  have hlen : n = hs.length := by
    rcases h.hown.2 with ⟨x, _⟩ | ⟨g', cap', cur, x, _⟩
    · simp at x
    · simp at x; exact x.2.1
  subst hlen
  obtain ⟨s, hch⟩ := h.chan
  obtain ⟨ho, hgr⟩ := h.hown.stored (i * 4 + 3) (.int .i64 e)
  have kg : Kept (fun k => k = g) W (W.setCell ⟨g, i * 4 + 3, none⟩ (.int .i64 e)) := Kept.setCell rfl
  have cc : ∀ j, (W.setCell ⟨g, i * 4 + 3, none⟩ (.int .i64 e)).cell? ⟨lb, j, none⟩ = W.cell? ⟨lb, j, none⟩ := fun j => kg.cell ⟨lb, j, none⟩ (by simp; omega) (by simp; omega)
  refine ⟨hl, hc, hn, (cc 0).trans h.h0, (cc 2).trans h.h2, (cc 3).trans h.h3, (cc 4).trans h.h4, (cc 5).trans h.h5, (cc 7).trans h.h7, (cc 8).trans h.h8, fun j => (kg.frozen ⟨lb, j, none⟩ (by simp; omega) (by simp; omega)).trans (h.fz j),
    ⟨s, (kg.block _ (by omega) (by omega)).trans hch⟩, own_kept h.pown kg (fun g' hg' x => h.apart g' hg' (by simp [Value.ownBlock, x])), by rw [List.length_set, ← hcells_set hs i p e hi]; exact ho, h.apart, Nat.le_trans hz kg.size, h.kept.after kg ?_, h.pb, h.ib⟩
  intro k hk x
  subst x
  rcases h.ib k rfl with y | y
  · exact .inr (.inr (.inr y.symm))
  · omega

/-- The wake channel has its value. -/
theorem PS.woken (h : PS w0 lb c B p0 i0 W mu cn pend items base buf bs hs) (s : Nat) : PS w0 lb c B p0 i0 (W.setChan c 1 #[.agg #[]] false (s + 1) 0 false) mu cn pend items base #[.agg #[]] bs hs := by
  have hl := h.lt
  have hc := h.clt
  have hz := h.size
  have hp := h.pown.lt
  have hi := h.hown.lt
  have hn := h.ne
  have kc : Kept (fun k => k = c) W (W.setChan c 1 #[.agg #[]] false (s + 1) 0 false) := Kept.setChan rfl
  have cc : ∀ j, (W.setChan c 1 #[.agg #[]] false (s + 1) 0 false).cell? ⟨lb, j, none⟩ = W.cell? ⟨lb, j, none⟩ := fun j => kc.cell ⟨lb, j, none⟩ (by simp; omega) (by simp; omega)
  exact ⟨hl, hc, hn, (cc 0).trans h.h0, (cc 2).trans h.h2, (cc 3).trans h.h3, (cc 4).trans h.h4, (cc 5).trans h.h5, (cc 7).trans h.h7, (cc 8).trans h.h8, fun j => (kc.frozen ⟨lb, j, none⟩ (by simp; omega) (by simp; omega)).trans (h.fz j),
    ⟨_, heap_setChan _ _ _ _ _ _ _ _ (by omega)⟩, own_kept h.pown kc (fun g hg e => by have := (hp g hg).1; omega), own_kept h.hown kc (fun g hg e => by have := (hi g hg).1; omega), h.apart, Nat.le_trans hz kc.size,
    h.kept.after kc (fun _ _ e => .inr (.inl e)), h.pb, h.ib⟩
end
end Go.Proofs.Yboneinjo
