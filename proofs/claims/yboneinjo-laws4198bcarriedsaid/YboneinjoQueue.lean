import Derived.Test.YboneinjoProg
import Derived.Test.YboneinjoShelf
import Derived.WalkKit
import Derived.WalkSpells
import Derived.WalkLawsBesides
import Derived.Handy
import Derived.Below
import Derived.BigQuiet
import Derived.Deep.QuietTactic
import Derived.Deep.RegionHeld3
import Derived.Deep.AppendLies
import Derived.Deep.RegionWith
namespace Go.Proofs.Yboneinjo
open Go.RowKit

theorem info67 : ∃ i, Ybgu.prog.info? 67 = some i ∧ i.zero = some (.agg #[.int .u64 0, .int .i64 0, .pointer none, .int .i64 0]) ∧ i.size = 4 ∧ i.bytes = 32 := by
  have h : (Ybgu.prog.info? 67).map (fun i => (i.zero, i.size, i.bytes)) = some (some (.agg #[.int .u64 0, .int .i64 0, .pointer none, .int .i64 0]), 4, 32) := by kernel_rfl
  obtain ⟨i, hi, hb⟩ := Option.map_eq_some_iff.1 h
  simp only [Prod.mk.injEq] at hb
  exact ⟨i, hi, hb.1, hb.2.1, hb.2.2⟩

set_option maxHeartbeats 400000 in
theorem len_any (b o n c : Nat) (a : Option Addr) (w : World) (h0 : w.cell? ⟨b, o, none⟩ = some (.slice a n c)) (h1 : w.cell? ⟨b, o + 1, none⟩ = some (.int .i64 0)) (hn : n ≤ 9223372036854775807) :
    Calls Ybgu.prog 8 #[.pointer (some ⟨b, o, none⟩)] w fun e w' => e = .returned (.int .i64 n) ∧ ∃ k, w' = w.drewN k := by
  go_enter Ybgu.func8, Ybgu.ntmps8
  go_wp2_with fail
  go_quiet (fail)
  go_wp2
  go_ret
  exact ⟨rfl, _, rfl⟩

set_option maxHeartbeats 400000 in
theorem at_any (b o g n c i : Nat) (w : World) (h0 : w.cell? ⟨b, o, none⟩ = some (.slice (some ⟨g, 0, none⟩) n c)) (h1 : w.cell? ⟨b, o + 1, none⟩ = some (.int .i64 0)) (hn : n ≤ 9223372036854775807) (hi : i < n) :
    Calls Ybgu.prog 9 #[.pointer (some ⟨b, o, none⟩), .int .i64 i] w fun e w' => e = .returned (.pointer (some ⟨g, i * 4, none⟩)) ∧ ∃ k, w' = w.drewN k := by
  have hi1 : (0 : Int) ≤ (i : Int) := by omega
  have hi2 : (i : Int) < (n : Int) := by omega
  go_enter Ybgu.func9, Ybgu.ntmps9
  go_wp2_with fail
  go_quiet (fail)
  go_wp2
  go_ret
  exact ⟨rfl, _, rfl⟩

/-! ### What a call leaves: every block but those in S is as it was -/
structure Kept (S : Nat → Prop) (w w' : World) : Prop where
  os : w'.os = w.os
  tape : w'.tape = w.tape
  output : w'.output = w.output
  size : w.heap.size ≤ w'.heap.size
  block : ∀ k, k < w.heap.size → ¬ S k → w'.heap[k]? = w.heap[k]?

section
variable {S T : Nat → Prop} {w w' w'' : World}
theorem Kept.refl (S : Nat → Prop) (w : World) : Kept S w w := ⟨rfl, rfl, rfl, Nat.le_refl _, fun _ _ _ => rfl⟩
theorem Kept.trans (h : Kept S w w') (h' : Kept S w' w'') : Kept S w w'' :=
  ⟨h'.os.trans h.os, h'.tape.trans h.tape, h'.output.trans h.output, Nat.le_trans h.size h'.size, fun k hk hs => (h'.block k (Nat.lt_of_lt_of_le hk h.size) hs).trans (h.block k hk hs)⟩
/-- The second step may touch whatever the first has made. -/
theorem Kept.after (h : Kept S w w') (h' : Kept T w' w'') (hT : ∀ k, k < w.heap.size → T k → S k) : Kept S w w'' :=
  ⟨h'.os.trans h.os, h'.tape.trans h.tape, h'.output.trans h.output, Nat.le_trans h.size h'.size, fun k hk hs => (h'.block k (Nat.lt_of_lt_of_le hk h.size) (fun ht => hs (hT k hk ht))).trans (h.block k hk hs)⟩
theorem Kept.mono (h : Kept S w w') (hs : ∀ k, k < w.heap.size → S k → T k) : Kept T w w' := ⟨h.os, h.tape, h.output, h.size, fun k hk ht => h.block k hk (fun x => ht (hs k hk x))⟩
theorem Kept.cell (h : Kept S w w') (a : Addr) (hlt : a.block < w.heap.size) (hs : ¬ S a.block) : w'.cell? a = w.cell? a := World.cell?_of_block (h.block _ hlt hs)
theorem Kept.frozen (h : Kept S w w') (a : Addr) (hlt : a.block < w.heap.size) (hs : ¬ S a.block) : w'.frozen? a = w.frozen? a := World.frozen?_of_block (h.block _ hlt hs)
theorem Kept.below {B : Nat} (h : Kept S w w') (hB : B ≤ w.heap.size) (hs : ∀ k, S k → B ≤ k) : Below B w w' := ⟨h.os, h.tape, h.output, h.size, fun k hk => h.block k (Nat.lt_of_lt_of_le hk hB) (fun x => by have := hs k x; omega)⟩
theorem Kept.of_grown {row : Option Nat} (h : w.grownBy w' row) : Kept (fun k => some k = row) w w' := ⟨h.os, h.tape, h.output, h.size, fun k hk hs => h.block k hk hs⟩
theorem Kept.drewN (n : Nat) : Kept S w (w.drewN n) := ⟨rfl, rfl, rfl, Nat.le_refl _, fun _ _ _ => rfl⟩
theorem Kept.drew : Kept S w w.drew := ⟨rfl, rfl, rfl, Nat.le_refl _, fun _ _ _ => rfl⟩
theorem Kept.alloc (o : Obj) : Kept S w (w.alloc o) := ⟨rfl, rfl, rfl, by simp, fun _ hk _ => heap_alloc_old w o hk⟩
theorem Kept.setCell {a : Addr} {v : Value} (ha : S a.block) : Kept S w (w.setCell a v) :=
  ⟨rfl, rfl, rfl, by simp [World.setCell], fun k _ hs => by
    simp only [World.setCell, Array.getElem?_modify]
    rw [if_neg (fun (e : a.block = k) => hs (e ▸ ha))]⟩
theorem own_kept {base : Nat} {e : TypeId} {size : Nat} {v : Value} {n : Nat} {xs : List Value} (h : w.ownsRow base e size v n xs) (k : Kept S w w') (hs : ∀ g, v.ownBlock = some g → ¬ S g) : w'.ownsRow base e size v n xs := by
  refine ⟨h.1, ?_⟩
  rcases h.2 with hn | ⟨g, cap, cur, rfl, hb, hgg, rest⟩
  · exact .inl hn
  · refine .inr ⟨g, cap, cur, rfl, hb, ?_, rest⟩
    rw [k.block g (Array.getElem?_eq_some_iff.1 hgg).1 (hs g rfl)]
    exact hgg
end

/-- What Push leaves: the queue's items are xs and then news; of the queue's own block the first cell alone has turned. -/
def Pushed (base b o : Nat) (v : Value) (n : Nat) (xs news : List Value) (w w' : World) : Prop :=
  ∃ g cap, w'.cell? ⟨b, o, none⟩ = some (.slice (some ⟨g, 0, none⟩) (n + 1) cap) ∧ w'.ownsRow base 67 4 (.slice (some ⟨g, 0, none⟩) (n + 1) cap) (n + 1) (xs ++ news) ∧
    (v.ownBlock = some g ∨ w.heap.size ≤ g) ∧ (∀ j, j ≠ o → w'.cell? ⟨b, j, none⟩ = w.cell? ⟨b, j, none⟩) ∧ (∀ j, w'.frozen? ⟨b, j, none⟩ = w.frozen? ⟨b, j, none⟩) ∧ Kept (fun k => k = b ∨ some k = v.ownBlock) w w'

theorem pushed_of {base b o : Nat} {v : Value} {n : Nat} {xs news : List Value} {w w1 : World} {g cap : Nat} {u : Value} (hb : b < base) (hk : Kept (fun k => k = b ∨ some k = v.ownBlock) w w1)
    (hc : ∀ j, j ≠ o → w1.cell? ⟨b, j, none⟩ = w.cell? ⟨b, j, none⟩) (hf : ∀ j, w1.frozen? ⟨b, j, none⟩ = w.frozen? ⟨b, j, none⟩) (hu : w1.cell? ⟨b, o, none⟩ = some u)
    (hown : w1.ownsRow base 67 4 (.slice (some ⟨g, 0, none⟩) (n + 1) cap) (n + 1) (xs ++ news)) (hat : v.ownBlock = some g ∨ w.heap.size ≤ g) :
    Pushed base b o v n xs news w (w1.setCell ⟨b, o, none⟩ (.slice (some ⟨g, 0, none⟩) (n + 1) cap)) := by
  have hg := (hown.lt g rfl).1
  refine ⟨g, cap, World.cell?_setCell_same _ _ _ hu, own_kept hown (Kept.setCell (S := fun k => k = b) rfl) (fun g' e h => by simp [Value.ownBlock] at e; omega), hat, fun j hj => ?_, fun j => ?_, hk.trans (Kept.setCell (.inl rfl))⟩
  · have hne : (⟨b, o, none⟩ : Addr) ≠ ⟨b, j, none⟩ := fun e => hj (by cases e; rfl)
    rw [World.cell?_setCell_other _ _ _ _ hne]; exact hc j hj
  · rw [World.frozen?_setCell]; exact hf j

set_option maxRecDepth 100000 in
set_option maxHeartbeats 800000 in
theorem push_room (base b o g n cap bv : Nat) (xs news : List Value) (w : World) (h0 : w.cell? ⟨b, o, none⟩ = some (.slice (some ⟨g, 0, none⟩) n cap)) (hf : w.frozen? ⟨b, o, none⟩ = false)
    (hown : w.ownsRow base 67 4 (.slice (some ⟨g, 0, none⟩) n cap) n xs) (hb : b < base) (hbase : base ≤ w.heap.size) (hl : news.length = 4)
    (hv : ∀ j u, news[j]? = some u → w.cell? ((⟨bv, 0, none⟩ : Addr).add j) = some u) (h1 : ∀ u ∈ news, u.oneCell' = true) (hn : n ≤ 1000000) (_hc : cap ≤ maxLen) (hroom : n + 1 ≤ cap) :
    Calls Ybgu.prog 4 #[.pointer (some ⟨b, o, none⟩), .slice (some ⟨bv, 0, none⟩) 1 1] w fun e w' => e = .returned (.tuple #[]) ∧ Pushed base b o (.slice (some ⟨g, 0, none⟩) n cap) n xs news w w' := by
  obtain ⟨i, hi, hz, hs, hby⟩ := info67
  have hgb := (hown.lt g rfl).1
  have HOWN : Hid _ := hown
  have HV : Hid _ := hv
  have H1 : Hid _ := h1
  unfold maxLen at _hc
  have hr : ¬ (cap : Int) < (n : Int) + 1 := by omega
  clear hown hv h1
  go_enter Ybgu.func4, Ybgu.ntmps4
  go_wp2_with fail
  go_quiet (fail)
  go_wp2_with (at_builtin; refine wpList_append_lies _ rfl (.tmp 38) (.tmp 39) 55 rfl base 67 i _ 4 32 Ybgu.underlying55 hi hz hs hby rfl (by omega) (.slice (some ⟨g, 0, none⟩) n cap) n xs rfl ?q1 ⟨bv, 0, none⟩ 1 1 news rfl ?q2 ?q3 H1.out (by omega) ?q4 (by omega) ?q5 _ rfl ?q6)
  case q1 => exact own_kept HOWN.out (Kept.drewN (S := fun _ => False) nq) (fun _ _ h => h)
  case q2 => omega
  case q3 => exact HV.out
  case q4 => unfold maxLen; omega
  case q5 => exact hbase
  case q6 =>
    intro g' cap' w1 hown1 hgrow hat hlt
    have hbs : b < w.heap.size := by omega
    have hk1 : Kept (fun k => k = g) w w1 := ((Kept.drewN nq).trans ((Kept.of_grown hgrow).mono (fun k _ e => by simpa [Value.ownBlock] using e)))
    have c1 : w1.cell? ⟨b, o, none⟩ = some (.slice (some ⟨g, 0, none⟩) n cap) := (hk1.cell ⟨b, o, none⟩ hbs (by simp; omega)).trans h0
    have f1 : w1.frozen? ⟨b, o, none⟩ = false := (hk1.frozen ⟨b, o, none⟩ hbs (by simp; omega)).trans hf
    have HP : Hid _ := pushed_of (v := .slice (some ⟨g, 0, none⟩) n cap) hb (hk1.mono (fun k _ e => .inr (by simp [Value.ownBlock, e]))) (fun j _ => hk1.cell ⟨b, j, none⟩ hbs (by simp; omega)) (fun j => hk1.frozen ⟨b, j, none⟩ hbs (by simp; omega)) c1 hown1 (by rcases hat with e | e; exact .inl e; exact .inr (by omega))
    clear hgrow hown1 hk1 hat HOWN HV H1
    go_wp2
    go_end0
    exact ⟨rfl, HP.out⟩

theorem size_zeros (z : Array Value) (k : Nat) : (Builtin.zeroCells z k).size = k * z.size := by simp [Builtin.zeroCells]

/-- slices.Grow of a full queue: a new row, with room for one more at least. -/
theorem grow_own (base n m : Nat) (a : Option Addr) (xs : List Value) (w : World) (hown : w.ownsRow base 67 4 (.slice a n n) n xs) (hm : 1 ≤ m) (hm2 : m ≤ 1000000) (hn : n ≤ 1000000) (hbase : base ≤ w.heap.size) :
    Calls Ybgu.prog 11 #[.slice a n n, .int .i64 m] w fun e w' => ∃ cap, e = .returned (.slice (some ⟨w.heap.size, 0, none⟩) n cap) ∧ w'.ownsRow base 67 4 (.slice (some ⟨w.heap.size, 0, none⟩) n cap) n xs ∧ n + 1 ≤ cap ∧ cap ≤ maxLen ∧ w.heap.size < w'.heap.size ∧ Kept (fun _ => False) w w' := by
  obtain ⟨i, hi, hz, hs, hby⟩ := info67
  have hlen := hown.1
  refine (Ybgu.slices_Grow_grow i _ hi hz (by omega) a n n m xs w (Nat.le_refl _) (by omega) (by rw [hby]; omega) (by omega) (by rw [hs]; exact hlen) ?_ ?_).mono ?_
  · intro h
    subst h
    rcases hown.2 with ⟨_, h⟩ | ⟨g, cap, cur, e, _⟩
    · exact h
    · simp at e
  · intro ad had
    subst had
    obtain ⟨ab, ao, sp⟩ := ad
    rcases hown.2 with ⟨e, _⟩ | ⟨g, cap, cur, e, _⟩
    · simp at e
    · simp at e
      obtain ⟨⟨rfl, rfl, rfl⟩, _⟩ := e
      exact hown.cells rfl
  · rintro e w' ⟨rfl, rfl⟩
    have hge := grownCap_ge w (n + m) n 67
    have hle := grownCap_le_maxLen w (n + m) n 67 (by unfold maxLen; omega)
    generalize grownCap w (n + m) n 67 = cap at hge hle ⊢
    refine ⟨cap, rfl, ⟨hlen, .inr ⟨w.heap.size, cap, _, rfl, hbase, heap_alloc_new w.drew _, by omega, hle, ?_, ?_⟩⟩, by omega, hle, by simp, Kept.drew.trans (Kept.alloc _)⟩
    · simp only [Array.size_append, size_zeros, Value.cells, List.size_toArray, List.length_cons, List.length_nil, hlen]
      omega
    · simp only [Array.toList_append, List.append_assoc]
      rw [List.take_append_of_le_length (by simp [hlen]), List.take_of_length_le (by simp [hlen])]

set_option maxRecDepth 100000 in
set_option maxHeartbeats 1600000 in
theorem push_grow (base b o n bv : Nat) (a : Option Addr) (xs news : List Value) (w : World) (h0 : w.cell? ⟨b, o, none⟩ = some (.slice a n n)) (hf : w.frozen? ⟨b, o, none⟩ = false)
    (hown : w.ownsRow base 67 4 (.slice a n n) n xs) (hb : b < base) (hbase : base ≤ w.heap.size) (hl : news.length = 4)
    (hv : ∀ j u, news[j]? = some u → w.cell? ((⟨bv, 0, none⟩ : Addr).add j) = some u) (h1 : ∀ u ∈ news, u.oneCell' = true) (hn : n ≤ 1000000) (hbv : bv ≠ b) :
    Calls Ybgu.prog 4 #[.pointer (some ⟨b, o, none⟩), .slice (some ⟨bv, 0, none⟩) 1 1] w fun e w' => e = .returned (.tuple #[]) ∧ Pushed base b o (.slice a n n) n xs news w w' := by
  obtain ⟨i, hi, hz, hs, hby⟩ := info67
  have HOWN : Hid _ := hown
  have HV : Hid _ := hv
  have H1 : Hid _ := h1
  have hr : (n : Int) < (n : Int) + 1 := by omega
  obtain ⟨m, hm1, hm2, hmx⟩ : ∃ m : Nat, 1 ≤ m ∧ m ≤ 1000000 ∧ max (1 : Int) (n : Int) = (m : Int) := ⟨max 1 n, by omega, by omega, by omega⟩
  clear hown hv h1
  go_enter Ybgu.func4, Ybgu.ntmps4
  go_wp2_with fail
  go_quiet (fail)
  go_wp2_with fail
  go_region_with (go_at_call 11; refine (grow_own base n m a xs _ (own_kept HOWN.out (Kept.drewN (S := fun _ => False) _) (fun _ _ h => h)) hm1 hm2 hn hbase).mono ?_; rintro e w' ⟨cap, rfl, hown', hroom', hc', hlt', hk'⟩; have c1 : w'.cell? ⟨b, o, none⟩ = some (.slice a n n) := (hk'.cell ⟨b, o, none⟩ (by simp; omega) (fun h => h)).trans h0; have f1 : w'.frozen? ⟨b, o, none⟩ = false := (hk'.frozen ⟨b, o, none⟩ (by simp; omega) (fun h => h)).trans hf)
  all_goals
    have f0 : (w'.setCell ⟨b, o, none⟩ (.slice (some ⟨w.heap.size, 0, none⟩) n cap)).frozen? ⟨b, o, none⟩ = false := by rw [World.frozen?_setCell]; exact f1
    have hkw : Kept (fun k => k = b) w (w'.setCell ⟨b, o, none⟩ (.slice (some ⟨w.heap.size, 0, none⟩) n cap)) := ((Kept.drewN _).trans (hk'.mono (fun _ _ h => h.elim))).trans (Kept.setCell rfl)
    have hcb : ∀ j, j ≠ o → (w'.setCell ⟨b, o, none⟩ (.slice (some ⟨w.heap.size, 0, none⟩) n cap)).cell? ⟨b, j, none⟩ = w.cell? ⟨b, j, none⟩ := fun j hj => by
      have hne : (⟨b, o, none⟩ : Addr) ≠ ⟨b, j, none⟩ := fun e => hj (by cases e; rfl)
      rw [World.cell?_setCell_other _ _ _ _ hne]; exact hk'.cell ⟨b, j, none⟩ (by simp; omega) (fun h => h)
    have hfb : ∀ j, (w'.setCell ⟨b, o, none⟩ (.slice (some ⟨w.heap.size, 0, none⟩) n cap)).frozen? ⟨b, j, none⟩ = w.frozen? ⟨b, j, none⟩ := fun j => by
      rw [World.frozen?_setCell]; exact hk'.frozen ⟨b, j, none⟩ (by simp; omega) (fun h => h)
    have how : (w'.setCell ⟨b, o, none⟩ (.slice (some ⟨w.heap.size, 0, none⟩) n cap)).ownsRow base 67 4 (.slice (some ⟨w.heap.size, 0, none⟩) n cap) n xs := own_kept hown' (Kept.setCell (S := fun k => k = b) rfl) (fun g e h => by simp [Value.ownBlock] at e; omega)
    have hzs : w.heap.size < (w'.setCell ⟨b, o, none⟩ (.slice (some ⟨w.heap.size, 0, none⟩) n cap)).heap.size := by simpa [World.setCell] using hlt'
    have c0 : (w'.setCell ⟨b, o, none⟩ (.slice (some ⟨w.heap.size, 0, none⟩) n cap)).cell? ⟨b, o, none⟩ = some (.slice (some ⟨w.heap.size, 0, none⟩) n cap) := World.cell?_setCell_same _ _ _ c1
    clear hown' hk' c1 f1 HOWN
    generalize w'.setCell ⟨b, o, none⟩ (.slice (some ⟨w.heap.size, 0, none⟩) n cap) = W2 at *
    have HOW : Hid _ := how
    have HKW : Hid _ := hkw
    have HCB : Hid _ := hcb
    have HFB : Hid _ := hfb
    clear how hkw hcb hfb
    go_wp2_with (at_builtin; refine wpList_append_lies _ rfl (.tmp 38) (.tmp 39) 55 rfl base 67 i _ 4 32 Ybgu.underlying55 hi hz hs hby rfl (by omega) (.slice (some ⟨w.heap.size, 0, none⟩) n cap) n xs rfl ?q1 ⟨bv, 0, none⟩ 1 1 news rfl ?q2 ?q3 H1.out (by omega) ?q4 (by omega) ?q5 _ rfl ?q6)
    case q1 => exact HOW.out
    case q2 => omega
    case q3 =>
      intro j u hj
      have hcw := HV.out j u hj
      have hlt2 := World.block_lt_of_cell? _ _ hcw
      have hbk : ((⟨bv, 0, none⟩ : Addr).add j).block = bv := by unfold Addr.add; split <;> rfl
      exact (HKW.out.cell _ hlt2 (by rw [hbk]; exact hbv)).trans hcw
    case q4 => unfold maxLen; omega
    case q5 => omega
    case q6 =>
      intro g' cap' w1 hown1 hgrow hat hlt
      have hbs : b < W2.heap.size := by omega
      have hk1 : Kept (fun k => k = w.heap.size) W2 w1 := (Kept.of_grown hgrow).mono (fun k _ e => by simpa [Value.ownBlock] using e)
      have c1 : w1.cell? ⟨b, o, none⟩ = some (.slice (some ⟨w.heap.size, 0, none⟩) n cap) := (hk1.cell ⟨b, o, none⟩ hbs (by simp; omega)).trans c0
      have f1 : w1.frozen? ⟨b, o, none⟩ = false := (hk1.frozen ⟨b, o, none⟩ hbs (by simp; omega)).trans f0
      have HP : Hid _ := pushed_of (v := .slice a n n) (w := w) hb ((HKW.out.mono (fun k _ e => .inl e)).after hk1 (fun k hk e => by omega)) (fun j hj => (hk1.cell ⟨b, j, none⟩ hbs (by simp; omega)).trans (HCB.out j hj)) (fun j => (hk1.frozen ⟨b, j, none⟩ hbs (by simp; omega)).trans (HFB.out j)) c1 hown1 (by rcases hat with e | e; exact .inr (by simp [Value.ownBlock] at e; omega); exact .inr (by omega))
      clear hgrow hown1 hk1 hat HV H1 HOW HKW HCB HFB c0 f0
      go_wp2
      go_end0
      exact ⟨rfl, HP.out⟩

/-- Push of one hold. -/
theorem push_any (base b o n bv : Nat) (v : Value) (xs news : List Value) (w : World) (h0 : w.cell? ⟨b, o, none⟩ = some v) (hf : w.frozen? ⟨b, o, none⟩ = false)
    (hown : w.ownsRow base 67 4 v n xs) (hb : b < base) (hbase : base ≤ w.heap.size) (hl : news.length = 4)
    (hv : ∀ j u, news[j]? = some u → w.cell? ((⟨bv, 0, none⟩ : Addr).add j) = some u) (h1 : ∀ u ∈ news, u.oneCell' = true) (hn : n ≤ 1000000) (hbv : bv ≠ b) :
    Calls Ybgu.prog 4 #[.pointer (some ⟨b, o, none⟩), .slice (some ⟨bv, 0, none⟩) 1 1] w fun e w' => e = .returned (.tuple #[]) ∧ Pushed base b o v n xs news w w' := by
  rcases hown.2 with ⟨rfl, rfl⟩ | ⟨g, cap, cur, rfl, hg, hgg, hnc, hcm, hcs, ht⟩
  · exact push_grow base b o 0 bv none xs news w h0 hf hown hb hbase hl hv h1 hn hbv
  · by_cases hc : n + 1 ≤ cap
    · exact push_room base b o g n cap bv xs news w h0 hf hown hb hbase hl hv h1 hn hcm hc
    · have e : cap = n := by omega
      subst e
      exact push_grow base b o cap bv _ xs news w h0 hf hown hb hbase hl hv h1 hn hbv
end Go.Proofs.Yboneinjo
