import Derived.Test.YboneinjoLink
import Derived.Test.YboneinjoAppend
import Derived.Test.YboneinjoLocks
import Derived.Test.YboneinjoComm
import Derived.Conc.MuLone
import Derived.Deep.Cut
namespace Go.Proofs.Yboneinjo
open Go.RowKit Go.MuLone Go.Conc

theorem info5 : ∃ i, Ybgu.prog.info? 5 = some i ∧ i.zero = some (.int .u8 0) ∧ i.size = 1 ∧ i.bytes = 1 := by
  have h : (Ybgu.prog.info? 5).map (fun i => (i.zero, i.size, i.bytes)) = some (some (.int .u8 0), 1, 1) := by kernel_rfl
  obtain ⟨i, hi, hb⟩ := Option.map_eq_some_iff.1 h
  simp only [Prod.mk.injEq] at hb
  exact ⟨i, hi, hb.1, hb.2.1, hb.2.2⟩

/-- A time in memory, whole. -/
structure TimeAt (b : Nat) (d : Int) (W : World) : Prop where
  c0 : W.cell? ⟨b, 0, none⟩ = some (.int .u64 (dwall d))
  c1 : W.cell? ⟨b, 1, none⟩ = some (.int .i64 (dext d))
  c2 : W.cell? ⟨b, 2, none⟩ = some (.pointer none)
  lt : b < W.heap.size
theorem TimeAt.on {b : Nat} {d : Int} {W W' : World} {S : Nat → Prop} (h : TimeAt b d W) (k : Kept S W W') (hs : ¬ S b) : TimeAt b d W' :=
  ⟨(k.cell ⟨b, 0, none⟩ h.lt hs).trans h.c0, (k.cell ⟨b, 1, none⟩ h.lt hs).trans h.c1, (k.cell ⟨b, 2, none⟩ h.lt hs).trans h.c2, Nat.lt_of_lt_of_le h.lt k.size⟩

theorem nexth_none (hs : List (Int × Int)) (d e : Int) (h : hs.length = 0) : nexth hs d e = hs ++ [(d, e)] := by
  have : hs = [] := List.length_eq_zero_iff.1 h
  subst this; rfl
theorem nexth_push (hs : List (Int × Int)) (d e : Int) {i : Nat} {p : Int × Int} (hp : hs[i]? = some p) (hi : i = hs.length - 1) (h : p.1 < d) : nexth hs d e = hs ++ [(d, e)] := by
  subst hi
  simp only [nexth, hp]
  rw [if_neg (by omega)]
theorem nexth_merge (hs : List (Int × Int)) (d e : Int) {i : Nat} {p : Int × Int} (hp : hs[i]? = some p) (hi : i = hs.length - 1) (h : d ≤ p.1) : nexth hs d e = hs.set i (p.1, e) := by
  subst hi
  simp only [nexth, hp]
  rw [if_pos h]

theorem kept1 (W : World) (a : Obj) : Kept (fun _ => False) W (W.alloc a).drew := (Kept.alloc _).trans Kept.drew
theorem lit1 (W : World) (a : Obj) : (W.alloc a).drew.heap[W.heap.size]? = some a := heap_alloc_new W a

/-- Push of one hold. -/
theorem push_ps {w0 : World} {lb c B : Nat} {p0 i0 : Value} {W : World} {mu : Int} {cn pend items : Value} {base : Int} {buf : Array Value} {bs : List Int} {hs : List (Int × Int)} (h : PS w0 lb c B p0 i0 W mu cn pend items base buf bs hs)
    (hsz0 : w0.heap.size ≤ W.heap.size) {bv : Nat} {cs : Array Value} (p : Int × Int) (hbv : W.heap[bv]? = some (.cells cs 67)) (hcs : cs.toList = hcell p) (hn : hs.length ≤ 1000000) (hne : bv ≠ lb) :
    Calls Ybgu.prog 4 #[.pointer (some ⟨lb, 4, none⟩), .slice (some ⟨bv, 0, none⟩) 1 1] W fun e W' => e = .returned (.tuple #[]) ∧ ∃ g cap, PS w0 lb c B p0 i0 W' mu cn pend (.slice (some ⟨g, 0, none⟩) (hs.length + 1) cap) base buf bs (hs ++ [p]) := by
  refine (push_any B lb 4 hs.length bv items (hcells hs) (hcell p) W h.h4 (h.fz 4) h.hown h.lt h.size rfl (hcs ▸ World.news_of_block hbv) (by simp [hcell, Value.oneCell']) hn hne).mono ?_
  rintro e W' ⟨rfl, hp⟩
  exact ⟨rfl, h.pushed hsz0 hp⟩

set_option maxRecDepth 100000 in
set_option maxHeartbeats 1600000 in
theorem put_carry (w : World) (lb c B cb : Nat) (pend items : Value) (base : Int) (buf : Array Value) (bs ms : List Int) (hs : List (Int × Int)) (af : Option Addr) (mf cf : Nat) (d : Int)
    (h : PS w lb c B pend items w 0 (.pointer (some ⟨cb, 0, none⟩)) pend items base buf bs hs) (hbuf : buf = #[] ∨ buf = #[.agg #[]]) (d0 : -32768 ≤ d) (d1 : d ≤ 32767) (b0 : 0 ≤ base) (b1 : base ≤ 65535)
    (hms : ms.length = mf) (hmf : mf ≤ 1024) (hbs : bs.length ≤ 1000000) (hhs : hs.length ≤ 1000) (hd : ∀ p ∈ hs, -32768 ≤ p.1 ∧ p.1 ≤ 32767)
    (hsrc : (af = none ∧ mf = 0 ∧ cf = 0) ∨ ∃ ad, af = some ad ∧ ∀ j u, (cellsOf ms)[j]? = some u → (ad.add j).block ≠ lb ∧ w.cell? (ad.add j) = some u) :
    Calls Ybgu.prog 6 #[.pointer (some ⟨lb, 0, none⟩), .slice af mf cf, .agg #[.int .u64 (dwall d), .int .i64 (dext d), .pointer none]] w fun e W' => e = .returned (.tuple #[]) ∧
      ∃ pend' items', PS w lb c B pend items W' 0 (.pointer (some ⟨cb, 0, none⟩)) pend' items' base #[.agg #[]] (bs ++ ms) (nexth hs d (base + ((bs.length : Int) + (ms.length : Int)))) := by
  subst hms
  obtain ⟨ap, cp, rfl⟩ := own_form h.pown
  obtain ⟨n, hn⟩ : ∃ n, hs.length = n := ⟨_, rfl⟩
  obtain ⟨ai, ci, rfl⟩ := own_form h.hown
  rw [hn] at h hhs
  have HN : Hid _ := hn
  clear hn
  obtain ⟨i, hi, hz, hsz, hby⟩ := info5
  have hB := h.size
  have hlb := h.lt
  have H : Hid _ := h
  have HSRC : Hid _ := hsrc
  have HD : Hid _ := hd
  clear h hsrc hd
  go_enter Ybgu.func6, Ybgu.ntmps6
  go_wp2_with fail
  have H0 : Hid _ := H.out.on (Kept.alloc (.cells #[.int .u64 (dwall d), .int .i64 (dext d), .pointer none] 65))
  have T0 : Hid (TimeAt w.heap.size d (w.alloc (.cells #[.int .u64 (dwall d), .int .i64 (dext d), .pointer none] 65))) := ⟨by simp [go_sem], by simp [go_sem], by simp [go_sem], by simp⟩
  have K0 : Hid (Kept (fun _ => False) w (w.alloc (.cells #[.int .u64 (dwall d), .int .i64 (dext d), .pointer none] 65))) := Kept.alloc _
  generalize w.alloc (.cells #[.int .u64 (dwall d), .int .i64 (dext d), .pointer none] 65) = W0 at H0 T0 K0 ⊢
  refine (lock_free Ybgu.muLib ⟨lb, 0, none⟩ W0 H0.out.h0 (H0.out.fz 0)).mono ?_
  rintro e w' ⟨rfl, rfl⟩
  have H1 : Hid _ := H0.out.mutex 1
  have T1 : Hid _ := T0.out.on (S := fun k => k = lb) (Kept.setCell (a := ⟨lb, 0, none⟩) (v := .int .i32 1) rfl) (by have := H0.out.lt; omega)
  have K1 : Hid (Kept (fun k => k = lb) w (W0.setCell ⟨lb, 0, none⟩ (.int .i32 1))) := (K0.out.mono (fun _ _ x => x.elim)).trans (Kept.setCell rfl)
  generalize W0.setCell ⟨lb, 0, none⟩ (.int .i32 1) = W1 at H1 T1 K1 ⊢
  clear H0 T0 K0
  have c2 := H1.out.h2
  have c3 := H1.out.h3
  have f3 := H1.out.fz 3
  have hB1 := H1.out.size
  go_wp2_with (at_builtin; refine wpList_append_src _ rfl (.tmp 21) (.tmp 22) 22 rfl B 5 i _ 1 1 Ybgu.underlying22 hi hz hsz hby rfl (by omega) (.slice ap bs.length cp) bs.length (cellsOf bs) rfl H1.out.pown af ms.length cf (cellsOf ms) rfl ?q1 ?q2 (cellsOf_one ms) ?q3 ?q4 ?q5 ?q6)
  case q1 => rw [cellsOf_length, Nat.mul_one]
  case q2 =>
    rcases HSRC.out with x | ⟨ad, e, x⟩
    · exact .inl x
    · exact .inr ⟨ad, e, fun j u hu => (K1.out.cell _ (World.block_lt_of_cell? _ _ (x j u hu).2) (x j u hu).1).trans (x j u hu).2⟩
  case q3 => unfold maxLen; omega
  case q4 => omega
  case q5 => exact hB1
  case q6 =>
  intro a' c' W2 hown hgrow hat
  have hpl := H.out.pown.lt
  have hplb : ¬ (some lb = (Value.slice ap bs.length cp).ownBlock) := fun e => by have := (hpl lb e.symm).1; omega
  have kg : Kept (fun k => some k = (Value.slice ap bs.length cp).ownBlock) W1 W2 := Kept.of_grown hgrow
  have H3 : Hid _ := H1.out.appended K1.out.size hown hgrow hat
  have T2 := T1.out.on kg (fun e => by have := (hpl _ e.symm).2; omega)
  have T3 : Hid _ := T2.on (S := fun k => k = lb) (Kept.setCell (a := ⟨lb, 3, none⟩) (v := .slice a' (bs.length + ms.length) c') rfl) (by omega)
  have k3 : W2.cell? ⟨lb, 3, none⟩ = some (.slice ap bs.length cp) := (kg.cell ⟨lb, 3, none⟩ (by simp; omega) hplb).trans H1.out.h3
  have g3 : W2.frozen? ⟨lb, 3, none⟩ = false := (kg.frozen ⟨lb, 3, none⟩ (by simp; omega) hplb).trans f3
  have SZ : Hid (w.heap.size ≤ (W2.setCell ⟨lb, 3, none⟩ (.slice a' (bs.length + ms.length) c')).heap.size) := by
    have e1 := K1.out.size
    have e2 := kg.size
    show _ ≤ _
    simp [World.setCell]; omega
  clear hown hgrow hat kg T2 H1 T1 K1 c2 c3 f3 HSRC hpl
  go_upto_region 4 with fail
  generalize W2.setCell ⟨lb, 3, none⟩ (.slice a' (bs.length + ms.length) c') = W3 at H3 T3 SZ ⊢
  clear k3 g3 hi hz hsz hby i
  have p3 := H3.out.h3
  have p7 := H3.out.h7
  go_quiet (fail)
  have H4 : Hid _ := H3.out.on (Kept.drewN nq)
  have T4 : Hid _ := T3.out.on (S := fun _ => False) (Kept.drewN nq) (fun x => x)
  have SZ4 : Hid (w.heap.size ≤ (W3.drewN nq).heap.size) := SZ.out
  generalize W3.drewN nq = W4 at H4 T4 SZ4 ⊢
  clear p3 p7 H3 T3 SZ
  go_wp2_with fail
  refine (len_any lb 4 n ci ai W4 H4.out.h4 H4.out.h5 (by omega)).mono ?_
  rintro e w' ⟨rfl, k5, rfl⟩
  have H5 : Hid _ := H4.out.on (Kept.drewN k5)
  have T5 : Hid _ := T4.out.on (S := fun _ => False) (Kept.drewN k5) (fun x => x)
  have SZ5 : Hid (w.heap.size ≤ (W4.drewN k5).heap.size) := SZ4.out
  generalize W4.drewN k5 = W5 at H5 T5 SZ5 ⊢
  clear H4 T4 SZ4
  go_upto_region 6 with fail
  by_cases hn0 : n = 0
  · have hg0 : decide ((0 : Int) < (n : Int)) = false := decide_eq_false (by omega)
    go_quiet (fail)
    go_upto_region 8 with fail
    have H8 : Hid _ := H5.out.on (Kept.drewN nq)
    have T8 : Hid _ := T5.out.on (S := fun _ => False) (Kept.drewN nq) (fun x => x)
    have SZ8 : Hid (w.heap.size ≤ (W5.drewN nq).heap.size) := SZ5.out
    generalize W5.drewN nq = W8 at H8 T8 SZ8 ⊢
    have t0 := T8.out.c0
    have t1 := T8.out.c1
    have t2 := T8.out.c2
    have hsz := SZ8.out
    have hsz2 := H8.out.size
    clear H5 T5 SZ5
    go_region_with (go_at_call 4; refine (push_ps (H8.out.on (kept1 W8 _)) (Nat.le_trans hsz (kept1 W8 _).size) (d, base + ((bs.length : Int) + (ms.length : Int))) (lit1 W8 _) rfl (by rw [HN.out]; omega) (by omega)).mono ?_; rintro e W9 ⟨rfl, g9, cap9, h9⟩)
    have H9 : Hid _ := h9
    clear h9 t0 t1 t2 H8 T8 SZ8 hsz hsz2
    go_upto_region 9 with fail
    have m0 := H9.out.h0
    have mf := H9.out.fz 0
    go_wp2_with fail
    refine (unlock_held Ybgu.muLib ⟨lb, 0, none⟩ _ m0 mf).mono ?_
    rintro e w' ⟨rfl, rfl⟩
    have HU : Hid _ := H9.out.mutex 0
    generalize W9.setCell ⟨lb, 0, none⟩ (.int .i32 0) = WU at HU ⊢
    clear m0 mf H9
    have u8 := HU.out.h8
    obtain ⟨s, hc⟩ := HU.out.chan
    have HC : Hid _ := hc
    clear hc
    go_upto_region 12 with fail
    refine wp_region_at ?_
    change wpAt _ _ _ [0, 1, 2] _ _
    rcases hbuf with rfl | rfl
    · refine wpAt_select_room (c := c) (cap := 1) (buf := #[]) (v := .agg #[]) (z := .agg #[]) (s := s) (r := 0) (tm := false) rfl rfl (by simp [go_sem, execOp, scase, Act.eval]) HC.out (by decide) ?_
      refine wpAt_from 1 rfl ?_
      simp only [List.drop_succ_cons, List.drop_zero]
      have HE : Hid _ := HU.out.woken s
      go_wp2
      go_end0
      refine ⟨rfl, ?_⟩
      rw [nexth_none hs d _ (by rw [HN.out]; exact hn0), HN.out]
      exact ⟨_, _, HE.out⟩
    · refine wpAt_select_full (c := c) (cap := 1) (buf := #[.agg #[]]) (v := .agg #[]) (z := .agg #[]) (s := s) (r := 0) (tm := false) rfl rfl (by simp [go_sem, execOp, scase, Act.eval]) HC.out (by decide) ?_
      refine wpAt_from 1 rfl ?_
      simp only [List.drop_succ_cons, List.drop_zero]
      go_wp2
      go_end0
      refine ⟨rfl, ?_⟩
      rw [nexth_none hs d _ (by rw [HN.out]; exact hn0), HN.out]
      exact ⟨_, _, HU.out⟩
  · obtain ⟨g, cg, hv, hgB, hgl⟩ := H5.out.hown.form (by have := HN.out; omega)
    simp only [Value.slice.injEq] at hv
    obtain ⟨rfl, hx, rfl⟩ := hv
    clear hx
    obtain ⟨i, hin, hi1, hpi⟩ : ∃ i : Nat, i < n ∧ (n : Int) - 1 = (i : Int) ∧ i = hs.length - 1 := ⟨n - 1, by omega, by omega, by rw [HN.out]⟩
    have HPI : Hid _ := hpi
    obtain ⟨p, hp⟩ : ∃ p, hs[i]? = some p := ⟨hs[i]'(by rw [HN.out]; exact hin), List.getElem?_eq_getElem _⟩
    have HP : Hid _ := hp
    have hg0 : decide ((0 : Int) < (n : Int)) = true := decide_eq_true (by omega)
    have hg1 : decide (0 < n) = true := decide_eq_true (by omega)
    have hwi : IntKind.i64.wrap (i : Int) = (i : Int) := by rw [IntKind.wrap_i64]; omega
    have pd := HD.out p (List.mem_of_getElem? hp)
    obtain ⟨pd0, pd1⟩ := pd
    clear hpi hp
    have hlen4 : (hcells hs).length = n * 4 := by rw [hcells_length, HN.out]
    have ho : W5.ownsRow B 67 4 (.slice (some ⟨g, 0, none⟩) n ci) n (hcells hs) := by have := H5.out.hown; rw [HN.out] at this; exact this
    have r0 := ho.cellAt (i * 4) (by omega)
    have r1 := ho.cellAt (i * 4 + 1) (by omega)
    have r2 := ho.cellAt (i * 4 + 2) (by omega)
    rw [show i * 4 = i * 4 + 0 from rfl, hcells_at hs i p HP.out 0 (by omega)] at r0
    rw [hcells_at hs i p HP.out 1 (by omega)] at r1
    rw [hcells_at hs i p HP.out 2 (by omega)] at r2
    simp only [hcell, List.getElem?_cons_zero, List.getElem?_cons_succ, Nat.add_zero] at r0 r1 r2
    have t0 := T5.out.c0
    have t1 := T5.out.c1
    have t2 := T5.out.c2
    have tl := T5.out.lt
    have SX : ∀ W, Kept (fun _ => False) W5 W → W.cell? ⟨w.heap.size, 0, none⟩ = some (.int .u64 (dwall d)) ∧ W.cell? ⟨w.heap.size, 1, none⟩ = some (.int .i64 (dext d)) ∧ W.cell? ⟨w.heap.size, 2, none⟩ = some (.pointer none) ∧
        W.cell? ⟨g, i * 4, none⟩ = some (.int .u64 (dwall p.1)) ∧ W.cell? ⟨g, i * 4 + 1, none⟩ = some (.int .i64 (dext p.1)) ∧ W.cell? ⟨g, i * 4 + 2, none⟩ = some (.pointer none) := fun W k =>
      ⟨(k.cell ⟨w.heap.size, 0, none⟩ tl (fun x => x)).trans t0, (k.cell ⟨w.heap.size, 1, none⟩ tl (fun x => x)).trans t1, (k.cell ⟨w.heap.size, 2, none⟩ tl (fun x => x)).trans t2,
        (k.cell ⟨g, i * 4, none⟩ hgl (fun x => x)).trans r0, (k.cell ⟨g, i * 4 + 1, none⟩ hgl (fun x => x)).trans r1, (k.cell ⟨g, i * 4 + 2, none⟩ hgl (fun x => x)).trans r2⟩
    have HSX : Hid _ := SX
    clear SX ho hlen4
    by_cases hle : d ≤ p.1
    · have hbb : decide (p.1 < d) = false := decide_eq_false (by omega)
      go_region_held3 (fun x => x.cell? ⟨w.heap.size, 0, none⟩ = some (.int .u64 (dwall d)) ∧ x.cell? ⟨w.heap.size, 1, none⟩ = some (.int .i64 (dext d)) ∧ x.cell? ⟨w.heap.size, 2, none⟩ = some (.pointer none) ∧
          x.cell? ⟨g, i * 4, none⟩ = some (.int .u64 (dwall p.1)) ∧ x.cell? ⟨g, i * 4 + 1, none⟩ = some (.int .i64 (dext p.1)) ∧ x.cell? ⟨g, i * 4 + 2, none⟩ = some (.pointer none)) (exact HSX.out _ (by repeat (first | exact Kept.refl _ _ | refine Kept.trans ?_ Kept.drew | refine Kept.trans ?_ (Kept.drewN _) | refine Kept.trans ?_ (Kept.alloc _))))
        (first | (go_at_call 9; refine (at_any lb 4 g n ci i _ (H5.out.on (by repeat (first | exact Kept.refl _ _ | refine Kept.trans ?_ Kept.drew | refine Kept.trans ?_ (Kept.drewN _) | refine Kept.trans ?_ (Kept.alloc _)))).h4 (H5.out.on (by repeat (first | exact Kept.refl _ _ | refine Kept.trans ?_ Kept.drew | refine Kept.trans ?_ (Kept.drewN _) | refine Kept.trans ?_ (Kept.alloc _)))).h5 (by omega) hin).mono ?_; rintro e w' ⟨rfl, k6, rfl⟩) | (go_at_call 14; refine (after_any d p.1 d0 d1 pd0 pd1 _).mono ?_; rintro e w' ⟨rfl, f1, f2, rfl⟩))
      have H7 : Hid _ := H5.out.on (((Kept.drewN (S := fun _ => False) (1 + k6)).trans (Kept.alloc (.cells f1 65))).trans (Kept.alloc (.cells f2 65)))
      generalize ((W5.drewN (1 + k6)).alloc (.cells f1 65)).alloc (.cells f2 65) = W7 at H7 ⊢
      clear H5 T5 SZ5 HSX r0 r1 r2 t0 t1 t2 tl hgl
      go_wp2_with fail
      refine (at_any lb 4 g n ci i _ H7.out.h4 H7.out.h5 (by omega) hin).mono ?_
      rintro e w' ⟨rfl, k7, rfl⟩
      have H8 : Hid _ := H7.out.on (Kept.drewN k7)
      generalize W7.drewN k7 = W8 at H8 ⊢
      clear H7
      have ho : W8.ownsRow B 67 4 (.slice (some ⟨g, 0, none⟩) n ci) n (hcells hs) := by have := H8.out.hown; rw [HN.out] at this; exact this
      have hlen4 : (hcells hs).length = n * 4 := by rw [hcells_length, HN.out]
      have r3 := ho.cellAt (i * 4 + 3) (by omega)
      have f3 := ho.frozenAt (i * 4 + 3)
      rw [hcells_at hs i p HP.out 3 (by omega)] at r3
      simp only [hcell, List.getElem?_cons_zero, List.getElem?_cons_succ] at r3
      have H9 : Hid _ := H8.out.merged (base + ((bs.length : Int) + (ms.length : Int))) rfl HP.out
      clear ho hlen4 H8
      go_upto_region 9 with fail
      generalize W8.setCell ⟨g, i * 4 + 3, none⟩ (.int .i64 (base + ((bs.length : Int) + (ms.length : Int)))) = W9 at H9 ⊢
      clear r3 f3
      go_upto_region 9 with fail
      have m0 := H9.out.h0
      have mf := H9.out.fz 0
      go_wp2_with fail
      refine (unlock_held Ybgu.muLib ⟨lb, 0, none⟩ _ m0 mf).mono ?_
      rintro e w' ⟨rfl, rfl⟩
      have HU : Hid _ := H9.out.mutex 0
      generalize W9.setCell ⟨lb, 0, none⟩ (.int .i32 0) = WU at HU ⊢
      clear m0 mf H9
      have u8 := HU.out.h8
      obtain ⟨s, hc⟩ := HU.out.chan
      have HC : Hid _ := hc
      clear hc
      go_upto_region 12 with fail
      refine wp_region_at ?_
      change wpAt _ _ _ [0, 1, 2] _ _
      rcases hbuf with rfl | rfl
      · refine wpAt_select_room (c := c) (cap := 1) (buf := #[]) (v := .agg #[]) (z := .agg #[]) (s := s) (r := 0) (tm := false) rfl rfl (by simp [go_sem, execOp, scase, Act.eval]) HC.out (by decide) ?_
        refine wpAt_from 1 rfl ?_
        simp only [List.drop_succ_cons, List.drop_zero]
        have HE : Hid _ := HU.out.woken s
        go_wp2
        go_end0
        refine ⟨rfl, ?_⟩
        rw [nexth_merge hs d _ HP.out HPI.out (by omega), HN.out]
        exact ⟨_, _, HE.out⟩
      · refine wpAt_select_full (c := c) (cap := 1) (buf := #[.agg #[]]) (v := .agg #[]) (z := .agg #[]) (s := s) (r := 0) (tm := false) rfl rfl (by simp [go_sem, execOp, scase, Act.eval]) HC.out (by decide) ?_
        refine wpAt_from 1 rfl ?_
        simp only [List.drop_succ_cons, List.drop_zero]
        go_wp2
        go_end0
        refine ⟨rfl, ?_⟩
        rw [nexth_merge hs d _ HP.out HPI.out (by omega), HN.out]
        exact ⟨_, _, HU.out⟩
    · have hbb : decide (p.1 < d) = true := decide_eq_true (by omega)
      go_region_held3 (fun x => x.cell? ⟨w.heap.size, 0, none⟩ = some (.int .u64 (dwall d)) ∧ x.cell? ⟨w.heap.size, 1, none⟩ = some (.int .i64 (dext d)) ∧ x.cell? ⟨w.heap.size, 2, none⟩ = some (.pointer none) ∧
          x.cell? ⟨g, i * 4, none⟩ = some (.int .u64 (dwall p.1)) ∧ x.cell? ⟨g, i * 4 + 1, none⟩ = some (.int .i64 (dext p.1)) ∧ x.cell? ⟨g, i * 4 + 2, none⟩ = some (.pointer none)) (exact HSX.out _ (by repeat (first | exact Kept.refl _ _ | refine Kept.trans ?_ Kept.drew | refine Kept.trans ?_ (Kept.drewN _) | refine Kept.trans ?_ (Kept.alloc _))))
        (first | (go_at_call 9; refine (at_any lb 4 g n ci i _ (H5.out.on (by repeat (first | exact Kept.refl _ _ | refine Kept.trans ?_ Kept.drew | refine Kept.trans ?_ (Kept.drewN _) | refine Kept.trans ?_ (Kept.alloc _)))).h4 (H5.out.on (by repeat (first | exact Kept.refl _ _ | refine Kept.trans ?_ Kept.drew | refine Kept.trans ?_ (Kept.drewN _) | refine Kept.trans ?_ (Kept.alloc _)))).h5 (by omega) hin).mono ?_; rintro e w' ⟨rfl, k6, rfl⟩) | (go_at_call 14; refine (after_any d p.1 d0 d1 pd0 pd1 _).mono ?_; rintro e w' ⟨rfl, f1, f2, rfl⟩))
      go_upto_region 8 with fail
      have K8 : Kept (fun _ => False) W5 (((W5.drewN (1 + k6)).alloc (.cells f1 65)).alloc (.cells f2 65)) := (((Kept.drewN (S := fun _ => False) (1 + k6)).trans (Kept.alloc (.cells f1 65))).trans (Kept.alloc (.cells f2 65)))
      have H8 : Hid _ := H5.out.on K8
      have T8 : Hid _ := T5.out.on K8 (fun x => x)
      have SZ8 : Hid _ := Nat.le_trans SZ5.out K8.size
      clear HSX K8 r0 r1 r2 t0 t1 t2 tl hgl
      generalize ((W5.drewN (1 + k6)).alloc (.cells f1 65)).alloc (.cells f2 65) = W8 at H8 T8 SZ8 ⊢
      have t0 := T8.out.c0
      have t1 := T8.out.c1
      have t2 := T8.out.c2
      have hsz := SZ8.out
      have hsz2 := H8.out.size
      clear H5 T5 SZ5
      go_region_with (go_at_call 4; refine (push_ps (H8.out.on (kept1 W8 _)) (Nat.le_trans hsz (kept1 W8 _).size) (d, base + ((bs.length : Int) + (ms.length : Int))) (lit1 W8 _) rfl (by rw [HN.out]; omega) (by omega)).mono ?_; rintro e W9 ⟨rfl, g9, cap9, h9⟩)
      have H9 : Hid _ := h9
      clear h9 t0 t1 t2 H8 T8 SZ8 hsz hsz2
      go_upto_region 9 with fail
      have m0 := H9.out.h0
      have mf := H9.out.fz 0
      go_wp2_with fail
      refine (unlock_held Ybgu.muLib ⟨lb, 0, none⟩ _ m0 mf).mono ?_
      rintro e w' ⟨rfl, rfl⟩
      have HU : Hid _ := H9.out.mutex 0
      generalize W9.setCell ⟨lb, 0, none⟩ (.int .i32 0) = WU at HU ⊢
      clear m0 mf H9
      have u8 := HU.out.h8
      obtain ⟨s, hc⟩ := HU.out.chan
      have HC : Hid _ := hc
      clear hc
      go_upto_region 12 with fail
      refine wp_region_at ?_
      change wpAt _ _ _ [0, 1, 2] _ _
      rcases hbuf with rfl | rfl
      · refine wpAt_select_room (c := c) (cap := 1) (buf := #[]) (v := .agg #[]) (z := .agg #[]) (s := s) (r := 0) (tm := false) rfl rfl (by simp [go_sem, execOp, scase, Act.eval]) HC.out (by decide) ?_
        refine wpAt_from 1 rfl ?_
        simp only [List.drop_succ_cons, List.drop_zero]
        have HE : Hid _ := HU.out.woken s
        go_wp2
        go_end0
        refine ⟨rfl, ?_⟩
        rw [nexth_push hs d _ HP.out HPI.out (by omega), HN.out]
        exact ⟨_, _, HE.out⟩
      · refine wpAt_select_full (c := c) (cap := 1) (buf := #[.agg #[]]) (v := .agg #[]) (z := .agg #[]) (s := s) (r := 0) (tm := false) rfl rfl (by simp [go_sem, execOp, scase, Act.eval]) HC.out (by decide) ?_
        refine wpAt_from 1 rfl ?_
        simp only [List.drop_succ_cons, List.drop_zero]
        go_wp2
        go_end0
        refine ⟨rfl, ?_⟩
        rw [nexth_push hs d _ HP.out HPI.out (by omega), HN.out]
        exact ⟨_, _, HU.out⟩
end Go.Proofs.Yboneinjo
