import Derived.Test.YboneinjoLoop
namespace Go.Proofs.Yboneinjo
open Go.RowKit Go.MuLone Go.Conc

set_option maxRecDepth 100000 in
set_option maxHeartbeats 1600000 in
theorem law_main (a0 a3 : Option Addr) (len0 cap0 len3 cap3 : Nat) (base : Int) (hold pre : Bool) (ns : List Int) (w : World) (b0 : 0 ≤ base) (b1 : base ≤ 65535) (hl0 : len0 ≤ 1024) (hl3 : len3 ≤ 256)
    (hns : ns.length = len0) (hsrc : (a0 = none ∧ len0 = 0 ∧ cap0 = 0) ∨ ∃ ad, a0 = some ad ∧ ∀ j u, (cellsOf ns)[j]? = some u → w.cell? (ad.add j) = some u)
    (A : Nat → Option Addr) (L C : Nat → Nat) (D : Nat → Int) (F : Nat → List Int)
    (hr : ∀ r, r < len3 → (-32768 ≤ D r ∧ D r ≤ 32767) ∧ (F r).length = L r ∧ ((A r = none ∧ L r = 0 ∧ C r = 0) ∨ ∃ ad, A r = some ad ∧ ∀ j u, (cellsOf (F r))[j]? = some u → w.cell? (ad.add j) = some u) ∧
      ∃ bp op, a3 = some ⟨bp, op, none⟩ ∧ w.cell? ⟨bp, op + r * 2, none⟩ = some (.slice (A r) (L r) (C r)) ∧ w.cell? ⟨bp, op + r * 2 + 1, none⟩ = some (.int .i16 (D r))) :
    Calls Ybgu.prog 3 #[.slice a0 len0 cap0, .int .u16 base, .bool hold, .slice a3 len3 cap3, .bool pre] w fun e w' => e = .returned (.bool true) ∧ Below w.heap.size w w' := by
  have hl0' : decide ((1024 : Int) < (len0 : Int)) = false := decide_eq_false (by omega)
  have hl3' : decide ((256 : Int) < (len3 : Int)) = false := decide_eq_false (by omega)
  have HSRC : Hid _ := hsrc
  have HNS : Hid _ := hns
  have HR : Hid _ := hr
  clear hsrc hns hr
  go_enter Ybgu.func3, Ybgu.ntmps3
  go_wp2
  go_loopg [11] len3 (fun gk s11 wr => ∃ k : Nat, k + gk = len3 ∧ s11 = .int .i64 k ∧ w = wr ∧ ∀ r, r < k → L r ≤ 1024)
  case atStart => exact ⟨0, by omega, rfl, rfl, fun r h => by omega⟩
  case round =>
    obtain ⟨k, hk, rfl, rfl, hall⟩ := hrel
    have HALL : Hid _ := hall
    clear hall
    by_cases hlt : k < len3
    · obtain ⟨_, _, _, bp, op, rfl, hc0, _⟩ := HR.out k hlt
      by_cases hL : 1024 < L k
      · have hg : decide ((1024 : Int) < (L k : Int)) = true := decide_eq_true (by omega)
        generalize L k = Lk at hc0 hg
        go_wp2
        go_ret
        exact ⟨rfl, Below.refl _ _⟩
      · have hg : decide ((1024 : Int) < (L k : Int)) = false := decide_eq_false (by omega)
        have HL : Hid (L k ≤ 1024) := by show _ ≤ _; omega
        obtain ⟨Lk, hLk⟩ : ∃ x, L k = x := ⟨_, rfl⟩
        rw [hLk] at hc0 hg HL
        have HLK : Hid _ := hLk
        clear hLk
        go_wp2
        go_roundg (gk - 1)
        case measure => omega
        case rel => exact ⟨k + 1, by omega, by go_num, rfl, fun r h => by
          rcases Nat.lt_or_ge r k with h1 | h1
          · exact HALL.out r h1
          · have e : r = k := by omega
            subst e; exact HLK.out ▸ HL.out⟩
    · obtain rfl : len3 = k := by omega
      clear hlt hk
      have hmk := mk1
      obtain ⟨i, hi, hz, hs, hby⟩ := info5
      go_wp2_with (at_builtin; refine wpList_append_src _ rfl (.const (.slice none 0 0)) (.tmp 55) 22 rfl (w.heap.size + 3) 5 i _ 1 1 Ybgu.underlying22 hi hz hs hby rfl (by omega) (.slice none 0 0) 0 [] rfl (World.ownsRow_nil _ _ _ _) a0 len0 cap0 (cellsOf ns) rfl ?q1 ?q2 (cellsOf_one ns) ?q3 ?q4 ?q5 ?q6)
      case q1 => rw [cellsOf_length, HNS.out, Nat.mul_one]
      case q2 =>
        rcases HSRC.out with h | ⟨ad, e, h⟩
        · exact .inl h
        · exact .inr ⟨ad, e, fun j u hu => ((link0_kept w _ base).cell _ (World.block_lt_of_cell? _ _ (h j u hu)) (fun x => x)).trans (h j u hu)⟩
      case q3 => unfold maxLen; omega
      case q4 => omega
      case q5 => exact Nat.le_of_eq (link0_size w _ base).symm
      case q6 =>
      intro a' c' w1 hown hgrow hat
      have HST : Hid _ := LS.start w w1 _ a' len0 c' base ns HNS.out hown hgrow
      have hk1 : Kept (fun _ => False) (link0 w _ base) w1 := (Kept.of_grown hgrow).mono (fun k _ e => by simp [Value.ownBlock] at e)
      have c3 : w1.cell? ⟨w.heap.size + 2, 3, none⟩ = some (.slice none 0 0) := (hk1.cell ⟨w.heap.size + 2, 3, none⟩ (by simp [link0]) (fun x => x)).trans (link0_cell w _ base 3 _ rfl)
      have f3 : w1.frozen? ⟨w.heap.size + 2, 3, none⟩ = false := (hk1.frozen ⟨w.heap.size + 2, 3, none⟩ (by simp [link0]) (fun x => x)).trans (by simp [link0, go_sem])
      clear hown hgrow hat hk1
      go_upto_if 59 with fail
      generalize w1.setCell ⟨w.heap.size + 2, 3, none⟩ (.slice a' len0 c') = W4 at HST ⊢
      clear c3 f3 hmk hi hz hs hby i
      go_cut [14, 15] from 59 to 82 (fun s14 s15 wc => ∃ ad ae n cd ce, s14 = .slice ad n cd ∧ s15 = .slice ae n ce ∧ LI0 w wc base #[] ns n s14 s15)
      case first =>
        cases hold
        · go_wp2_with fail
          go_meet
          exact ⟨none, none, 0, 0, 0, rfl, rfl, _, _, [], HST.out, rfl, by omega, by simp⟩
        · have hw1 : IntKind.i64.wrap base = base := by rw [IntKind.wrap_i64]; omega
          have hw2 : IntKind.i64.wrap (base + (len0 : Int)) = base + (len0 : Int) := by rw [IntKind.wrap_i64]; omega
          have hsz := HST.out.ps.size
          go_upto_region 14 with fail
          go_region_with (first | (go_at_call 5; refine (due_any 0 (by omega) (by omega) _).mono ?_; rintro e w' ⟨rfl, e1, e2, e3, rfl⟩) | (go_at_call 4; refine (push_ps (HST.out.on (kept4 W4 _ _ _ _)).ps (Nat.le_refl _) (0, base + (len0 : Int)) (lit4 W4 _ _ _ _) rfl (by simp) (by omega)).mono ?_; rintro e W5 ⟨rfl, g, cap, hst5⟩))
          have HST5 : Hid _ := (HST.out.on (kept4 W4 _ _ _ _)).put hst5
          clear hst5 HST hsz
          go_wp2_with (first | (at_builtin; refine LS.append_dues (n := 0) HST5.out rfl (by omega) 0 rfl (.tmp 72) (.tmp 73) rfl rfl rfl ?_; intro ad cd W6 H6; have HST6 : Hid _ := H6; clear H6 HST5) | (at_builtin; refine LS.append_ends (n := 0) HST6.out rfl (by omega) (base + (len0 : Int)) rfl (.tmp 75) (.tmp 81) rfl rfl rfl ?_; intro ae ce W7 H7; have HST7 : Hid _ := H7; clear H7 HST6))
          go_meet
          exact ⟨ad, ae, 1, cd, ce, rfl, rfl, _, _, [(0, base + (len0 : Int))], HST7.out, rfl, by omega, by simp⟩
      case rest =>
      obtain ⟨ad, ae, n, cd, ce, rfl, rfl, hli⟩ := hcut
      have HLI : Hid _ := hli
      clear hli HST
      go_upto_if 83 with fail
      go_cut [] from 83 to 88 (fun wc => LI0 w wc base (if pre then #[.agg #[]] else #[]) ns n (.slice ad n cd) (.slice ae n ce))
      case first =>
        cases pre
        · go_wp2_with fail
          go_meet
          exact HLI.out
        · obtain ⟨pend, items, hs0, h1, h2, h3, h4⟩ := HLI.out
          obtain ⟨s0, hch⟩ := h1.ps.chan
          have c8 := h1.ps.h8
          clear h1 h2 h3 h4
          go_upto_region 18 with fail
          refine wp_region_at ?_
          change wpAt _ _ _ [0, 1, 2, 3, 4, 5] _ _
          refine wpAt_value (v := .pointer (some ⟨w.heap.size + 2, 0, none⟩)) (w' := wc) rfl rfl (by simp [go_sem, execOp, Act.eval]) ?_
          refine wpAt_value (v := .pointer (some ⟨w.heap.size + 2, 0, none⟩)) (w' := wc) rfl rfl (by simp [go_sem, execOp, Act.eval, Act.put]) ?_
          refine wpAt_value (v := .pointer (some ⟨w.heap.size + 2, 8, none⟩)) (w' := wc) rfl rfl (by simp [go_sem, execOp, Act.eval, Act.put]) ?_
          refine wpAt_value (v := .chan (some (w.heap.size + 1))) (w' := wc) rfl rfl (by simp [go_sem, execOp, Act.eval, Act.put, c8]) ?_
          refine wpAt_value (v := .agg #[]) (w' := wc) rfl rfl (by simp [go_sem, execOp, Act.eval, Act.put]) ?_
          refine wpAt_send_room (c := w.heap.size + 1) (cap := 1) (buf := #[]) (v := .agg #[]) (z := .tuple #[]) (s := s0) (r := 0) (tm := false) rfl rfl (by simp [go_sem, execOp, scase, Act.eval, Act.put]) hch (by decide) ?_
          have HLK : Hid (LI0 w (wc.setChan (w.heap.size + 1) 1 (#[].push (.agg #[])) false (s0 + 1) 0 false) base #[.agg #[]] ns n (.slice ad n cd) (.slice ae n ce)) := LI0.full HLI.out s0
          generalize wc.setChan (w.heap.size + 1) 1 (#[].push (.agg #[])) false (s0 + 1) 0 false = W6 at HLK ⊢
          refine wpAt_nil ?_
          simp only [Act.put, List.getElem_toArray, List.getElem_cons_succ, List.getElem_cons_zero, List.setIfInBounds_toArray, List.set_cons_succ, List.set_cons_zero]
          clear hch c8
          go_wp2_with fail
          go_meet
          exact HLK.out
      case rest =>
      go_step
      exact law_loop a0 a3 len0 cap0 len3 cap3 base hold pre ns w wc b0 b1 hl0 hl3 HNS.out HSRC.out A L C D F HR.out HALL.out n cd ce ad ae hcut
end Go.Proofs.Yboneinjo
