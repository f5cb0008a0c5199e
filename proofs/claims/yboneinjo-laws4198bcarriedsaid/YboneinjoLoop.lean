import Derived.Test.YboneinjoTail
namespace Go.Proofs.Yboneinjo
open Go.RowKit Go.MuLone Go.Conc

set_option maxRecDepth 100000 in
set_option maxHeartbeats 1600000 in
/-- From the law's own bytes on: the loop over the puts. -/
theorem law_loop (a0 a3 : Option Addr) (len0 cap0 len3 cap3 : Nat) (base : Int) (hold pre : Bool) (ns : List Int) (w wc : World) (b0 : 0 ≤ base) (b1 : base ≤ 65535) (hl0 : len0 ≤ 1024) (hl3 : len3 ≤ 256)
    (hns : ns.length = len0) (hsrc : (a0 = none ∧ len0 = 0 ∧ cap0 = 0) ∨ ∃ ad, a0 = some ad ∧ ∀ j u, (cellsOf ns)[j]? = some u → w.cell? (ad.add j) = some u)
    (A : Nat → Option Addr) (L C : Nat → Nat) (D : Nat → Int) (F : Nat → List Int)
    (hr : ∀ r, r < len3 → (-32768 ≤ D r ∧ D r ≤ 32767) ∧ (F r).length = L r ∧ ((A r = none ∧ L r = 0 ∧ C r = 0) ∨ ∃ ad, A r = some ad ∧ ∀ j u, (cellsOf (F r))[j]? = some u → w.cell? (ad.add j) = some u) ∧
      ∃ bp op, a3 = some ⟨bp, op, none⟩ ∧ w.cell? ⟨bp, op + r * 2, none⟩ = some (.slice (A r) (L r) (C r)) ∧ w.cell? ⟨bp, op + r * 2 + 1, none⟩ = some (.int .i16 (D r)))
    (hall : ∀ r, r < len3 → L r ≤ 1024) (n cd ce : Nat) (ad ae : Option Addr) (hcut : LI0 w wc base (if pre then #[.agg #[]] else #[]) ns n (.slice ad n cd) (.slice ae n ce))
    {u5 u6 u7 u8 u9 u10 u11 u16 u17 u18 u19 u20 u21 u22 u23 u24 u25 u26 u27 u28 u29 u30 u31 u32 u33 u34 u35 u36 u37 u38 u39 u40 u41 u42 u43 u44 u45 u46 u47 u48 u49 u50 u51 u52 u53 u54 u55 u56 u57 u58 u59 u60 u61 u62 u63 u64 u65 u66 u67 u68 u69 u70 u71 u72 u73 u74 u75 u76 u77 u78 u79 u80 u81 u82 u83 u84 u85 u86 u87 u88 u89 u90 u91 u92 u93 u94 u95 u96 u97 u98 u99 u100 u101 u102 u103 u104 u105 u106 u107 u108 u109 u110 u111 u112 u113 u114 u115 u116 u117 u118 u119 u120 u121 u122 u123 u124 u125 u126 u127 u128 u129 u130 u131 u132 u133 u134 u135 u136 u137 u138 u139 u140 u141 u142 u143 u144 u145 u146 u147 u148 u149 u150 u151 u152 u153 u154 u155 u156 u157 u158 u159 u160 u161 u162 u163 u164 u165 u166 u167 u168 u169 u170 u171 u172 u173 u174 u175 u176 u177 u178 u179 u180 u181 u182 u183 u184 u185 u186 u187 u188 u189 u190 u191 u192 u193 u194 u195 u196 u197 u198 u199 u200 u201 u202 u203 u204 u205 u206 u207 u208 u209 u210 u211 u212 u213 u214 u215 u216 u217 u218 u219 u220 u221 u222 u223 : Value} :
    Code.wp Ybgu.prog (tl 10 lawText) (lawPost w) ⟨List.toArray ((.slice a0 len0 cap0) :: (.int .u16 base) :: (.bool hold) :: (.slice a3 len3 cap3) :: (.bool pre) :: u5 :: u6 :: u7 :: u8 :: u9 :: u10 :: u11 :: (.pointer (some ⟨w.heap.size, 0, none⟩)) :: (.pointer (some ⟨w.heap.size + 1 + 1, 0, none⟩)) :: (.slice ad n cd) :: (.slice ae n ce) :: u16 :: u17 :: u18 :: u19 :: u20 :: u21 :: u22 :: u23 :: u24 :: u25 :: u26 :: u27 :: u28 :: u29 :: u30 :: u31 :: u32 :: u33 :: u34 :: u35 :: u36 :: u37 :: u38 :: u39 :: u40 :: u41 :: u42 :: u43 :: u44 :: u45 :: u46 :: u47 :: u48 :: u49 :: u50 :: u51 :: u52 :: u53 :: u54 :: u55 :: u56 :: u57 :: u58 :: u59 :: u60 :: u61 :: u62 :: u63 :: u64 :: u65 :: u66 :: u67 :: u68 :: u69 :: u70 :: u71 :: u72 :: u73 :: u74 :: u75 :: u76 :: u77 :: u78 :: u79 :: u80 :: u81 :: u82 :: u83 :: u84 :: u85 :: u86 :: u87 :: u88 :: u89 :: u90 :: u91 :: u92 :: u93 :: u94 :: u95 :: u96 :: u97 :: u98 :: u99 :: u100 :: u101 :: u102 :: u103 :: u104 :: u105 :: u106 :: u107 :: u108 :: u109 :: u110 :: u111 :: u112 :: u113 :: u114 :: u115 :: u116 :: u117 :: u118 :: u119 :: u120 :: u121 :: u122 :: u123 :: u124 :: u125 :: u126 :: u127 :: u128 :: u129 :: u130 :: u131 :: u132 :: u133 :: u134 :: u135 :: u136 :: u137 :: u138 :: u139 :: u140 :: u141 :: u142 :: u143 :: u144 :: u145 :: u146 :: u147 :: u148 :: u149 :: u150 :: u151 :: u152 :: u153 :: u154 :: u155 :: u156 :: u157 :: u158 :: u159 :: u160 :: u161 :: u162 :: u163 :: u164 :: u165 :: u166 :: u167 :: u168 :: u169 :: u170 :: u171 :: u172 :: u173 :: u174 :: u175 :: u176 :: u177 :: u178 :: u179 :: u180 :: u181 :: u182 :: u183 :: u184 :: u185 :: u186 :: u187 :: u188 :: u189 :: u190 :: u191 :: u192 :: u193 :: u194 :: u195 :: u196 :: u197 :: u198 :: u199 :: u200 :: u201 :: u202 :: u203 :: u204 :: u205 :: u206 :: u207 :: u208 :: u209 :: u210 :: u211 :: u212 :: u213 :: u214 :: u215 :: u216 :: u217 :: u218 :: u219 :: u220 :: u221 :: u222 :: u223 :: []), []⟩ wc := by
  conv => arg 2; whnf
  have HSRC : Hid _ := hsrc
  have HNS : Hid _ := hns
  have HR : Hid _ := hr
  have HALL : Hid _ := hall
  have HLJ : Hid _ := hcut
  clear hsrc hns hr hall hcut
  obtain ⟨pend0, items0, hs0, hl, hln, hln1, hld⟩ := HLJ.out
  have HL0 : Hid _ := hl
  have HH0 : Hid (hs0.length = n ∧ n ≤ 1 ∧ ∀ p ∈ hs0, -32768 ≤ p.1 ∧ p.1 ≤ 32767) := ⟨hln, hln1, hld⟩
  clear hl hln hld HLJ
  go_wp2_with (at_builtin; refine LS.append_want (n := 0) (N := len0) HL0.out rfl a0 len0 cap0 ns HNS.out (by omega) (by omega) HSRC.out rfl (.const (.slice none 0 0)) (.tmp 89) rfl rfl rfl ?_; intro aw cw W8 _ H8; have HL8 : Hid _ := H8; clear H8 HL0)
  clear HSRC
  go_loopg [14, 15, 16, 17] len3 (fun gk s14 s15 s16 s17 wr => ∃ (k n nw cd ce cw : Nat) (ad ae aw : Option Addr), k + gk = len3 ∧ s14 = .slice ad n cd ∧ s15 = .slice ae n ce ∧ s16 = .slice aw nw cw ∧ s17 = .int .i64 k ∧ n ≤ k + 1 ∧ nw ≤ 1024 * (k + 1) ∧ LI w wr pre base k n nw (.slice aw nw cw) (.slice ad n cd) (.slice ae n ce))
  case atStart =>
    refine ⟨0, n, len0, cd, ce, cw, ad, ae, aw, by omega, rfl, rfl, rfl, rfl, by omega, by omega, pend0, items0, _, ns, hs0, HL8.out, HH0.out.1, HNS.out, HH0.out.2.2, ?_⟩
    cases pre
    · exact .inl ⟨rfl, rfl, rfl⟩
    · exact .inr ⟨rfl, .inr rfl⟩
  case round =>
    clear HL8 HH0 HNS hln1
    obtain ⟨k, n2, nw, cd2, ce2, cw2, ad2, ae2, aw2, hkg, rfl, rfl, rfl, rfl, hn2, hnw, hli⟩ := hrel
    obtain ⟨pend, items, buf, bs, hs, hls, hhn, hbn, hhd, hbuf⟩ := hli
    have HLS : Hid _ := hls
    have HHN : Hid _ := hhn
    have HBN : Hid _ := hbn
    have HHD : Hid _ := hhd
    have HBUF : Hid _ := hbuf
    clear hls hhn hbn hhd hbuf
    by_cases hlt : k < len3
    · obtain ⟨⟨d0, d1⟩, hFl, hFs, bp, op, rfl, hc0, hc1⟩ := HR.out k hlt
      have hm := HALL.out k hlt
      generalize D k = d at d0 d1 hc1
      generalize L k = m at hFl hFs hc0 hm
      generalize A k = af at hFs hc0
      generalize C k = cf at hFs hc0
      generalize F k = ms at hFl hFs
      have HFL : Hid _ := hFl
      have HFS : Hid _ := hFs
      have hbp := World.block_lt_of_cell? _ _ hc0
      have e0 := (HLS.out.kept.cell _ hbp (by simp at hbp ⊢; omega)).trans hc0
      have e1 := (HLS.out.kept.cell ⟨bp, op + k * 2 + 1, none⟩ hbp (by simp at hbp ⊢; omega)).trans hc1
      clear hFl hFs hc0 hc1
      go_upto_region 24 with fail
      have H1 : Hid _ := HLS.out.on (Kept.alloc (.cells #[.slice af m cf, .int .i16 d] 27))
      have q0 : (wr.alloc (.cells #[.slice af m cf, .int .i16 d] 27)).cell? ⟨wr.heap.size, 0, none⟩ = some (.slice af m cf) := by simp [go_sem]
      have q1 : (wr.alloc (.cells #[.slice af m cf, .int .i16 d] 27)).cell? ⟨wr.heap.size, 1, none⟩ = some (.int .i16 d) := by simp [go_sem]
      have hpl : wr.heap.size < (wr.alloc (.cells #[.slice af m cf, .int .i16 d] 27)).heap.size := by simp
      obtain ⟨hp3, hpp, hpi, hpw⟩ := HLS.out.next
      generalize wr.alloc (.cells #[.slice af m cf, .int .i16 d] 27) = W1 at H1 q0 q1 hpl ⊢
      generalize wr.heap.size = pb at q0 q1 hpl hp3 hpp hpi hpw ⊢
      have HPP : Hid _ := hpp
      have HPI : Hid _ := hpi
      have HPW : Hid _ := hpw
      clear hpp hpi hpw HLS e0 e1 hbp
      have HBB : Hid (buf = #[] ∨ buf = #[.agg #[]]) := by rcases HBUF.out with x | x; exact .inl x.1; exact .inr x.1
      have hwd : IntKind.i64.wrap d = d := by rw [IntKind.wrap_i64]; omega
      have SX : ∀ W, Kept (fun _ => False) W1 W → W.cell? ⟨pb, 0, none⟩ = some (.slice af m cf) ∧ W.cell? ⟨pb, 1, none⟩ = some (.int .i16 d) := fun W k =>
        ⟨(k.cell ⟨pb, 0, none⟩ hpl (fun x => x)).trans q0, (k.cell ⟨pb, 1, none⟩ hpl (fun x => x)).trans q1⟩
      have HSX : Hid _ := SX
      clear SX
      go_region_held3 (fun x => x.cell? ⟨pb, 0, none⟩ = some (.slice af m cf) ∧ x.cell? ⟨pb, 1, none⟩ = some (.int .i16 d)) (first | exact HS2.out | exact HSX.out _ (by repeat (first | exact Kept.refl _ _ | refine Kept.trans ?_ Kept.drew | refine Kept.trans ?_ (Kept.drewN _) | refine Kept.trans ?_ (Kept.alloc _))))
        (first | (go_at_call 5; refine (due_any d d0 d1 _).mono ?_; rintro e w' ⟨rfl, e1, e2, e3, rfl⟩) | (go_at_call 6; refine (put_carry _ (w.heap.size + 2) (w.heap.size + 1) (w.heap.size + 3) w.heap.size pend items base buf bs ms hs af m cf d (H1.out.on (by repeat (first | exact Kept.refl _ _ | refine Kept.trans ?_ Kept.drew | refine Kept.trans ?_ (Kept.drewN _) | refine Kept.trans ?_ (Kept.alloc _)))).ps HBB.out d0 d1 b0 b1 HFL.out hm (by rw [HBN.out]; omega) (by rw [HHN.out]; omega) HHD.out ((H1.out.on (by repeat (first | exact Kept.refl _ _ | refine Kept.trans ?_ Kept.drew | refine Kept.trans ?_ (Kept.drewN _) | refine Kept.trans ?_ (Kept.alloc _)))).src HFS.out)).mono ?_; rintro e W2 ⟨rfl, pend', items', hp⟩; have HP2 : Hid _ := hp; clear hp; have HS2 : Hid (W2.cell? ⟨pb, 0, none⟩ = some (.slice af m cf) ∧ W2.cell? ⟨pb, 1, none⟩ = some (.int .i16 d)) := ⟨(HP2.out.cell_away pb 0 hp3 (Nat.lt_of_lt_of_le hpl (Kept.size (S := fun _ => False) (by repeat (first | exact Kept.refl _ _ | refine Kept.trans ?_ Kept.drew | refine Kept.trans ?_ (Kept.drewN _) | refine Kept.trans ?_ (Kept.alloc _))))) HPP.out HPI.out).trans (HSX.out _ (by repeat (first | exact Kept.refl _ _ | refine Kept.trans ?_ Kept.drew | refine Kept.trans ?_ (Kept.drewN _) | refine Kept.trans ?_ (Kept.alloc _)))).1, (HP2.out.cell_away pb 1 hp3 (Nat.lt_of_lt_of_le hpl (Kept.size (S := fun _ => False) (by repeat (first | exact Kept.refl _ _ | refine Kept.trans ?_ Kept.drew | refine Kept.trans ?_ (Kept.drewN _) | refine Kept.trans ?_ (Kept.alloc _))))) HPP.out HPI.out).trans (HSX.out _ (by repeat (first | exact Kept.refl _ _ | refine Kept.trans ?_ Kept.drew | refine Kept.trans ?_ (Kept.drewN _) | refine Kept.trans ?_ (Kept.alloc _)))).2⟩))
      have H2 : Hid _ := LS.put (H1.out.on (by repeat (first | exact Kept.refl _ _ | refine Kept.trans ?_ Kept.drew | refine Kept.trans ?_ (Kept.drewN _) | refine Kept.trans ?_ (Kept.alloc _)))) HP2.out
      have p0 := HS2.out.1
      have p1 := HS2.out.2
      clear H1 HSX q0 q1 hpl HP2
      obtain ⟨N, hN⟩ : ∃ N, nw + m = N := ⟨_, rfl⟩
      go_upto_region 29 with (at_builtin; refine LS.append_want (N := N) H2.out HBN.out af m cf ms HFL.out hN (by omega) HFS.out rfl (.tmp 109) (.tmp 111) rfl rfl rfl ?_; intro aw3 cw3 W3 k3 h3; have H3 : Hid _ := h3; have r1 : W3.cell? ⟨pb, 1, none⟩ = some (.int .i16 d) := (k3.cell ⟨pb, 1, none⟩ (World.block_lt_of_cell? _ _ HS2.out.2) (fun e => HPW.out e.symm)).trans HS2.out.2; clear h3 k3 p0 p1 H2 HS2)
      clear HPP HPI HPW r1 hp3 HBB HBUF hwd
      by_cases hn0 : n2 = 0
      · have hg0 : decide ((0 : Int) < (n2 : Int)) = false := decide_eq_false (by omega)
        have HX : Hid (∀ e, nexth hs d e = hs ++ [(d, e)]) := fun e => nexth_none hs d e (HHN.out.trans hn0)
        have hg1 : ¬ 0 < n2 := by omega
        have hg2 : decide (0 < n2) = false := decide_eq_false hg1
        clear hn0
        go_wp2_with (first | (at_builtin; refine LS.append_dues (n := n2) H3.out (by rw [List.length_map]; exact HHN.out) (by omega) d rfl (.tmp 139) (.tmp 141) rfl rfl rfl ?_; intro ad3 cd3 W4 h4; have H4 : Hid _ := h4; clear h4) | (at_builtin; refine LS.append_ends (n := n2) H4.out (by rw [List.length_map]; exact HHN.out) (by omega) (base + (N : Int)) rfl (.tmp 143) (.tmp 145) rfl rfl rfl ?_; intro ae3 ce3 W5 h5; have H5 : Hid _ := h5; clear h5))
        go_roundg (gk - 1)
        case measure => omega
        case rel => exact ⟨k + 1, n2 + 1, N, cd3, ce3, cw3, ad3, ae3, aw3, by omega, rfl, rfl, rfl, by go_num, by omega, by omega, LI.pushed H5.out (by rw [HBN.out, HFL.out]; omega) HX.out HHN.out (by rw [HBN.out, HFL.out]; exact hN) d0 d1 HHD.out⟩
      · obtain ⟨i, hin, hi1, hpi⟩ : ∃ i : Nat, i < n2 ∧ (n2 : Int) - 1 = (i : Int) ∧ i = hs.length - 1 := ⟨n2 - 1, by omega, by omega, by rw [HHN.out]⟩
        obtain ⟨p, hp⟩ : ∃ p, hs[i]? = some p := ⟨hs[i]'(by rw [HHN.out]; exact hin), List.getElem?_eq_getElem _⟩
        obtain ⟨gd, rfl, rd⟩ := H3.out.dues_cell (by rw [List.length_map]; exact HHN.out) (i := i) (x := p.1) (by rw [List.getElem?_map, hp]; rfl)
        obtain ⟨ge, rfl, re, rf⟩ := H3.out.ends_cell (by rw [List.length_map]; exact HHN.out) (i := i) (x := p.2) (by rw [List.getElem?_map, hp]; rfl)
        have HP : Hid _ := hp
        have HPI : Hid _ := hpi
        clear hp hpi
        have hg0 : decide ((0 : Int) < (n2 : Int)) = true := decide_eq_true (by omega)
        have hwi : IntKind.i64.wrap (i : Int) = (i : Int) := by rw [IntKind.wrap_i64]; omega
        by_cases hle : d ≤ p.1
        · have hbb : decide (d ≤ p.1) = true := decide_eq_true hle
          have HX : Hid (∀ e, nexth hs d e = hs.set i (p.1, e)) := fun e => nexth_merge hs d e HP.out HPI.out hle
          go_wp2_with fail
          go_roundg (gk - 1)
          case measure => omega
          case rel => exact ⟨k + 1, n2, N, cd2, ce2, cw3, some ⟨gd, 0, none⟩, some ⟨ge, 0, none⟩, aw3, by omega, rfl, rfl, rfl, by go_num, by omega, by omega, LI.merged (H3.out.ends_set (by rw [List.length_map]; exact HHN.out) (base + (N : Int))) (by rw [HBN.out, HFL.out]; omega) HX.out HP.out HHN.out (by rw [HBN.out, HFL.out]; exact hN) HHD.out⟩
        · have hbb : decide (d ≤ p.1) = false := decide_eq_false hle
          have HX : Hid (∀ e, nexth hs d e = hs ++ [(d, e)]) := fun e => nexth_push hs d e HP.out HPI.out (by omega)
          go_wp2_with (first | (at_builtin; refine LS.append_dues (n := n2) H3.out (by rw [List.length_map]; exact HHN.out) (by omega) d rfl (.tmp 139) (.tmp 141) rfl rfl rfl ?_; intro ad3 cd3 W4 h4; have H4 : Hid _ := h4; clear h4) | (at_builtin; refine LS.append_ends (n := n2) H4.out (by rw [List.length_map]; exact HHN.out) (by omega) (base + (N : Int)) rfl (.tmp 143) (.tmp 145) rfl rfl rfl ?_; intro ae3 ce3 W5 h5; have H5 : Hid _ := h5; clear h5))
          go_roundg (gk - 1)
          case measure => omega
          case rel => exact ⟨k + 1, n2 + 1, N, cd3, ce3, cw3, ad3, ae3, aw3, by omega, rfl, rfl, rfl, by go_num, by omega, by omega, LI.pushed H5.out (by rw [HBN.out, HFL.out]; omega) HX.out HHN.out (by rw [HBN.out, HFL.out]; exact hN) d0 d1 HHD.out⟩
    · obtain rfl : len3 = k := by omega
      clear hlt hkg HR HALL
      go_upto_region 33 with fail
      go_cut [22] from 22 to 22 (fun s22 wc => s22 = .int .i64 0 ∧ wr = wc)
      case first =>
        go_wp2_with fail
        go_meet
        exact ⟨rfl, rfl⟩
      case rest =>
      obtain ⟨rfl, rfl⟩ := hcut
      go_step
      exact law_tail a0 a3 len0 cap0 len3 cap3 base hold pre w wr hl3 b0 b1 n2 nw cd2 ce2 cw2 ad2 ae2 aw2 hn2 hnw ⟨pend, items, buf, bs, hs, HLS.out, HHN.out, HBN.out, HHD.out, HBUF.out⟩
end Go.Proofs.Yboneinjo
