import Derived.Test.YboneinjoStart
import Derived.LoopTactic
import Derived.Deep.Light
import Derived.Deep.CutRange
namespace Go.Proofs.Yboneinjo
open Go.RowKit Go.MuLone Go.Conc

/-- What follows n statements. -/
def tl : Nat → Code → Code
  | n + 1, .seq _ b => tl n b
  | _, c => c
/-- The law's text. -/
noncomputable def lawText : Code := Ybgu.f3.body.getD .skip
/-- What the law must come to. -/
abbrev lawPost (w : World) : Exit → Act → World → Prop := bodyPost Ybgu.prog Ybgu.f3 fun e w' => e = .returned (.bool true) ∧ Below w.heap.size w w'

set_option maxRecDepth 100000 in
set_option maxHeartbeats 1600000 in
/-- Behind the loop over the puts: the law's four looks at the link. -/
theorem law_tail (a0 a3 : Option Addr) (len0 cap0 len3 cap3 : Nat) (base : Int) (hold pre : Bool) (w wr : World) (hl3 : len3 ≤ 256) (b0 : 0 ≤ base) (b1 : base ≤ 65535) (n2 nw cd2 ce2 cw2 : Nat) (ad2 ae2 aw2 : Option Addr) (hn2 : n2 ≤ len3 + 1) (hnw : nw ≤ 1024 * (len3 + 1))
    (hli : LI w wr pre base len3 n2 nw (.slice aw2 nw cw2) (.slice ad2 n2 cd2) (.slice ae2 n2 ce2))
    {u5 u6 u7 u8 u9 u10 u11 u17 u18 u19 u20 u21 u23 u24 u25 u26 u27 u28 u29 u30 u31 u32 u33 u34 u35 u36 u37 u38 u39 u40 u41 u42 u43 u44 u45 u46 u47 u48 u49 u50 u51 u52 u53 u54 u55 u56 u57 u58 u59 u60 u61 u62 u63 u64 u65 u66 u67 u68 u69 u70 u71 u72 u73 u74 u75 u76 u77 u78 u79 u80 u81 u82 u83 u84 u85 u86 u87 u88 u89 u90 u91 u92 u93 u94 u95 u96 u97 u98 u99 u100 u101 u102 u103 u104 u105 u106 u107 u108 u109 u110 u111 u112 u113 u114 u115 u116 u117 u118 u119 u120 u121 u122 u123 u124 u125 u126 u127 u128 u129 u130 u131 u132 u133 u134 u135 u136 u137 u138 u139 u140 u141 u142 u143 u144 u145 u146 u147 u148 u149 u150 u151 u152 u153 u154 u155 u156 u157 u158 u159 u160 u161 u162 u163 u164 u165 u166 u167 u168 u169 u170 u171 u172 u173 u174 u175 u176 u177 u178 u179 u180 u181 u182 u183 u184 u185 u186 u187 u188 u189 u190 u191 u192 u193 u194 u195 u196 u197 u198 u199 u200 u201 u202 u203 u204 u205 u206 u207 u208 u209 u210 u211 u212 u213 u214 u215 u216 u217 u218 u219 u220 u221 u222 u223 : Value} :
    Code.wp Ybgu.prog (tl 13 lawText) (lawPost w) ⟨List.toArray ((.slice a0 len0 cap0) :: (.int .u16 base) :: (.bool hold) :: (.slice a3 len3 cap3) :: (.bool pre) :: u5 :: u6 :: u7 :: u8 :: u9 :: u10 :: u11 :: (.pointer (some ⟨w.heap.size, 0, none⟩)) :: (.pointer (some ⟨w.heap.size + 1 + 1, 0, none⟩)) :: (.slice ad2 n2 cd2) :: (.slice ae2 n2 ce2) :: (.slice aw2 nw cw2) :: u17 :: u18 :: u19 :: u20 :: u21 :: (.int .i64 0) :: u23 :: u24 :: u25 :: u26 :: u27 :: u28 :: u29 :: u30 :: u31 :: u32 :: u33 :: u34 :: u35 :: u36 :: u37 :: u38 :: u39 :: u40 :: u41 :: u42 :: u43 :: u44 :: u45 :: u46 :: u47 :: u48 :: u49 :: u50 :: u51 :: u52 :: u53 :: u54 :: u55 :: u56 :: u57 :: u58 :: u59 :: u60 :: u61 :: u62 :: u63 :: u64 :: u65 :: u66 :: u67 :: u68 :: u69 :: u70 :: u71 :: u72 :: u73 :: u74 :: u75 :: u76 :: u77 :: u78 :: u79 :: u80 :: u81 :: u82 :: u83 :: u84 :: u85 :: u86 :: u87 :: u88 :: u89 :: u90 :: u91 :: u92 :: u93 :: u94 :: u95 :: u96 :: u97 :: u98 :: u99 :: u100 :: u101 :: u102 :: u103 :: u104 :: u105 :: u106 :: u107 :: u108 :: u109 :: u110 :: u111 :: u112 :: u113 :: u114 :: u115 :: u116 :: u117 :: u118 :: u119 :: u120 :: u121 :: u122 :: u123 :: u124 :: u125 :: u126 :: u127 :: u128 :: u129 :: u130 :: u131 :: u132 :: u133 :: u134 :: u135 :: u136 :: u137 :: u138 :: u139 :: u140 :: u141 :: u142 :: u143 :: u144 :: u145 :: u146 :: u147 :: u148 :: u149 :: u150 :: u151 :: u152 :: u153 :: u154 :: u155 :: u156 :: u157 :: u158 :: u159 :: u160 :: u161 :: u162 :: u163 :: u164 :: u165 :: u166 :: u167 :: u168 :: u169 :: u170 :: u171 :: u172 :: u173 :: u174 :: u175 :: u176 :: u177 :: u178 :: u179 :: u180 :: u181 :: u182 :: u183 :: u184 :: u185 :: u186 :: u187 :: u188 :: u189 :: u190 :: u191 :: u192 :: u193 :: u194 :: u195 :: u196 :: u197 :: u198 :: u199 :: u200 :: u201 :: u202 :: u203 :: u204 :: u205 :: u206 :: u207 :: u208 :: u209 :: u210 :: u211 :: u212 :: u213 :: u214 :: u215 :: u216 :: u217 :: u218 :: u219 :: u220 :: u221 :: u222 :: u223 :: []), []⟩ wr := by
  conv => arg 2; whnf
  obtain ⟨pend, items, buf, bs, hs, hls, hhn, hbn, hhd, hbuf⟩ := hli
  have HLS : Hid _ := hls
  have HHN : Hid _ := hhn
  have HBN : Hid _ := hbn
  have HHD : Hid _ := hhd
  have HBUF : Hid _ := hbuf
  clear hls hhn hbn hhd hbuf
  obtain ⟨ap, cp, rfl⟩ := own_form HLS.out.ps.pown
  obtain ⟨ai, ci, rfl⟩ := own_form HLS.out.ps.hown
  obtain ⟨s, hch⟩ := HLS.out.ps.chan
  obtain ⟨z, hz⟩ : ∃ z : Nat, buf.size = z := ⟨_, rfl⟩
  have plen := len_chan hch
  rw [hz] at plen
  obtain ⟨b, hb⟩ : ∃ b : Bool, b = (pre || decide (0 < len3)) := ⟨_, rfl⟩
  have HZ : Hid ((z : Int) = if b then 1 else 0) := by
    show (z : Int) = _
    rw [← hz, hb]
    rcases HBUF.out with ⟨rfl, rfl, rfl⟩ | ⟨rfl, x⟩
    · rfl
    · have : (pre || decide (0 < len3)) = true := by rcases x with x | x <;> simp [x]
      rw [this]; rfl
  have HB : Hid _ := hb
  have HCH : Hid _ := hch
  clear hch hz hb
  rw [HBN.out, HHN.out] at HLS
  go_upto_region 34 with fail
  go_cut [152] from 147 to 152 (fun s152 wc => s152 = .bool b ∧ wr = wc)
  case first =>
    cases pre
    · go_wp2_with fail
      go_meet
      exact ⟨by rw [HB.out]; simp, rfl⟩
    · go_wp2_with fail
      go_meet
      exact ⟨by rw [HB.out]; simp, rfl⟩
  case rest =>
  obtain ⟨rfl, rfl⟩ := hcut
  go_upto_if 152 with fail
  go_cut [22] from 152 to 152 (fun s22 wc => s22 = .int .i64 z ∧ wr = wc)
  case first =>
    cases b
    · have hz0 : (z : Int) = 0 := HZ.out
      go_wp2_with fail
      go_meet
      exact ⟨by rw [hz0], rfl⟩
    · have hz0 : (z : Int) = 1 := HZ.out
      go_wp2_with fail
      go_meet
      exact ⟨by rw [hz0], rfl⟩
  case rest =>
  obtain ⟨rfl, rfl⟩ := hcut
  have p2 := HLS.out.ps.h2
  have p3 := HLS.out.ps.h3
  have p7 := HLS.out.ps.h7
  have p8 := HLS.out.ps.h8
  have hneq := neq_conn ⟨w.heap.size, 0, none⟩
  have HB1 : Hid _ := bytes_row (by have := HLS.out.ps.pown; rw [HBN.out] at this; exact this)
  have HB2 : Hid _ := bytes_row (by have := HLS.out.wown; rw [HBN.out] at this; exact this)
  go_wp2_with (go_at_call 7; refine (Ybgu.bytes_Equal_all ap aw2 nw cp nw cw2 bs bs wr HBN.out HBN.out HB1.out HB2.out).mono ?_; rintro e w' ⟨rfl, rfl⟩)
  clear p2 p3 p7 p8 plen HB1 HB2 hneq
  refine (len_any (w.heap.size + 2) 4 n2 ci ai _ HLS.out.ps.h4 HLS.out.ps.h5 (by omega)).mono ?_
  rintro e w8 ⟨rfl, k8, rfl⟩
  have H8 : Hid _ := HLS.out.on (Kept.drewN k8)
  generalize w'.drewN k8 = W8 at H8 ⊢
  clear HLS HB HCH HZ HBUF HBN
  go_wp2_with fail
  go_loopg [23] n2 (fun gk s23 wx => ∃ j : Nat, j + gk = n2 ∧ s23 = .int .i64 j ∧ LS w wx (.slice ap nw cp) (.slice ai n2 ci) (.slice aw2 nw cw2) (.slice ad2 n2 cd2) (.slice ae2 n2 ce2) base buf bs hs bs (hs.map Prod.fst) (hs.map Prod.snd))
  case atStart => exact ⟨0, by omega, rfl, H8.out⟩
  case round =>
    clear H8
    obtain ⟨j, hjg, rfl, hls⟩ := hrel
    have HLX : Hid _ := hls
    clear hls
    by_cases hjl : j < n2
    · obtain ⟨g, ci', hv, _, hgl⟩ := HLX.out.ps.hown.form (by rw [HHN.out]; omega)
      simp only [Value.slice.injEq] at hv
      obtain ⟨rfl, hx, rfl⟩ := hv
      clear hx hgl
      obtain ⟨p, hp⟩ : ∃ p, hs[j]? = some p := ⟨hs[j]'(by rw [HHN.out]; exact hjl), List.getElem?_eq_getElem _⟩
      obtain ⟨gd, rfl, rd⟩ := HLX.out.dues_cell (by rw [List.length_map]; exact HHN.out) (i := j) (x := p.1) (by rw [List.getElem?_map, hp]; rfl)
      obtain ⟨ge, rfl, re, _⟩ := HLX.out.ends_cell (by rw [List.length_map]; exact HHN.out) (i := j) (x := p.2) (by rw [List.getElem?_map, hp]; rfl)
      obtain ⟨pd0, pd1⟩ := HHD.out p (List.mem_of_getElem? hp)
      have hbb : (p.1 == p.1) = true := beq_self_eq_true _
      have HP : Hid _ := hp
      clear hp rd re
      go_wp2_with fail
      refine (at_any (w.heap.size + 2) 4 g n2 ci j _ HLX.out.ps.h4 HLX.out.ps.h5 (by omega) hjl).mono ?_
      rintro e w9 ⟨rfl, k9, rfl⟩
      have HX9 : Hid _ := HLX.out.on (Kept.drewN k9)
      generalize wr.drewN k9 = W9 at HX9 ⊢
      clear HLX
      have ho : W9.ownsRow (w.heap.size + 3) 67 4 (.slice (some ⟨g, 0, none⟩) n2 ci) n2 (hcells hs) := by have := HX9.out.ps.hown; rw [HHN.out] at this; exact this
      obtain ⟨gd', hgd, rd⟩ := HX9.out.dues_cell (by rw [List.length_map]; exact HHN.out) (i := j) (x := p.1) (by rw [List.getElem?_map, HP.out]; rfl)
      obtain ⟨ge', hge, re, _⟩ := HX9.out.ends_cell (by rw [List.length_map]; exact HHN.out) (i := j) (x := p.2) (by rw [List.getElem?_map, HP.out]; rfl)
      simp only [Option.some.injEq, Addr.mk.injEq, and_true] at hgd hge
      obtain rfl := hgd
      obtain rfl := hge
      have r0 := ho.cellAt (j * 4) (by omega)
      have r1 := ho.cellAt (j * 4 + 1) (by omega)
      have r2 := ho.cellAt (j * 4 + 2) (by omega)
      have r3 := ho.cellAt (j * 4 + 3) (by omega)
      rw [show j * 4 = j * 4 + 0 from rfl, hcells_at hs j p HP.out 0 (by omega)] at r0
      rw [hcells_at hs j p HP.out 1 (by omega)] at r1
      rw [hcells_at hs j p HP.out 2 (by omega)] at r2
      rw [hcells_at hs j p HP.out 3 (by omega)] at r3
      simp only [hcell, List.getElem?_cons_zero, List.getElem?_cons_succ, Nat.add_zero] at r0 r1 r2 r3
      have SX : ∀ W, Kept (fun _ => False) W9 W → W.cell? ⟨g, j * 4, none⟩ = some (.int .u64 (dwall p.1)) ∧ W.cell? ⟨g, j * 4 + 1, none⟩ = some (.int .i64 (dext p.1)) ∧ W.cell? ⟨g, j * 4 + 2, none⟩ = some (.pointer none) ∧ W.cell? ⟨g, j * 4 + 3, none⟩ = some (.int .i64 p.2) ∧
          W.cell? ⟨gd, j, none⟩ = some (.int .i64 p.1) ∧ W.cell? ⟨ge, j, none⟩ = some (.int .i64 p.2) := fun W k =>
        ⟨(k.cell _ (World.block_lt_of_cell? _ _ r0) (fun x => x)).trans r0, (k.cell _ (World.block_lt_of_cell? _ _ r1) (fun x => x)).trans r1, (k.cell _ (World.block_lt_of_cell? _ _ r2) (fun x => x)).trans r2, (k.cell _ (World.block_lt_of_cell? _ _ r3) (fun x => x)).trans r3,
          (k.cell _ (World.block_lt_of_cell? _ _ rd) (fun x => x)).trans rd, (k.cell _ (World.block_lt_of_cell? _ _ re) (fun x => x)).trans re⟩
      have HSX : Hid _ := SX
      clear SX ho
      go_upto_region 46 with fail
      go_region_held3 (fun x => x.cell? ⟨g, j * 4, none⟩ = some (.int .u64 (dwall p.1)) ∧ x.cell? ⟨g, j * 4 + 1, none⟩ = some (.int .i64 (dext p.1)) ∧ x.cell? ⟨g, j * 4 + 2, none⟩ = some (.pointer none) ∧ x.cell? ⟨g, j * 4 + 3, none⟩ = some (.int .i64 p.2) ∧
          x.cell? ⟨gd, j, none⟩ = some (.int .i64 p.1) ∧ x.cell? ⟨ge, j, none⟩ = some (.int .i64 p.2)) (exact HSX.out _ (by repeat (first | exact Kept.refl _ _ | refine Kept.trans ?_ Kept.drew | refine Kept.trans ?_ (Kept.drewN _) | refine Kept.trans ?_ (Kept.alloc _))))
        (first | (go_at_call 5; refine (due_any p.1 pd0 pd1 _).mono ?_; rintro e w' ⟨rfl, c1, c2, c3, rfl⟩) | (go_at_call 10; refine (equal_any p.1 p.1 pd0 pd1 pd0 pd1 _).mono ?_; rintro e w' ⟨rfl, c4, c5, rfl⟩))
      go_wp2_with fail
      go_roundg (gk - 1)
      case measure => omega
      case rel => exact ⟨j + 1, by omega, by go_num, HX9.out.on (by repeat (first | exact Kept.refl _ _ | refine Kept.trans ?_ Kept.drew | refine Kept.trans ?_ (Kept.drewN _) | refine Kept.trans ?_ (Kept.alloc _)))⟩
    · obtain rfl : n2 = j := by omega
      clear hjl hjg
      go_wp2_with fail
      go_ret
      exact ⟨rfl, HLX.out.kept.below (Nat.le_refl _) (fun _ h => h)⟩
end Go.Proofs.Yboneinjo
