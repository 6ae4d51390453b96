import Derived.Test.YbulkacyeReb4
namespace Go.Proofs.Ybulkacye
open Go.RowKit Go.Proofs.Ybulkacye.Lcs
set_option linter.unusedVariables false
set_option linter.unusedSectionVars false
variable {v0 v1 v5 v6 v7 v8 v9 v12 v13 v15 v16 v17 v18 v19 v65 v66 v67 v82 v83 v84 v192 v193 : Value} {a : Act} {Q : Exit → Act → World → Prop} {w : World} {Wb gl gd gi go : Nat} {c : Nat} {ao bo : Option Addr} {ca cb : Nat} {bs ns : List UInt8} {oo : Option Addr} {oc : Nat}

set_option maxRecDepth 20000 in
theorem reb_walk (h63a : bs.length ≤ 9223372036854775807) (h63b : ns.length ≤ 9223372036854775807) (hA : Byts w.heap.size w ao bs) (hB : Byts w.heap.size w bo ns) :
    Calls Yba.prog 3 #[.slice ao bs.length ca, .slice bo ns.length cb] w fun e w' => e = .returned (.bool true) ∧ Below w.heap.size w w' := by
  go_enter Yba.func3, Yba.ntmps3
  show Code.wp Yba.prog (pc3 []) _ _ w
  have h0 : Fh (.slice ao bs.length ca) (.slice bo ns.length cb) undef undef undef undef undef undef undef undef undef undef undef undef undef undef undef undef undef undef undef undef ⟨#[.slice ao bs.length ca, .slice bo ns.length cb, undef, undef, undef, undef, undef, undef, undef, undef, undef, undef, undef, undef, undef, undef, undef, undef, undef, undef, undef, undef, undef, undef, undef, undef, undef, undef, undef, undef, undef, undef, undef, undef, undef, undef, undef, undef, undef, undef, undef, undef, undef, undef, undef, undef, undef, undef, undef, undef, undef, undef, undef, undef, undef, undef, undef, undef, undef, undef, undef, undef, undef, undef, undef, undef, undef, undef, undef, undef, undef, undef, undef, undef, undef, undef, undef, undef, undef, undef, undef, undef, undef, undef, undef, undef, undef, undef, undef, undef, undef, undef, undef, undef, undef, undef, undef, undef, undef, undef, undef, undef, undef, undef, undef, undef, undef, undef, undef, undef, undef, undef, undef, undef, undef, undef, undef, undef, undef, undef, undef, undef, undef, undef, undef, undef, undef, undef, undef, undef, undef, undef, undef, undef, undef, undef, undef, undef, undef, undef, undef, undef, undef, undef, undef, undef, undef, undef, undef, undef, undef, undef, undef, undef, undef, undef, undef, undef, undef, undef, undef, undef, undef, undef, undef, undef, undef, undef, undef, undef, undef, undef, undef, undef, undef, undef, undef, undef, undef, undef, undef, undef, undef, undef, undef, undef, undef, undef, undef, undef, undef, undef, undef, undef, undef, undef, undef, undef, undef, undef, undef, undef, undef, undef, undef, undef], []⟩ := ⟨rfl, rfl, rfl, rfl, rfl, rfl, rfl, rfl, rfl, rfl, rfl, rfl, rfl, rfl, rfl, rfl, rfl, rfl, rfl, rfl, rfl, rfl, rfl, rfl⟩
  have ret : ∀ (a' : Act) (w' : World), a'.defers = [] → a'.tmps.getD 4 undef = .bool true → Below w.heap.size w w' → bodyPost Yba.prog Yba.f3 (fun e w' => e = .returned (.bool true) ∧ Below w.heap.size w w') .ret a' w' := by
    intro a' w' d e b
    refine bodyPost_ret (v := .bool true) ?_ d ⟨rfl, b⟩
    rw [Array.getD_eq_getD_getElem?] at e
    simp [results, Yba.results3, go_sem]
    exact e
  refine sq (x := pc3 [0]) (y := pc3 [1]) rfl (k0 h0 (fun a1 h1 => ?_))
  clear h0
  refine sq (x := pc3 [1, 0]) (y := pc3 [1, 1]) rfl ?_
  refine sq (x := pc3 [1, 0, 0]) (y := Code.cond (.tmp 27) (pc3 [1, 0, 1, 0]) .skip) rfl (k1 h63a h63b h1 (fun a2 h2 hb => ?_))
  by_cases c : 300 < bs.length ∨ 300 < ns.length
  · rw [decide_eq_true c] at hb
    refine wp_cond_true hb (k2 h2 (fun a3 d3 e3 => ?_))
    exact ret a3 w d3 e3 (Below.refl _ _)
  rw [decide_eq_false c] at hb
  refine wp_cond_false hb (wp_skip ?_)
  have hl1 : bs.length ≤ 300 := by omega
  have hl2 : ns.length ≤ 300 := by omega
  refine sq (x := pc3 [1, 1, 0]) (y := pc3 [1, 1, 1]) rfl (k3 h2 (build_any hl1 hl2 hA hB) (fun e w3 he => ?_))
  obtain ⟨Wb, gl, oldv, bv, ev, vv, rfl, b3⟩ := he
  refine ⟨_, _, _, rfl, fun a3 h3 => ?_⟩
  have hol := olds_le bs
  have lLN : (ns.map lnOf).length = ns.length := by simp
  have hd := diff_any (LN := ns.map lnOf) hl1 (by omega) (fun s hs => by
    obtain ⟨b, _, rfl⟩ := List.mem_map.1 hs
    rw [lnOf_size]; omega) b3.W b3.row b3.gl2
  rw [← lLN] at h3
  refine sq (x := pc3 [1, 1, 1, 0]) (y := pc3 [1, 1, 1, 1]) rfl (k4 h3 hd (fun e w4 he => ?_))
  obtain ⟨gd, iv, M, rfl, d4⟩ := he
  refine ⟨_, rfl, fun a4 h4 => ?_⟩
  have s3 := b3.bel.size
  have s4 := d4.only.size
  have hWl := b3.W.lt Wb (by simp [wf])
  have B4 : Below w.heap.size w w4 := below_only b3.bel d4.only (by omega) (by simp; omega)
  have o4 : w4.ownsRow w.heap.size 9 1 oldv (olds bs).length (strs (olds bs)) := ownsRow_congr b3.old (fun g hg => d4.only.block g (b3.old.lt g hg).2 (by simp; intro e; subst e; exact b3.dis _ hg (by simp [wf])))
  have r4 : RowS w4 gl (ns.map lnOf) := b3.row.congr (d4.only.block gl b3.row.lt (by simp; intro e; subst e; exact b3.gl2 (by simp [wf])))
  have hM := Mms.of d4.cmn
  have hR : RbIs w4 Wb gd gl bv ev vv iv oldv (stt (M ++ [((olds bs).length, (ns.map lnOf).length)])).2.2 (delF (M ++ [((olds bs).length, (ns.map lnOf).length)])) (olds bs) (ns.map lnOf) := ⟨d4.box, d4.del, own_base d4.ins (Nat.zero_le _), r4, own_base o4 (Nat.zero_le _)⟩
  obtain ⟨MM, hMM⟩ : ∃ MM, MM = M ++ [((olds bs).length, (ns.map lnOf).length)] := ⟨_, rfl⟩
  rw [← hMM] at hM hR
  clear hMM hd
  generalize ns.map lnOf = LN at *
  generalize olds bs = OB at *
  have hsh := hM.short
  have htot := hM.tot
  have hin : ∃ io ic, iv = .slice io (stt MM).2.2.length ic := own_slice2 hR.ins
  obtain ⟨io, ic, hiv⟩ := hin
  have hout : ∃ oo oc, oldv = .slice oo OB.length oc := own_slice2 hR.old
  obtain ⟨oo, oc, hov⟩ := hout
  have c4 := blk_cell hR.box 4 rfl
  have c5 := blk_cell hR.box 5 rfl
  rw [hiv] at c5
  refine sq (x := pc3 [1, 1, 1, 1, 0]) (y := pc3 [1, 1, 1, 1, 1]) rfl ?_
  rw [hov] at h4
  refine sq (x := pc3 [1, 1, 1, 1, 0, 0]) (y := Code.cond (.tmp 61) (pc3 [1, 1, 1, 1, 0, 1, 0]) .skip) rfl (k5 c4 hsh.1 hsh.2 (by omega) (by omega) h4 (fun a5 h5 hb5 => ?_))
  refine wp_cond_false hb5 (wp_skip ?_)
  refine sq (x := pc3 [1, 1, 1, 1, 1, 0]) (y := pc3 [1, 1, 1, 1, 1, 1]) rfl (k7 h5 (fun a6 h6 => ?_))
  refine sq (x := pc3 [1, 1, 1, 1, 1, 1, 0]) (y := pc3 [1, 1, 1, 1, 1, 1, 1]) rfl ?_
  refine sq (x := pc3 [1, 1, 1, 1, 1, 1, 0, 0]) (y := pc3 [1, 1, 1, 1, 1, 1, 0, 1]) rfl (k8 c4 h6 (fun a7 h7 => ?_))
  refine kl1 hM (by omega) hR h7 (fun v67 a8 h8 => ?_)
  refine sq (x := pc3 [1, 1, 1, 1, 1, 1, 1, 0]) (y := pc3 [1, 1, 1, 1, 1, 1, 1, 1]) rfl ?_
  refine sq (x := pc3 [1, 1, 1, 1, 1, 1, 1, 0, 0]) (y := Code.cond (.tmp 78) (pc3 [1, 1, 1, 1, 1, 1, 1, 0, 1, 0]) .skip) rfl (k14 h8 (fun a9 h9 hb9 => ?_))
  refine wp_cond_false hb9 (wp_skip ?_)
  refine sq (x := pc3 [1, 1, 1, 1, 1, 1, 1, 1, 0]) (y := pc3 [1, 1, 1, 1, 1, 1, 1, 1, 1]) rfl (k16 h9 (fun a10 h10 => ?_))
  refine sq (x := pc3 [1, 1, 1, 1, 1, 1, 1, 1, 1, 0]) (y := pc3 [1, 1, 1, 1, 1, 1, 1, 1, 1, 1]) rfl (k17 h10 (fun a11 h11 => ?_))
  refine sq (x := pc3 [1, 1, 1, 1, 1, 1, 1, 1, 1, 1, 0]) (y := pc3 [1, 1, 1, 1, 1, 1, 1, 1, 1, 1, 1]) rfl ?_
  refine sq (x := pc3 [1, 1, 1, 1, 1, 1, 1, 1, 1, 1, 0, 0]) (y := pc3 [1, 1, 1, 1, 1, 1, 1, 1, 1, 1, 0, 1]) rfl (k18 c5 h11 (fun a12 h12 => ?_))
  rw [← hiv, ← hov] at h12
  refine kl2 hM (by omega) (by omega) hR h12 (fun v13 v15 v84 w13 a13 h13 B13 => ?_)
  have s13 := B13.size
  have R13 := hR.below B13 (Nat.le_refl _)
  have BB13 : Below w.heap.size w w13 := B4.trans ⟨B13.os, B13.tape, B13.output, B13.size, fun k hk => B13.block k (by have := B4.size; omega)⟩
  refine sq (x := pc3 [1, 1, 1, 1, 1, 1, 1, 1, 1, 1, 1, 0]) (y := pc3 [1, 1, 1, 1, 1, 1, 1, 1, 1, 1, 1, 1]) rfl ?_
  refine sq (x := pc3 [1, 1, 1, 1, 1, 1, 1, 1, 1, 1, 1, 0, 0]) (y := Code.cond (.tmp 118) (pc3 [1, 1, 1, 1, 1, 1, 1, 1, 1, 1, 1, 0, 1, 0]) .skip) rfl (k26 (s := LN.length - M.length) (by omega) (by omega) h13 (fun a14 h14 hb14 => ?_))
  refine wp_cond_false hb14 (wp_skip ?_)
  refine sq (x := pc3 [1, 1, 1, 1, 1, 1, 1, 1, 1, 1, 1, 1, 0]) (y := pc3 [1, 1, 1, 1, 1, 1, 1, 1, 1, 1, 1, 1, 1]) rfl (k28 h14 (fun a15 h15 => ?_))
  refine sq (x := pc3 [1, 1, 1, 1, 1, 1, 1, 1, 1, 1, 1, 1, 1, 0]) (y := pc3 [1, 1, 1, 1, 1, 1, 1, 1, 1, 1, 1, 1, 1, 1]) rfl (k29 h15 (fun a16 h16 => ?_))
  refine sq (x := pc3 [1, 1, 1, 1, 1, 1, 1, 1, 1, 1, 1, 1, 1, 1, 0]) (y := pc3 [1, 1, 1, 1, 1, 1, 1, 1, 1, 1, 1, 1, 1, 1, 1]) rfl ?_
  refine sq (x := pc3 [1, 1, 1, 1, 1, 1, 1, 1, 1, 1, 1, 1, 1, 1, 0, 0]) (y := pc3 [1, 1, 1, 1, 1, 1, 1, 1, 1, 1, 1, 1, 1, 1, 0, 1]) rfl (k30 h16 (fun a17 h17 => ?_))
  refine kl3 hM (by omega) (by omega) R13 h17 (fun outv v18 w18 a18 h18 o18 B18 => ?_)
  have s18 := B18.size
  have R18 := R13.below B18 (Nat.le_refl _)
  have BB18 : Below w.heap.size w w18 := BB13.trans ⟨B18.os, B18.tape, B18.output, B18.size, fun k hk => B18.block k (by have := BB13.size; omega)⟩
  have c5' := blk_cell R18.box 5 rfl
  rw [hiv] at c5'
  obtain ⟨xo, xc, rfl⟩ := own_slice2 o18
  refine sq (x := pc3 [1, 1, 1, 1, 1, 1, 1, 1, 1, 1, 1, 1, 1, 1, 1, 0]) (y := pc3 [1, 1, 1, 1, 1, 1, 1, 1, 1, 1, 1, 1, 1, 1, 1, 1]) rfl ?_
  refine sq (x := pc3 [1, 1, 1, 1, 1, 1, 1, 1, 1, 1, 1, 1, 1, 1, 1, 0, 0]) (y := Code.cond (.tmp 190) (pc3 [1, 1, 1, 1, 1, 1, 1, 1, 1, 1, 1, 1, 1, 1, 1, 0, 1, 0]) .skip) rfl (k38 c5' h18 (fun a19 h19 hb19 => ?_))
  refine wp_cond_false hb19 (wp_skip ?_)
  refine sq (x := pc3 [1, 1, 1, 1, 1, 1, 1, 1, 1, 1, 1, 1, 1, 1, 1, 1, 0]) (y := pc3 [1, 1, 1, 1, 1, 1, 1, 1, 1, 1, 1, 1, 1, 1, 1, 1, 1]) rfl ?_
  refine sq (x := pc3 [1, 1, 1, 1, 1, 1, 1, 1, 1, 1, 1, 1, 1, 1, 1, 1, 0, 0]) (y := pc3 [1, 1, 1, 1, 1, 1, 1, 1, 1, 1, 1, 1, 1, 1, 1, 1, 0, 1]) rfl (k40 h19 (fun a20 h20 => ?_))
  refine kl5 (by omega) R18.row o18 h20 (fun v19 v193 w21 a21 h21 O21 => ?_)
  have BB21 : Below w.heap.size w w21 := below_only BB18 O21 (by have := BB18.size; omega) (by simp)
  refine k46 h21 (fun a22 d22 e22 => ?_)
  exact ret a22 w21 d22 e22 BB21

end Go.Proofs.Ybulkacye
