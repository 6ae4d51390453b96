import Derived.Test.YbulkacyeRLoop
namespace Go.Proofs.Ybulkacye
open Go.RowKit Go.Proofs.Ybulkacye.Lcs
set_option linter.unusedVariables false
set_option linter.unusedSectionVars false
variable {S ga gb GF GR o N ca cb : Nat} {ao bo : Option Addr} {xa xb : List Int} {fs : Value} {f r : Int → Int} {w : World} {a0 a1 b0 b1 n m : Nat} {dl : Int} {od : Bool} {v21 v22 v23 v24 v25 v26 v27 v28 v29 v30 v31 v32 v33 : Value} {a : Act} {Q : Exit → Act → World → Prop}

set_option maxRecDepth 20000 in
theorem oloop {A B : List Int} (C : Cx A B xa xb a0 b0 n m o N) (hn2 : 2 ≤ e A B) (hdl : dl = (n : Int) - m) (hp1 : od = true → ((A.length : Int) - B.length) % 2 = 1) (hp0 : od = false → ((A.length : Int) - B.length) % 2 = 0) (h : Fr (.pointer (some ⟨S, 0, none⟩)) (.int .i64 a0) (.int .i64 a1) (.int .i64 b0) (.int .i64 b1) (.int .i64 n) (.int .i64 m) (.int .i64 dl) (.bool od) (.slice (some ⟨GF, 0, none⟩) N N) (.slice (some ⟨GR, 0, none⟩) N N) (.int .i64 o) (.int .i64 1) (.int .i64 0) (.int .i64 1) (.int .i64 0) (.int .i64 0) v26 v27 v28 v29 v30 v31 v32 v33 a) (hS : Sea S ga gb GF GR o N ca cb ao bo xa xb fs f r w)
    (hRet : ∀ w' a' f' r' x y u v, Snake A B x y u v → Ret ((a0 : Int) + x) ((b0 : Int) + y) ((a0 : Int) + u) ((b0 : Int) + v) a' → Sea S ga gb GF GR o N ca cb ao bo xa xb fs f' r' w' → Only w w' [GF, GR] → Q .ret a' w') : Code.wp Yba.prog (Code.loop (pc [1, 1, 1, 1, 1, 1, 1, 0, 1, 0, 0])) Q a w := by
  have hn1 := C.ho
  have hn3 := C.ho2
  have hA := C.hA
  have hB := C.hB
  have hel := e_le A B
  refine wp_loop (fun a' w' => ∃ (d : Nat) (f r : Int → Int) (flo fhi rlo rhi : Int) (v26 v27 v28 v29 v30 v31 v32 v33 : Value), Fr (.pointer (some ⟨S, 0, none⟩)) (.int .i64 a0) (.int .i64 a1) (.int .i64 b0) (.int .i64 b1) (.int .i64 n) (.int .i64 m) (.int .i64 dl) (.bool od) (.slice (some ⟨GF, 0, none⟩) N N) (.slice (some ⟨GR, 0, none⟩) N N) (.int .i64 o) (.int .i64 flo) (.int .i64 fhi) (.int .i64 rlo) (.int .i64 rhi) (.int .i64 d) v26 v27 v28 v29 v30 v31 v32 v33 a' ∧ Sea S ga gb GF GR o N ca cb ao bo xa xb fs f r w' ∧ Only w w' [GF, GR] ∧ Ahead A B d f flo fhi ∧ RAhead A B d r rlo rhi ∧ (od = true → 2 * (d : Int) - 1 ≤ e A B) ∧ (od = false → 2 * (d : Int) ≤ e A B)) (fun a' _ => (20000 - intOf (a'.tmps.getD 25 undef)).toNat) ⟨0, f, r, 1, 0, 1, 0, _, _, _, _, _, _, _, _, h, hS, Only.refl _ _, ⟨fun _ => ⟨rfl, rfl⟩, fun e he => by omega⟩, ⟨fun _ => ⟨rfl, rfl⟩, fun e he => by omega⟩, fun _ => by omega, fun _ => by omega⟩ ?_
  clear h hS
  rintro a2 w2 ⟨d, f, r, flo, fhi, rlo, rhi, v26, v27, v28, v29, v30, v31, v32, v33, h, hS, hO, hAh, hRa, he1, he0⟩
  have hμ : (20000 - intOf (a2.tmps.getD 25 undef)).toNat = (20000 - (d : Int)).toNat := by rw [h.e25]; rfl
  rw [hμ]
  have hdb : 2 * (d : Int) - 1 ≤ e A B := by
    cases od with
    | true => exact he1 rfl
    | false => have := he0 rfl; omega
  refine sq (x := pc [1, 1, 1, 1, 1, 1, 1, 0, 1, 0, 0, 0]) (y := pc [1, 1, 1, 1, 1, 1, 1, 0, 1, 0, 0, 1]) rfl (h8 (by omega) (by omega) (by omega) h (fun hk a3 h3 => ?_) (fun hk a3 h3 => ?_))
  · omega
  refine sq (x := Code.block 1 (pc [1, 1, 1, 1, 1, 1, 1, 0, 1, 0, 0, 1, 0, 0])) (y := pc [1, 1, 1, 1, 1, 1, 1, 0, 1, 0, 0, 1, 1]) rfl (wp_block ?_)
  refine sq (x := pc [1, 1, 1, 1, 1, 1, 1, 0, 1, 0, 0, 1, 0, 0, 0]) (y := pc [1, 1, 1, 1, 1, 1, 1, 0, 1, 0, 0, 1, 0, 0, 1]) rfl (r10 (by omega) (by omega) (by omega) h3 (fun a4 h4 => ?_))
  refine sq (x := pc [1, 1, 1, 1, 1, 1, 1, 0, 1, 0, 0, 1, 0, 0, 1, 0]) (y := pc [1, 1, 1, 1, 1, 1, 1, 0, 1, 0, 0, 1, 0, 0, 1, 1]) rfl ?_
  refine sq (x := pc [1, 1, 1, 1, 1, 1, 1, 0, 1, 0, 0, 1, 0, 0, 1, 0, 0]) (y := pc [1, 1, 1, 1, 1, 1, 1, 0, 1, 0, 0, 1, 0, 0, 1, 0, 1]) rfl (r11 h4 (fun a5 h5 => ?_))
  refine floop C hn2 (by omega) hAh hRa he1 hp1 rfl rfl h5 hS (fun w' a' f' x y u v g1 g2 g3 g4 => hRet w' a' f' r x y u v g1 g2 g3 (only_trans hO g4)) (fun w6 a6 f6 v28 v29 v30 h6 hS6 hO6 hAh6 hf6 => ?_)
  refine sq (x := pc [1, 1, 1, 1, 1, 1, 1, 0, 1, 0, 0, 1, 0, 0, 1, 1, 0]) (y := pc [1, 1, 1, 1, 1, 1, 1, 0, 1, 0, 0, 1, 0, 0, 1, 1, 1]) rfl (r29 h6 (fun a7 h7 => ?_))
  refine sq (x := pc [1, 1, 1, 1, 1, 1, 1, 0, 1, 0, 0, 1, 0, 0, 1, 1, 1, 0]) (y := pc [1, 1, 1, 1, 1, 1, 1, 0, 1, 0, 0, 1, 0, 0, 1, 1, 1, 1]) rfl (r30 (by omega) (by omega) (by omega) (by omega) (by omega) h7 (fun a8 h8 => ?_))
  refine sq (x := pc [1, 1, 1, 1, 1, 1, 1, 0, 1, 0, 0, 1, 0, 0, 1, 1, 1, 1, 0]) (y := pc [1, 1, 1, 1, 1, 1, 1, 0, 1, 0, 0, 1, 0, 0, 1, 1, 1, 1, 1]) rfl ?_
  refine sq (x := pc [1, 1, 1, 1, 1, 1, 1, 0, 1, 0, 0, 1, 0, 0, 1, 1, 1, 1, 0, 0]) (y := pc [1, 1, 1, 1, 1, 1, 1, 0, 1, 0, 0, 1, 0, 0, 1, 1, 1, 1, 0, 1]) rfl (r31 h8 (fun a9 h9 => ?_))
  refine rloop C hn2 (by omega) hAh6 hRa he0 hp0 (by rw [hdl]) (by rw [hdl]) h9 hS6 (fun w' a' r' x y u v g1 g2 g3 g4 => hRet w' a' f6 r' x y u v g1 g2 g3 (only_trans hO (only_trans hO6 g4))) (fun w10 a10 r10 v31 v32 v33 h10 hS10 hO10 hRa10 hr10 => ?_)
  refine r49 h10 (fun a11 h11 => ?_)
  refine r9 h11 (by omega) (fun a12 h12 => ?_)
  refine ⟨⟨d + 1, f6, r10, _, _, _, _, _, _, _, _, _, _, _, _, h12, hS10, only_trans hO (only_trans hO6 hO10), hAh6, hRa10, fun ho => ?_, fun ho => ?_⟩, ?_⟩
  · have := hf6 ho; omega
  · have := hr10 ho; omega
  · rw [h12.e25]
    show (20000 - ((d + 1 : Nat) : Int)).toNat < _
    omega

set_option maxRecDepth 20000 in
set_option maxHeartbeats 4000000 in
theorem mid_any {A B : List Int} (C : Cx A B xa xb a0 b0 n m o N) (hn2 : 2 ≤ e A B) (hS : Sea S ga gb GF GR o N ca cb ao bo xa xb fs f r w) (hn : (a1 : Int) - a0 = n) (hm : (b1 : Int) - b0 = m) :
    Calls Yba.prog 22 #[.pointer (some ⟨S, 0, none⟩), .int .i64 a0, .int .i64 a1, .int .i64 b0, .int .i64 b1] w fun e w' => ∃ (x y u v : Nat) (f' r' : Int → Int), e = .returned (.tuple #[.int .i64 ((a0 : Int) + x), .int .i64 ((b0 : Int) + y), .int .i64 ((a0 : Int) + u), .int .i64 ((b0 : Int) + v)]) ∧ Snake A B x y u v ∧ Sea S ga gb GF GR o N ca cb ao bo xa xb fs f' r' w' ∧ Only w w' [GF, GR] := by
  obtain ⟨dl, hdl⟩ : ∃ dl : Int, (n : Int) - m = dl := ⟨_, rfl⟩
  obtain ⟨od, hod⟩ : ∃ od : Bool, (dl.tmod 2 != 0) = od := ⟨_, rfl⟩
  have hA := C.hA
  have hB := C.hB
  have hp1 : od = true → ((A.length : Int) - B.length) % 2 = 1 := by
    intro h1
    subst h1
    have : dl.tmod 2 ≠ 0 := by simpa using hod
    rw [hA, hB, hdl]
    rcases Int.emod_two_eq dl with g | g
    · exfalso; apply this
      exact Int.tmod_eq_zero_of_dvd (by omega)
    · exact g
  have hp0 : od = false → ((A.length : Int) - B.length) % 2 = 0 := by
    intro h1
    subst h1
    have : dl.tmod 2 = 0 := by simpa using hod
    rw [hA, hB, hdl]
    have := Int.dvd_of_tmod_eq_zero this
    omega
  obtain ⟨q0, q1, q2, q3, q4, q5⟩ := hS.boxes
  have k1 := C.la
  have k2 := C.lb
  have k3 := C.la2
  have k4 := C.lb2
  clear hA hB
  go_enter Yba.func22, Yba.ntmps22
  go_wp2
  go_quiet (fail)
  go_wp2
  refine oloop C hn2 hdl.symm hp1 hp0 (f := f) (r := r) (a1 := a1) (b1 := b1) (v26 := undef) (v27 := undef) (v28 := undef) (v29 := undef) (v30 := undef) (v31 := undef) (v32 := undef) (v33 := undef) ?_ (hS.drewN _) ?_
  · exact ⟨rfl, rfl, rfl, rfl, rfl, rfl, rfl, rfl, rfl, rfl, rfl, rfl, rfl, rfl, rfl, rfl, rfl, rfl, rfl, rfl, rfl, rfl, rfl, rfl, rfl, rfl, rfl⟩
  · intro w' a' f' r' x y u v g1 g2 g3 g4
    obtain ⟨z0, z1, z2, z3, z4, z5⟩ := g2
    have g5 : Only w w' [GF, GR] := g4.ofDrewN
    have key : bodyPost Yba.prog Yba.f22 (fun e w' => ∃ (x y u v : Nat) (f' r' : Int → Int), e = .returned (.tuple #[.int .i64 ((a0 : Int) + x), .int .i64 ((b0 : Int) + y), .int .i64 ((a0 : Int) + u), .int .i64 ((b0 : Int) + v)]) ∧ Snake A B x y u v ∧ Sea S ga gb GF GR o N ca cb ao bo xa xb fs f' r' w' ∧ Only w w' [GF, GR]) .ret a' w' := by
      refine bodyPost_ret ?_ z1 ⟨x, y, u, v, f', r', rfl, g1, g3, g5⟩
      rw [Array.getD_eq_getD_getElem?] at z2 z3 z4 z5
      simp [results, Yba.results22, go_sem]
      exact ⟨z2, z3, z4, z5⟩
    exact key

end Go.Proofs.Ybulkacye
