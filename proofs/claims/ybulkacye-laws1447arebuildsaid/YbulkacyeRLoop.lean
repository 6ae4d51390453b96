import Derived.Test.YbulkacyeFLoop
import Derived.Test.YbulkacyeBwd
import Derived.Test.YbulkacyeBwd2
import Derived.Test.YbulkacyeBwd3
namespace Go.Proofs.Ybulkacye
open Go.RowKit Go.Proofs.Ybulkacye.Lcs
set_option linter.unusedVariables false
set_option linter.unusedSectionVars false
variable {S ga gb GF GR o N ca cb : Nat} {ao bo : Option Addr} {xa xb : List Int} {fs : Value} {f r : Int → Int} {w : World} {a0 a1 b0 b1 n m : Nat} {dl : Int} {od : Bool} {v21 v22 v23 v24 v25 v26 v27 v28 v29 v30 v31 v32 v33 : Value} {a : Act} {Q : Exit → Act → World → Prop}

theorem RAhead.congr {A B : List Int} {d : Nat} {g g' : Int → Int} {lo hi : Int} (h : RAhead A B d g lo hi) (hg : ∀ k' : Int, (k' - (A.length - B.length) - d) % 2 = 1 → g' k' = g k') : RAhead A B d g' lo hi := by
  refine ⟨h.1, fun e he => ?_⟩
  obtain ⟨h1, h2⟩ := h.2 e he
  refine ⟨fun k' g1 g2 g3 => ?_, h2⟩
  rw [hg k' (by omega)]
  exact h1 k' g1 g2 g3
theorem RAhead.bd {A B : List Int} {d : Nat} {g : Int → Int} {lo hi k : Int} (h : RAhead A B d g lo hi) (hk : (k - (A.length - B.length) - d) % 2 = 1) (h1 : lo ≤ k) (h2 : k ≤ hi) : g k = U ∨ (0 ≤ g k ∧ g k ≤ A.length) := by
  rcases h.bound hk h1 h2 with e | e
  · exact .inl e
  · have := rpt_bd e; right; omega
theorem rp1_bound {A B : List Int} {d : Nat} {g : Int → Int} {lo hi k : Int} (hn : (A.length : Int) < U) (h : RAhead A B d g lo hi) (hk : (k - (A.length - B.length) - d) % 2 = 0) : 0 ≤ rp1Of g lo hi (if d = 0 then A.length else U) k ∧ rp1Of g lo hi (if d = 0 then A.length else U) k ≤ U := by
  unfold rp1Of
  split
  · rename_i hc
    have := h.bd (by omega) hc.1 hc.2.1
    omega
  · split <;> omega

set_option maxRecDepth 20000 in
theorem rblock {A B : List Int} {d : Nat} {flo fhi rlo rhi lo hi k : Int} {r0 : Int → Int} (C : Cx A B xa xb a0 b0 n m o N) (hn2 : 2 ≤ e A B) (hd : d ≤ 10000) (hAh : Ahead A B (d + 1) f flo fhi) (hRa : RAhead A B d r0 rlo rhi) (he : od = false → 2 * (d : Int) ≤ e A B) (hp : od = false → ((A.length : Int) - B.length) % 2 = 0) (hlo : lo = loOf ((n : Int) - m - d) (-(m : Int))) (hhi : hi = hiOf ((n : Int) - m + d) n) (hI : RInv A B d lo hi k r0 r f od flo fhi) (hk : k ≤ hi) (h : Fr (.pointer (some ⟨S, 0, none⟩)) (.int .i64 a0) (.int .i64 a1) (.int .i64 b0) (.int .i64 b1) (.int .i64 n) (.int .i64 m) (.int .i64 dl) (.bool od) (.slice (some ⟨GF, 0, none⟩) N N) (.slice (some ⟨GR, 0, none⟩) N N) (.int .i64 o) (.int .i64 flo) (.int .i64 fhi) (.int .i64 rlo) (.int .i64 rhi) (.int .i64 d) (.int .i64 lo) (.int .i64 hi) v28 v29 v30 (.int .i64 k) v32 v33 a) (hS : Sea S ga gb GF GR o N ca cb ao bo xa xb fs f r w)
    (hRet : ∀ w' a' r' x y u v, Snake A B x y u v → Ret ((a0 : Int) + x) ((b0 : Int) + y) ((a0 : Int) + u) ((b0 : Int) + v) a' → Sea S ga gb GF GR o N ca cb ao bo xa xb fs f r' w' → Only w w' [GF, GR] → Q .ret a' w')
    (hX : ∀ ex : Exit, (ex = .normal ∨ ex = .exit 7) → ∀ w' a' r' v32 v33, Fr (.pointer (some ⟨S, 0, none⟩)) (.int .i64 a0) (.int .i64 a1) (.int .i64 b0) (.int .i64 b1) (.int .i64 n) (.int .i64 m) (.int .i64 dl) (.bool od) (.slice (some ⟨GF, 0, none⟩) N N) (.slice (some ⟨GR, 0, none⟩) N N) (.int .i64 o) (.int .i64 flo) (.int .i64 fhi) (.int .i64 rlo) (.int .i64 rhi) (.int .i64 d) (.int .i64 lo) (.int .i64 hi) v28 v29 v30 (.int .i64 k) v32 v33 a' → Sea S ga gb GF GR o N ca cb ao bo xa xb fs f r' w' → Only w w' [GF, GR] → RInv A B d lo hi (k + 2) r0 r' f od flo fhi → Q ex a' w') : Code.wp Yba.prog (pc [1, 1, 1, 1, 1, 1, 1, 0, 1, 0, 0, 1, 0, 0, 1, 1, 1, 1, 0, 1, 0, 0, 1, 0, 0]) Q a w := by
  obtain ⟨hA, hB, hxa, hxb, la, lb, la2, lb2, hN, ho, ho2⟩ := C
  subst hA hB
  have hRf := hRa.congr hI.old
  have hlp := rlo_par d B.length A.length
  have hhp := rhi_par d B.length A.length
  rw [← hlo] at hlp
  rw [← hhi] at hhp
  have k1 := hI.k1
  have k2 := hI.k2
  have kd : d = 0 → k = (A.length : Int) - B.length := fun e => by omega
  have kn : k ≤ A.length := by omega
  have km : -(B.length : Int) ≤ k := by omega
  have hU : (A.length : Int) < U := by unfold U; omega
  obtain ⟨hpx, hrun⟩ := hRf.px hU k2 kd
  refine sq (x := pc [1, 1, 1, 1, 1, 1, 1, 0, 1, 0, 0, 1, 0, 0, 1, 1, 1, 1, 0, 1, 0, 0, 1, 0, 0, 0]) (y := pc [1, 1, 1, 1, 1, 1, 1, 0, 1, 0, 0, 1, 0, 0, 1, 1, 1, 1, 0, 1, 0, 0, 1, 0, 0, 1]) rfl (p34 h fun a1 h1 => ?_)
  refine sq (x := pc [1, 1, 1, 1, 1, 1, 1, 0, 1, 0, 0, 1, 0, 0, 1, 1, 1, 1, 0, 1, 0, 0, 1, 0, 0, 1, 0]) (y := pc [1, 1, 1, 1, 1, 1, 1, 0, 1, 0, 0, 1, 0, 0, 1, 1, 1, 1, 0, 1, 0, 0, 1, 0, 0, 1, 1]) rfl (c35 (by omega) h1 fun a2 h2 => ?_)
  refine sq (x := pc [1, 1, 1, 1, 1, 1, 1, 0, 1, 0, 0, 1, 0, 0, 1, 1, 1, 1, 0, 1, 0, 0, 1, 0, 0, 1, 1, 0]) (y := pc [1, 1, 1, 1, 1, 1, 1, 0, 1, 0, 0, 1, 0, 0, 1, 1, 1, 1, 0, 1, 0, 0, 1, 0, 0, 1, 1, 1]) rfl (c37 h2 hS hN ho ho2 km kn (fun g1 g2 => hRf.bd (by omega) g1 g2) fun a3 h3 => ?_)
  refine sq (x := pc [1, 1, 1, 1, 1, 1, 1, 0, 1, 0, 0, 1, 0, 0, 1, 1, 1, 1, 0, 1, 0, 0, 1, 0, 0, 1, 1, 1, 0]) (y := pc [1, 1, 1, 1, 1, 1, 1, 0, 1, 0, 0, 1, 0, 0, 1, 1, 1, 1, 0, 1, 0, 0, 1, 0, 0, 1, 1, 1, 1]) rfl (c39 h3 hS hN ho ho2 km kn (rp1_bound hU hRf k2) (fun g1 g2 => hRf.bd (by omega) g1 g2) fun a4 h4 => ?_)
  generalize rpxOf r rlo rhi (if d = 0 then (A.length : Int) else U) k = px at hpx hrun h4
  have hpb : px = U ∨ (0 ≤ px ∧ px ≤ A.length) := by
    rcases hpx with e | e
    · exact .inl e
    · have := rpt_bd e; right; omega
  refine sq (x := pc [1, 1, 1, 1, 1, 1, 1, 0, 1, 0, 0, 1, 0, 0, 1, 1, 1, 1, 0, 1, 0, 0, 1, 0, 0, 1, 1, 1, 1, 0]) (y := pc [1, 1, 1, 1, 1, 1, 1, 0, 1, 0, 0, 1, 0, 0, 1, 1, 1, 1, 0, 1, 0, 0, 1, 0, 0, 1, 1, 1, 1, 1]) rfl (c41 h4 hS hN ho ho2 km kn hpb (fun hp1 w' a' hF hS' hO => ?_) (fun hp1 a5 h5 => ?_))
  · subst hp1
    exact hX _ (.inr rfl) w' a' _ _ _ hF hS' hO (hI.step hk (rent_none hU hrun) (fun _ _ _ _ c => absurd rfl c))
  have hP : RPt A B d k px := by rcases hpx with e | e; exact absurd e hp1; exact e
  obtain ⟨x1, x2, y1, y2⟩ := rpt_bd hP
  refine sq (x := pc [1, 1, 1, 1, 1, 1, 1, 0, 1, 0, 0, 1, 0, 0, 1, 1, 1, 1, 0, 1, 0, 0, 1, 0, 0, 1, 1, 1, 1, 1, 0]) (y := pc [1, 1, 1, 1, 1, 1, 1, 0, 1, 0, 0, 1, 0, 0, 1, 1, 1, 1, 0, 1, 0, 0, 1, 0, 0, 1, 1, 1, 1, 1, 1]) rfl (p43 h5 fun a6 h6 => ?_)
  refine sq (x := pc [1, 1, 1, 1, 1, 1, 1, 0, 1, 0, 0, 1, 0, 0, 1, 1, 1, 1, 0, 1, 0, 0, 1, 0, 0, 1, 1, 1, 1, 1, 1, 0]) (y := pc [1, 1, 1, 1, 1, 1, 1, 0, 1, 0, 0, 1, 0, 0, 1, 1, 1, 1, 0, 1, 0, 0, 1, 0, 0, 1, 1, 1, 1, 1, 1, 1]) rfl (rslide rfl rfl hxa hxb h6 hS la lb la2 lb2 x1 x2 y1 y2 (fun sx w7 a7 h7 hS7 hO7 e1 e2 e3 hM hstop => ?_))
  obtain ⟨hPe, hE⟩ := rent_slide hP hrun e1 hM hstop
  have hb : od = false → flo ≤ k → k ≤ fhi → f k = -1 ∨ Pt A B d k (f k) := fun ho1 g1 g2 => by
    have := hAh.bound2 (k := k) (by have := hp ho1; omega) g1 g2
    have e : ((d + 1 : Nat) : Int) - 1 = d := by omega
    rw [e] at this
    exact this
  refine tailR h7 hS7 hN ho ho2 km kn (by omega) (by omega) x1 x2 y1 y2 e1 e2 e3 (fun ho1 g1 g2 => ?_) (fun hit w' a' hR hS' hO' => ?_) (fun hit w' a' hF hS' hO' => ?_)
  · rcases hb ho1 g1 g2 with e | e
    · exact .inl e
    · have := pt_bd e; right; omega
  · obtain ⟨ho1, g1, g2, g3, g4⟩ := hit
    have hrp : Pt A B d k (f k) := by rcases hb ho1 g1 g2 with e | e; exact absurd e g3; exact e
    have hle := meet_le hrp hPe g4
    have he1 := he ho1
    obtain ⟨x, y, u, v, q1, q2, q3, q4, hsn⟩ := meet_rev hP hPe e1 hM hrp g4 (by omega) (by omega) (by omega)
    refine hRet w' a' _ x y u v hsn ?_ hS' (only_trans hO7 hO')
    have z1 : (b0 : Int) + sx - k = b0 + y := by omega
    have z2 : (b0 : Int) + px - k = b0 + v := by omega
    rw [z1, z2, q1, q3] at hR
    exact hR
  · refine hX _ (.inl rfl) w' a' _ _ _ hF hS' (only_trans hO7 hO') (hI.step hk hE (fun ho1 g1 g2 g3 g4 => ?_))
    rcases Int.lt_or_le (f k) sx with c | c
    · exact c
    · exact absurd ⟨ho1, g1, g2, g3, c⟩ hit

set_option maxRecDepth 20000 in
theorem rloop {A B : List Int} {d : Nat} {flo fhi rlo rhi lo hi : Int} {r0 : Int → Int} (C : Cx A B xa xb a0 b0 n m o N) (hn2 : 2 ≤ e A B) (hd : d ≤ 10000) (hAh : Ahead A B (d + 1) f flo fhi) (hRa : RAhead A B d r0 rlo rhi) (he : od = false → 2 * (d : Int) ≤ e A B) (hp : od = false → ((A.length : Int) - B.length) % 2 = 0) (hlo : lo = loOf ((n : Int) - m - d) (-(m : Int))) (hhi : hi = hiOf ((n : Int) - m + d) n) (h : Fr (.pointer (some ⟨S, 0, none⟩)) (.int .i64 a0) (.int .i64 a1) (.int .i64 b0) (.int .i64 b1) (.int .i64 n) (.int .i64 m) (.int .i64 dl) (.bool od) (.slice (some ⟨GF, 0, none⟩) N N) (.slice (some ⟨GR, 0, none⟩) N N) (.int .i64 o) (.int .i64 flo) (.int .i64 fhi) (.int .i64 rlo) (.int .i64 rhi) (.int .i64 d) (.int .i64 lo) (.int .i64 hi) v28 v29 v30 (.int .i64 lo) v32 v33 a) (hS : Sea S ga gb GF GR o N ca cb ao bo xa xb fs f r0 w)
    (hRet : ∀ w' a' r' x y u v, Snake A B x y u v → Ret ((a0 : Int) + x) ((b0 : Int) + y) ((a0 : Int) + u) ((b0 : Int) + v) a' → Sea S ga gb GF GR o N ca cb ao bo xa xb fs f r' w' → Only w w' [GF, GR] → Q .ret a' w')
    (hQ : ∀ w' a' r' v31 v32 v33, Fr (.pointer (some ⟨S, 0, none⟩)) (.int .i64 a0) (.int .i64 a1) (.int .i64 b0) (.int .i64 b1) (.int .i64 n) (.int .i64 m) (.int .i64 dl) (.bool od) (.slice (some ⟨GF, 0, none⟩) N N) (.slice (some ⟨GR, 0, none⟩) N N) (.int .i64 o) (.int .i64 flo) (.int .i64 fhi) (.int .i64 rlo) (.int .i64 rhi) (.int .i64 d) (.int .i64 lo) (.int .i64 hi) v28 v29 v30 v31 v32 v33 a' → Sea S ga gb GF GR o N ca cb ao bo xa xb fs f r' w' → Only w w' [GF, GR] → RAhead A B (d + 1) r' lo hi → (od = false → 2 * (d : Int) + 2 ≤ e A B) → Q .normal a' w') : Code.wp Yba.prog (pc [1, 1, 1, 1, 1, 1, 1, 0, 1, 0, 0, 1, 0, 0, 1, 1, 1, 1, 0, 1]) Q a w := by
  have hlp := rlo_par d m n
  have hhp := rhi_par d m n
  rw [← hlo] at hlp
  rw [← hhi] at hhp
  have hn1 := C.ho
  have hn3 := C.ho2
  have hA := C.hA
  have hB := C.hB
  show Code.wp Yba.prog (Code.block 6 (Code.loop (pc [1, 1, 1, 1, 1, 1, 1, 0, 1, 0, 0, 1, 0, 0, 1, 1, 1, 1, 0, 1, 0, 0]))) Q a w
  refine wp_block (wp_loop (fun a' w' => ∃ (k : Int) (r : Int → Int) (v32 v33 : Value), Fr (.pointer (some ⟨S, 0, none⟩)) (.int .i64 a0) (.int .i64 a1) (.int .i64 b0) (.int .i64 b1) (.int .i64 n) (.int .i64 m) (.int .i64 dl) (.bool od) (.slice (some ⟨GF, 0, none⟩) N N) (.slice (some ⟨GR, 0, none⟩) N N) (.int .i64 o) (.int .i64 flo) (.int .i64 fhi) (.int .i64 rlo) (.int .i64 rhi) (.int .i64 d) (.int .i64 lo) (.int .i64 hi) v28 v29 v30 (.int .i64 k) v32 v33 a' ∧ Sea S ga gb GF GR o N ca cb ao bo xa xb fs f r w' ∧ Only w w' [GF, GR] ∧ RInv A B d lo hi k r0 r f od flo fhi) (fun a' _ => (hi + 2 - intOf (a'.tmps.getD 31 undef)).toNat) ⟨lo, r0, _, _, h, hS, Only.refl _ _, ⟨by omega, by omega, .inr rfl, fun _ _ => rfl, fun k' g1 g2 => by omega, fun _ k' g1 g2 => by omega⟩⟩ ?_)
  clear h hS
  rintro a2 w2 ⟨k, r, v32, v33, h, hS, hO, hI⟩
  have hμ : (hi + 2 - intOf (a2.tmps.getD 31 undef)).toNat = (hi + 2 - k).toNat := by rw [h.e31]; rfl
  rw [hμ]
  refine sq (x := pc [1, 1, 1, 1, 1, 1, 1, 0, 1, 0, 0, 1, 0, 0, 1, 1, 1, 1, 0, 1, 0, 0, 0]) (y := pc [1, 1, 1, 1, 1, 1, 1, 0, 1, 0, 0, 1, 0, 0, 1, 1, 1, 1, 0, 1, 0, 0, 1]) rfl (h32 h (fun hk a3 h3 => ?_) (fun hk a3 h3 => ?_))
  · show Exit.inBlock 6 Q (.exit 6) a3 w2
    refine inB ?_
    subst hA hB hlo hhi
    refine hQ w2 a3 r _ _ _ h3 hS hO (hI.done (by omega)) (fun ho1 => hI.far (by omega) (by unfold U; omega) hAh ho1 (hp ho1) (he ho1))
  · refine sq (x := Code.block 7 (pc [1, 1, 1, 1, 1, 1, 1, 0, 1, 0, 0, 1, 0, 0, 1, 1, 1, 1, 0, 1, 0, 0, 1, 0, 0])) (y := pc [1, 1, 1, 1, 1, 1, 1, 0, 1, 0, 0, 1, 0, 0, 1, 1, 1, 1, 0, 1, 0, 0, 1, 1]) rfl (wp_block (rblock C hn2 hd hAh hRa he hp hlo hhi hI hk h3 hS (fun w' a' f' x y u v g1 g2 g3 g4 => ?_) (fun ex hex w' a' r' v32 v33 hF hS' hO' hI' => ?_)))
    · exact hRet w' a' f' x y u v g1 g2 g3 (only_trans hO g4)
    · have key : Code.wp Yba.prog (pc [1, 1, 1, 1, 1, 1, 1, 0, 1, 0, 0, 1, 0, 0, 1, 1, 1, 1, 0, 1, 0, 0, 1, 1]) (Exit.then (fun a' w' => (∃ (k : Int) (r : Int → Int) (v32 v33 : Value), Fr (.pointer (some ⟨S, 0, none⟩)) (.int .i64 a0) (.int .i64 a1) (.int .i64 b0) (.int .i64 b1) (.int .i64 n) (.int .i64 m) (.int .i64 dl) (.bool od) (.slice (some ⟨GF, 0, none⟩) N N) (.slice (some ⟨GR, 0, none⟩) N N) (.int .i64 o) (.int .i64 flo) (.int .i64 fhi) (.int .i64 rlo) (.int .i64 rhi) (.int .i64 d) (.int .i64 lo) (.int .i64 hi) v28 v29 v30 (.int .i64 k) v32 v33 a' ∧ Sea S ga gb GF GR o N ca cb ao bo xa xb fs f r w' ∧ Only w w' [GF, GR] ∧ RInv A B d lo hi k r0 r f od flo fhi) ∧ (hi + 2 - intOf (a'.tmps.getD 31 undef)).toNat < (hi + 2 - k).toNat) (Exit.inBlock 6 Q)) a' w' := by
        have k1 := hI.k1
        refine r33 hF (by omega) (by omega) (fun a4 h4 => ⟨⟨k + 2, r', _, _, h4, hS', only_trans hO hO', hI'⟩, ?_⟩)
        rw [h4.e31]
        show (hi + 2 - (k + 2)).toNat < _
        omega
      rcases hex with rfl | rfl
      · exact key
      · exact inB key

end Go.Proofs.Ybulkacye
