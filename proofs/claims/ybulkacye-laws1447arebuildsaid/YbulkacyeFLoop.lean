import Derived.Test.YbulkacyeFwd
import Derived.Test.YbulkacyeFwd2
import Derived.Test.YbulkacyeFwd3
import Derived.Test.YbulkacyeHeads
import Derived.Test.YbulkacyeStep
namespace Go.Proofs.Ybulkacye
open Go.RowKit Go.Proofs.Ybulkacye.Lcs
set_option linter.unusedVariables false
set_option linter.unusedSectionVars false
variable {S ga gb GF GR o N ca cb : Nat} {ao bo : Option Addr} {xa xb : List Int} {fs : Value} {f r : Int → Int} {w : World} {a0 a1 b0 b1 n m : Nat} {dl : Int} {od : Bool} {v21 v22 v23 v24 v25 v26 v27 v28 v29 v30 v31 v32 v33 : Value} {a : Act} {Q : Exit → Act → World → Prop}

/-- A part of the two sequences and the room of the rows. -/
structure Cx (A B xa xb : List Int) (a0 b0 n m o N : Nat) : Prop where
  hA : A.length = n
  hB : B.length = m
  hxa : ∀ i, i < n → xa[a0 + i]? = A[i]?
  hxb : ∀ i, i < m → xb[b0 + i]? = B[i]?
  la : a0 + n ≤ xa.length
  lb : b0 + m ≤ xb.length
  la2 : xa.length ≤ 1000
  lb2 : xb.length ≤ 1000
  hN : N = 2 * o + 1
  ho : n + m + 1 ≤ o
  ho2 : o ≤ 1000
theorem sq {x y c : Code} {P : Program} {a : Act} {w : World} {Q : Exit → Act → World → Prop} (hc : c = Code.seq x y) (h : x.wp P (Exit.then (y.wp P Q) Q) a w) : c.wp P Q a w := by
  subst hc; exact wp_seq h
theorem inB {id : Nat} {a : Act} {w : World} {Q : Exit → Act → World → Prop} (h : Q .normal a w) : Exit.inBlock id Q (.exit id) a w := by
  show (if id = id then Q .normal a w else Q (.exit id) a w)
  rw [if_pos rfl]; exact h
theorem Ahead.congr {A B : List Int} {d : Nat} {g g' : Int → Int} {lo hi : Int} (h : Ahead A B d g lo hi) (hg : ∀ k' : Int, (k' - d) % 2 = 1 → g' k' = g k') : Ahead A B d g' lo hi := by
  refine ⟨h.1, fun e he => ?_⟩
  obtain ⟨h1, h2⟩ := h.2 e he
  refine ⟨fun k' g1 g2 g3 => ?_, h2⟩
  rw [hg k' (by omega)]
  exact h1 k' g1 g2 g3
theorem only_trans {w w1 w2 : World} {F : List Nat} (h : Only w w1 F) (k : Only w1 w2 F) : Only w w2 F := h.trans k (fun x hx => .inl hx)
theorem p1_bound {A B : List Int} {d : Nat} {g : Int → Int} {lo hi k : Int} {m : Int} (h : Ahead A B d g lo hi) (hk : (k - d) % 2 = 0) : -1 ≤ p1Of g m lo hi (if d = 0 then 0 else -1) k ∧ p1Of g m lo hi (if d = 0 then 0 else -1) k ≤ A.length := by
  unfold p1Of
  split
  · rename_i hc
    exact h.bound (by omega) hc.1 hc.2.1
  · split <;> omega

set_option maxRecDepth 20000 in
theorem fblock {A B : List Int} {d : Nat} {flo fhi rlo rhi lo hi k : Int} {f0 : Int → Int} (C : Cx A B xa xb a0 b0 n m o N) (hn2 : 2 ≤ e A B) (hd : d ≤ 10000) (hAh : Ahead A B d f0 flo fhi) (hRa : RAhead A B d r rlo rhi) (he : od = true → 2 * (d : Int) - 1 ≤ e A B) (hp : od = true → ((A.length : Int) - B.length) % 2 = 1) (hlo : lo = loOf (-(d : Int)) (-(m : Int))) (hhi : hi = hiOf d n) (hI : FInv A B d lo hi k f0 f r od rlo rhi) (hk : k ≤ hi) (h : Fr (.pointer (some ⟨S, 0, none⟩)) (.int .i64 a0) (.int .i64 a1) (.int .i64 b0) (.int .i64 b1) (.int .i64 n) (.int .i64 m) (.int .i64 dl) (.bool od) (.slice (some ⟨GF, 0, none⟩) N N) (.slice (some ⟨GR, 0, none⟩) N N) (.int .i64 o) (.int .i64 flo) (.int .i64 fhi) (.int .i64 rlo) (.int .i64 rhi) (.int .i64 d) (.int .i64 lo) (.int .i64 hi) (.int .i64 k) v29 v30 v31 v32 v33 a) (hS : Sea S ga gb GF GR o N ca cb ao bo xa xb fs f r w)
    (hRet : ∀ w' a' f' x y u v, Snake A B x y u v → Ret ((a0 : Int) + x) ((b0 : Int) + y) ((a0 : Int) + u) ((b0 : Int) + v) a' → Sea S ga gb GF GR o N ca cb ao bo xa xb fs f' r w' → Only w w' [GF, GR] → Q .ret a' w')
    (hX : ∀ ex : Exit, (ex = .normal ∨ ex = .exit 3) → ∀ w' a' f' v29 v30, Fr (.pointer (some ⟨S, 0, none⟩)) (.int .i64 a0) (.int .i64 a1) (.int .i64 b0) (.int .i64 b1) (.int .i64 n) (.int .i64 m) (.int .i64 dl) (.bool od) (.slice (some ⟨GF, 0, none⟩) N N) (.slice (some ⟨GR, 0, none⟩) N N) (.int .i64 o) (.int .i64 flo) (.int .i64 fhi) (.int .i64 rlo) (.int .i64 rhi) (.int .i64 d) (.int .i64 lo) (.int .i64 hi) (.int .i64 k) v29 v30 v31 v32 v33 a' → Sea S ga gb GF GR o N ca cb ao bo xa xb fs f' r w' → Only w w' [GF, GR] → FInv A B d lo hi (k + 2) f0 f' r od rlo rhi → Q ex a' w') : Code.wp Yba.prog (pc [1, 1, 1, 1, 1, 1, 1, 0, 1, 0, 0, 1, 0, 0, 1, 0, 1, 0, 0, 1, 0, 0]) Q a w := by
  have hAf := hAh.congr hI.old
  obtain ⟨hA, hB, hxa, hxb, la, lb, la2, lb2, hN, ho, ho2⟩ := C
  subst hA hB
  have hlp := lo_par d B.length
  have hhp := hi_par d A.length
  rw [← hlo] at hlp
  rw [← hhi] at hhp
  have k1 := hI.k1
  have k2 := hI.k2
  have kd : d = 0 → k = 0 := fun e => by omega
  have kn : k ≤ A.length := by omega
  have km : -(B.length : Int) ≤ k := by omega
  have hU : (A.length : Int) < U := by unfold U; omega
  obtain ⟨hpx, hrun⟩ := hAf.px k2 kd
  refine sq (x := pc [1, 1, 1, 1, 1, 1, 1, 0, 1, 0, 0, 1, 0, 0, 1, 0, 1, 0, 0, 1, 0, 0, 0]) (y := pc [1, 1, 1, 1, 1, 1, 1, 0, 1, 0, 0, 1, 0, 0, 1, 0, 1, 0, 0, 1, 0, 0, 1]) rfl (p14 h fun a1 h1 => ?_)
  refine sq (x := pc [1, 1, 1, 1, 1, 1, 1, 0, 1, 0, 0, 1, 0, 0, 1, 0, 1, 0, 0, 1, 0, 0, 1, 0]) (y := pc [1, 1, 1, 1, 1, 1, 1, 0, 1, 0, 0, 1, 0, 0, 1, 0, 1, 0, 0, 1, 0, 0, 1, 1]) rfl (c15 (by omega) h1 fun a2 h2 => ?_)
  refine sq (x := pc [1, 1, 1, 1, 1, 1, 1, 0, 1, 0, 0, 1, 0, 0, 1, 0, 1, 0, 0, 1, 0, 0, 1, 1, 0]) (y := pc [1, 1, 1, 1, 1, 1, 1, 0, 1, 0, 0, 1, 0, 0, 1, 0, 1, 0, 0, 1, 0, 0, 1, 1, 1]) rfl (c17 h2 hS hN ho ho2 km kn (fun g1 g2 => hAf.bound (by omega) g1 g2) fun a3 h3 => ?_)
  refine sq (x := pc [1, 1, 1, 1, 1, 1, 1, 0, 1, 0, 0, 1, 0, 0, 1, 0, 1, 0, 0, 1, 0, 0, 1, 1, 1, 0]) (y := pc [1, 1, 1, 1, 1, 1, 1, 0, 1, 0, 0, 1, 0, 0, 1, 0, 1, 0, 0, 1, 0, 0, 1, 1, 1, 1]) rfl (c19 h3 hS hN ho ho2 km kn (p1_bound hAf k2) (fun g1 g2 => hAf.bound (by omega) g1 g2) fun a4 h4 => ?_)
  generalize pxOf f A.length B.length flo fhi (if d = 0 then 0 else -1) k = px at hpx hrun h4
  have hpb : -1 ≤ px ∧ px ≤ A.length := by
    rcases hpx with e | e
    · omega
    · have := pt_bd e; omega
  refine sq (x := pc [1, 1, 1, 1, 1, 1, 1, 0, 1, 0, 0, 1, 0, 0, 1, 0, 1, 0, 0, 1, 0, 0, 1, 1, 1, 1, 0]) (y := pc [1, 1, 1, 1, 1, 1, 1, 0, 1, 0, 0, 1, 0, 0, 1, 0, 1, 0, 0, 1, 0, 0, 1, 1, 1, 1, 1]) rfl (c21 h4 hS hN ho ho2 km kn hpb (fun hp1 w' a' hF hS' hO => ?_) (fun hp1 a5 h5 => ?_))
  · subst hp1
    exact hX _ (.inr rfl) w' a' _ _ _ hF hS' hO (hI.step hk (ent_none hrun) (fun _ _ _ c _ => absurd rfl c))
  have hP : Pt A B d k px := by rcases hpx with e | e; exact absurd e hp1; exact e
  obtain ⟨x1, x2, y1, y2⟩ := pt_bd hP
  refine sq (x := pc [1, 1, 1, 1, 1, 1, 1, 0, 1, 0, 0, 1, 0, 0, 1, 0, 1, 0, 0, 1, 0, 0, 1, 1, 1, 1, 1, 0]) (y := pc [1, 1, 1, 1, 1, 1, 1, 0, 1, 0, 0, 1, 0, 0, 1, 0, 1, 0, 0, 1, 0, 0, 1, 1, 1, 1, 1, 1]) rfl (p23 h5 fun a6 h6 => ?_)
  refine sq (x := pc [1, 1, 1, 1, 1, 1, 1, 0, 1, 0, 0, 1, 0, 0, 1, 0, 1, 0, 0, 1, 0, 0, 1, 1, 1, 1, 1, 1, 0]) (y := pc [1, 1, 1, 1, 1, 1, 1, 0, 1, 0, 0, 1, 0, 0, 1, 0, 1, 0, 0, 1, 0, 0, 1, 1, 1, 1, 1, 1, 1]) rfl (slide rfl rfl hxa hxb h6 hS la lb la2 lb2 x1 x2 y1 y2 (fun ex w7 a7 h7 hS7 hO7 e1 e2 e3 hM hstop => ?_))
  obtain ⟨hPe, hE⟩ := ent_slide hP hrun e1 hM hstop
  have hb : od = true → rlo ≤ k → k ≤ rhi → r k = U ∨ RPt A B (d - 1) k (r k) := fun ho1 g1 g2 => hRa.bound (by have := hp ho1; omega) g1 g2
  refine tailF h7 hS7 hN ho ho2 km kn (by omega) (by omega) x1 x2 y1 y2 e1 e2 e3 (fun ho1 g1 g2 => ?_) (fun hit w' a' hR hS' hO' => ?_) (fun hit w' a' hF hS' hO' => ?_)
  · rcases hb ho1 g1 g2 with e | e
    · exact .inl e
    · have := rpt_bd e; right; omega
  · obtain ⟨ho1, g1, g2, g3, g4⟩ := hit
    have hrp : RPt A B (d - 1) k (r k) := by rcases hb ho1 g1 g2 with e | e; exact absurd e g3; exact e
    have hle := meet_le hPe hrp g4
    have he1 := he ho1
    obtain ⟨x, y, u, v, q1, q2, q3, q4, hsn⟩ := meet_fwd hP hPe e1 hM hrp g4 (by omega) (by omega) (by omega)
    refine hRet w' a' _ x y u v hsn ?_ hS' (only_trans hO7 hO')
    have z1 : (b0 : Int) + px - k = b0 + y := by omega
    have z2 : (b0 : Int) + ex - k = b0 + v := by omega
    rw [z1, z2, q1, q3] at hR
    exact hR
  · refine hX _ (.inl rfl) w' a' _ _ _ hF hS' (only_trans hO7 hO') (hI.step hk hE (fun ho1 g1 g2 g3 g4 => ?_))
    rcases Int.lt_or_le ex (r k) with c | c
    · exact c
    · exact absurd ⟨ho1, g1, g2, g4, c⟩ hit

set_option maxRecDepth 20000 in
theorem floop {A B : List Int} {d : Nat} {flo fhi rlo rhi lo hi : Int} {f0 : Int → Int} (C : Cx A B xa xb a0 b0 n m o N) (hn2 : 2 ≤ e A B) (hd : d ≤ 10000) (hAh : Ahead A B d f0 flo fhi) (hRa : RAhead A B d r rlo rhi) (he : od = true → 2 * (d : Int) - 1 ≤ e A B) (hp : od = true → ((A.length : Int) - B.length) % 2 = 1) (hlo : lo = loOf (-(d : Int)) (-(m : Int))) (hhi : hi = hiOf d n) (h : Fr (.pointer (some ⟨S, 0, none⟩)) (.int .i64 a0) (.int .i64 a1) (.int .i64 b0) (.int .i64 b1) (.int .i64 n) (.int .i64 m) (.int .i64 dl) (.bool od) (.slice (some ⟨GF, 0, none⟩) N N) (.slice (some ⟨GR, 0, none⟩) N N) (.int .i64 o) (.int .i64 flo) (.int .i64 fhi) (.int .i64 rlo) (.int .i64 rhi) (.int .i64 d) (.int .i64 lo) (.int .i64 hi) (.int .i64 lo) v29 v30 v31 v32 v33 a) (hS : Sea S ga gb GF GR o N ca cb ao bo xa xb fs f0 r w)
    (hRet : ∀ w' a' f' x y u v, Snake A B x y u v → Ret ((a0 : Int) + x) ((b0 : Int) + y) ((a0 : Int) + u) ((b0 : Int) + v) a' → Sea S ga gb GF GR o N ca cb ao bo xa xb fs f' r w' → Only w w' [GF, GR] → Q .ret a' w')
    (hQ : ∀ w' a' f' v28 v29 v30, Fr (.pointer (some ⟨S, 0, none⟩)) (.int .i64 a0) (.int .i64 a1) (.int .i64 b0) (.int .i64 b1) (.int .i64 n) (.int .i64 m) (.int .i64 dl) (.bool od) (.slice (some ⟨GF, 0, none⟩) N N) (.slice (some ⟨GR, 0, none⟩) N N) (.int .i64 o) (.int .i64 flo) (.int .i64 fhi) (.int .i64 rlo) (.int .i64 rhi) (.int .i64 d) (.int .i64 lo) (.int .i64 hi) v28 v29 v30 v31 v32 v33 a' → Sea S ga gb GF GR o N ca cb ao bo xa xb fs f' r w' → Only w w' [GF, GR] → Ahead A B (d + 1) f' lo hi → (od = true → 2 * (d : Int) + 1 ≤ e A B) → Q .normal a' w') : Code.wp Yba.prog (pc [1, 1, 1, 1, 1, 1, 1, 0, 1, 0, 0, 1, 0, 0, 1, 0, 1]) Q a w := by
  have hlp := lo_par d m
  have hhp := hi_par d n
  rw [← hlo] at hlp
  rw [← hhi] at hhp
  have hn1 := C.ho
  have hn3 := C.ho2
  show Code.wp Yba.prog (Code.block 2 (Code.loop (pc [1, 1, 1, 1, 1, 1, 1, 0, 1, 0, 0, 1, 0, 0, 1, 0, 1, 0, 0]))) Q a w
  refine wp_block (wp_loop (fun a' w' => ∃ (k : Int) (f : Int → Int) (v29 v30 : Value), Fr (.pointer (some ⟨S, 0, none⟩)) (.int .i64 a0) (.int .i64 a1) (.int .i64 b0) (.int .i64 b1) (.int .i64 n) (.int .i64 m) (.int .i64 dl) (.bool od) (.slice (some ⟨GF, 0, none⟩) N N) (.slice (some ⟨GR, 0, none⟩) N N) (.int .i64 o) (.int .i64 flo) (.int .i64 fhi) (.int .i64 rlo) (.int .i64 rhi) (.int .i64 d) (.int .i64 lo) (.int .i64 hi) (.int .i64 k) v29 v30 v31 v32 v33 a' ∧ Sea S ga gb GF GR o N ca cb ao bo xa xb fs f r w' ∧ Only w w' [GF, GR] ∧ FInv A B d lo hi k f0 f r od rlo rhi) (fun a' _ => (hi + 2 - intOf (a'.tmps.getD 28 undef)).toNat) ⟨lo, f0, _, _, h, hS, Only.refl _ _, ⟨by omega, by omega, .inr rfl, fun _ _ => rfl, fun k' g1 g2 => by omega, fun _ k' g1 g2 => by omega⟩⟩ ?_)
  clear h hS
  rintro a2 w2 ⟨k, f, v29, v30, h, hS, hO, hI⟩
  have hμ : (hi + 2 - intOf (a2.tmps.getD 28 undef)).toNat = (hi + 2 - k).toNat := by rw [h.e28]; rfl
  rw [hμ]
  refine sq (x := pc [1, 1, 1, 1, 1, 1, 1, 0, 1, 0, 0, 1, 0, 0, 1, 0, 1, 0, 0, 0]) (y := pc [1, 1, 1, 1, 1, 1, 1, 0, 1, 0, 0, 1, 0, 0, 1, 0, 1, 0, 0, 1]) rfl (h12 h (fun hk a3 h3 => ?_) (fun hk a3 h3 => ?_))
  · show Exit.inBlock 2 Q (.exit 2) a3 w2
    refine inB ?_
    obtain ⟨hA, hB, _⟩ := C
    subst hA hB hlo hhi
    refine hQ w2 a3 f _ _ _ h3 hS hO (hI.done (by omega)) (fun ho1 => hI.far (by omega) (by unfold U; omega) hRa ho1 (hp ho1) (he ho1))
  · refine sq (x := Code.block 3 (pc [1, 1, 1, 1, 1, 1, 1, 0, 1, 0, 0, 1, 0, 0, 1, 0, 1, 0, 0, 1, 0, 0])) (y := pc [1, 1, 1, 1, 1, 1, 1, 0, 1, 0, 0, 1, 0, 0, 1, 0, 1, 0, 0, 1, 1]) rfl (wp_block (fblock C hn2 hd hAh hRa he hp hlo hhi hI hk h3 hS (fun w' a' f' x y u v g1 g2 g3 g4 => ?_) (fun ex hex w' a' f' v29 v30 hF hS' hO' hI' => ?_)))
    · exact hRet w' a' f' x y u v g1 g2 g3 (only_trans hO g4)
    · have key : Code.wp Yba.prog (pc [1, 1, 1, 1, 1, 1, 1, 0, 1, 0, 0, 1, 0, 0, 1, 0, 1, 0, 0, 1, 1]) (Exit.then (fun a' w' => (∃ (k : Int) (f : Int → Int) (v29 v30 : Value), Fr (.pointer (some ⟨S, 0, none⟩)) (.int .i64 a0) (.int .i64 a1) (.int .i64 b0) (.int .i64 b1) (.int .i64 n) (.int .i64 m) (.int .i64 dl) (.bool od) (.slice (some ⟨GF, 0, none⟩) N N) (.slice (some ⟨GR, 0, none⟩) N N) (.int .i64 o) (.int .i64 flo) (.int .i64 fhi) (.int .i64 rlo) (.int .i64 rhi) (.int .i64 d) (.int .i64 lo) (.int .i64 hi) (.int .i64 k) v29 v30 v31 v32 v33 a' ∧ Sea S ga gb GF GR o N ca cb ao bo xa xb fs f r w' ∧ Only w w' [GF, GR] ∧ FInv A B d lo hi k f0 f r od rlo rhi) ∧ (hi + 2 - intOf (a'.tmps.getD 28 undef)).toNat < (hi + 2 - k).toNat) (Exit.inBlock 2 Q)) a' w' := by
        have k1 := hI.k1
        refine r13 hF (by omega) (by omega) (fun a4 h4 => ⟨⟨k + 2, f', _, _, h4, hS', only_trans hO hO', hI'⟩, ?_⟩)
        rw [h4.e28]
        show (hi + 2 - (k + 2)).toNat < _
        omega
      rcases hex with rfl | rfl
      · exact key
      · exact inB key

end Go.Proofs.Ybulkacye
