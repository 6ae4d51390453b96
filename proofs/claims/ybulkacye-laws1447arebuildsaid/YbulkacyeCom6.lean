import Derived.Test.YbulkacyeCom4
import Derived.Test.YbulkacyeCom5
namespace Go.Proofs.Ybulkacye
open Go.RowKit Go.Maps Go.Proofs.Ybulkacye.Lcs
set_option linter.unusedVariables false
set_option linter.unusedSectionVars false
variable {v0 v1 v5 v6 v11 v12 v13 v18 v19 v22 v29 v30 v31 v57 v58 v59 v83 v84 v85 v115 v116 v117 : Value} {a : Act} {Q : Exit → Act → World → Prop} {w : World} {base bm gi gn : Nat} {ao bo : Option Addr} {ca cb : Nat} {A B ks : List ByteArray}

theorem below_kp {B base : Nat} {F : List Nat} {w w1 w2 : World} (h : Below B w w1) (k : Kp base F w1 w2) (hb : B ≤ base) (hF : ∀ x ∈ F, B ≤ x) : Below B w w2 :=
  ⟨k.os.trans h.os, k.tape.trans h.tape, k.output.trans h.output, Nat.le_trans h.size k.size, fun i hi => by
    rw [k.block i (by omega) (fun hm => by have := hF i hm; omega), h.block i hi]⟩
theorem below_only {B : Nat} {F : List Nat} {w w1 w2 : World} (h : Below B w w1) (k : Only w1 w2 F) (hb : B ≤ w1.heap.size) (hF : ∀ x ∈ F, B ≤ x) : Below B w w2 :=
  ⟨k.os.trans h.os, k.tape.trans h.tape, k.output.trans h.output, Nat.le_trans h.size k.size, fun i hi => by
    rw [k.block i (by omega) (fun hm => by have := hF i hm; omega), h.block i hi]⟩
theorem Strs.below {base : Nat} {w w' : World} {ao : Option Addr} {A : List ByteArray} (h : Strs base w ao A) (hb : Below base w w') : Strs base w' ao A := by
  intro i s hs
  obtain ⟨g, h1, h2, h3⟩ := h i s hs
  refine ⟨g, h1, h2, ?_⟩
  rw [World.cell?_of_block (a := ⟨g, i, none⟩) (hb.block g h2)]
  exact h3
theorem own_base {w : World} {base base' : Nat} {e : TypeId} {size : Nat} {v : Value} {n : Nat} {xs : List Value} (h : w.ownsRow base e size v n xs) (hb : base' ≤ base) : w.ownsRow base' e size v n xs := by
  refine ⟨h.1, ?_⟩
  rcases h.2 with h2 | ⟨g, cap, cur, rfl, h3, rest⟩
  · exact .inl h2
  · exact .inr ⟨g, cap, cur, rfl, by omega, rest⟩
/-- An own row of integers, read by its places. -/
theorem own_reads {w : World} {base : Nat} {ko : Option Addr} {n c : Nat} {K : List Int} (h : w.ownsRow base 3 1 (.slice ko n c) n (ints K)) (h0 : 0 < w.heap.size) : ∃ g, g < w.heap.size ∧ ∀ (i : Nat) (v : Int), K[i]? = some v → ko = some ⟨g, 0, none⟩ ∧ w.cell? ⟨g, i, none⟩ = some (.int .i64 v) := by
  have hl := h.1
  rw [ints_len, Nat.mul_one] at hl
  by_cases hn : 0 < n
  · obtain ⟨g, cap, hv, hb, hg⟩ := h.form hn
    cases hv
    refine ⟨g, hg, fun i v hi => ⟨rfl, ?_⟩⟩
    have hi' := (List.getElem?_eq_some_iff.1 hi).1
    rw [h.cellAt i (by omega)]
    simp [ints, hi]
  · refine ⟨0, h0, fun i v hi => ?_⟩
    have hi' := (List.getElem?_eq_some_iff.1 hi).1
    omega
theorem own_nats {w : World} {base B : Nat} {ko : Option Addr} {n c : Nat} {p : ByteArray → Bool} {l : List ByteArray} (h : w.ownsRow base 3 1 (.slice ko n c) n (ints (fromI p l))) (hB : w.heap.size ≤ B) : Nats B w ko (from_ p l) := by
  intro i v hi
  have hl := h.1
  rw [ints_len, Nat.mul_one] at hl
  have hi' := (List.getElem?_eq_some_iff.1 hi).1
  have e : (fromI p l).length = (from_ p l).length := by simp [fromI]
  obtain ⟨g, cap, hv, hb, hg⟩ := h.form (by omega)
  cases hv
  refine ⟨g, rfl, by omega, ?_⟩
  rw [h.cellAt i (by omega)]
  simp [ints, fromI, hi]
theorem prt_all (x : List Int) : prt x 0 x.length = x := by simp [prt]

set_option maxRecDepth 20000 in
set_option maxHeartbeats 4000000 in
theorem common_any (hlA : A.length ≤ 300) (hlB : B.length ≤ 300) (hsA : ∀ s ∈ A, s.size ≤ 1000) (hsB : ∀ s ∈ B, s.size ≤ 1000) (hA : Strs w.heap.size w ao A) (hB : Strs w.heap.size w bo B) :
    Calls Yba.prog 18 #[.slice ao A.length ca, .slice bo B.length cb] w fun e w' => ∃ (fs : Value) (M : List (Nat × Nat)), e = .returned fs ∧ w'.ownsRow w.heap.size 57 2 fs M.length (mcells M) ∧ Below w.heap.size w w' ∧ Cmn A B A.length B.length 0 0 M ∧ M.length = L A B := by
  go_enter Yba.func18, Yba.ntmps18
  show Code.wp Yba.prog (pc18 []) _ _ w
  have h0 : Fm (.slice ao A.length ca) (.slice bo B.length cb) undef undef undef undef undef undef undef undef undef undef undef undef undef undef undef undef undef undef undef undef ⟨#[.slice ao A.length ca, .slice bo B.length cb, undef, undef, undef, undef, undef, undef, undef, undef, undef, undef, undef, undef, undef, undef, undef, undef, undef, undef, undef, undef, undef, undef, undef, undef, undef, undef, undef, undef, undef, undef, undef, undef, undef, undef, undef, undef, undef, undef, undef, undef, undef, undef, undef, undef, undef, undef, undef, undef, undef, undef, undef, undef, undef, undef, undef, undef, undef, undef, undef, undef, undef, undef, undef, undef, undef, undef, undef, undef, undef, undef, undef, undef, undef, undef, undef, undef, undef, undef, undef, undef, undef, undef, undef, undef, undef, undef, undef, undef, undef, undef, undef, undef, undef, undef, undef, undef, undef, undef, undef, undef, undef, undef, undef, undef, undef, undef, undef, undef, undef, undef, undef, undef, undef, undef, undef, undef, undef, undef, undef, undef, undef, undef, undef, undef, undef, undef, undef, undef, undef, undef, undef, undef, undef, undef, undef, undef, undef, undef, undef, undef, undef, undef], []⟩ := ⟨rfl, rfl, rfl, rfl, rfl, rfl, rfl, rfl, rfl, rfl, rfl, rfl, rfl, rfl, rfl, rfl, rfl, rfl, rfl, rfl, rfl, rfl, rfl, rfl⟩
  refine sq (x := pc18 [0]) (y := pc18 [1]) rfl (cq_0 h0 (fun w1 a1 h1 e1 => ?_))
  subst e1
  clear h0
  obtain ⟨W, hW⟩ : ∃ W, W = w1 := ⟨_, rfl⟩
  subst hW
  refine sq (x := pc18 [1, 0]) (y := pc18 [1, 1]) rfl (cq_1 h1 (fun w1 a2 h2 e1 => ?_))
  have s1 : w1.heap.size = W.heap.size + 1 := by rw [e1]; simp
  have m1 : MapIs w1 W.heap.size 0 [] := by rw [e1]; exact MapIs.made W
  have b1 : Below W.heap.size W w1 := by rw [e1]; exact (Below.refl _ _).alloc (Nat.le_refl _) _
  clear e1
  refine sq (x := pc18 [1, 1, 0]) (y := pc18 [1, 1, 1]) rfl (cq_2 (by omega) h2 (fun w2 a3 h3 e2 => ?_))
  have s2 : w2.heap.size = W.heap.size + 2 := by rw [e2]; simp; omega
  have m2 : MapIs w2 W.heap.size 0 [] := m1.congr (by rw [e2, Below.heap_alloc _ _ _ (by omega)])
  have r2 : RowI w2 w1.heap.size (List.replicate A.length 0) := by rw [e2]; exact RowI.made w1 A.length
  have b2 : Below W.heap.size W w2 := by rw [e2]; exact b1.alloc (by omega) _
  clear e2
  refine sq (x := pc18 [1, 1, 1, 0]) (y := pc18 [1, 1, 1, 1]) rfl ?_
  refine sq (x := pc18 [1, 1, 1, 0, 0]) (y := pc18 [1, 1, 1, 0, 1]) rfl (cq_3 h3 (fun w2' a4 h4 e3 => ?_))
  subst e3
  refine co1 (base := W.heap.size) (by omega) hsA (hA.below b2) (by omega) (by omega) (by omega) (by omega) h4 m2 r2 (fun n ks v31 w3 a5 h5 hn m3 hks r3 o3 => ?_)
  have s3 := o3.size
  have b3 : Below W.heap.size W w3 := below_only b2 o3 (by omega) (by simp; omega)
  have hkl : ks.length ≤ 1000 := by
    obtain ⟨D, hown, hDs, hD⟩ := m3
    have := hown.size_le
    omega
  refine sq (x := pc18 [1, 1, 1, 1, 0]) (y := pc18 [1, 1, 1, 1, 1]) rfl (cq_12 hkl m3 h5 (fun w4 a6 h6 e4 => ?_))
  have s4 : w4.heap.size = w3.heap.size + 1 := by rw [e4]; simp
  have k4 : ∀ g, g < w3.heap.size → w4.heap[g]? = w3.heap[g]? := fun g hg => by rw [e4, Below.heap_alloc _ _ _ hg]
  have q4 : RowB w4 w3.heap.size (List.replicate ks.length false) := by rw [e4]; exact RowB.made w3 ks.length
  have b4 : Below W.heap.size W w4 := by rw [e4]; exact b3.alloc (by omega) _
  clear e4
  have m4 : MapIs w4 W.heap.size n ks := m3.congr (k4 _ (by omega))
  have r4 : RowI w4 w1.heap.size (A.map (idx ks)) := r3.congr (k4 _ (by omega))
  refine sq (x := pc18 [1, 1, 1, 1, 1, 0]) (y := pc18 [1, 1, 1, 1, 1, 1]) rfl (cq_13 h6 (fun w4' a7 h7 e5 => ?_))
  subst e5
  refine sq (x := pc18 [1, 1, 1, 1, 1, 1, 0]) (y := pc18 [1, 1, 1, 1, 1, 1, 1]) rfl ?_
  refine sq (x := pc18 [1, 1, 1, 1, 1, 1, 0, 0]) (y := pc18 [1, 1, 1, 1, 1, 1, 0, 1]) rfl (cq_14 h7 (fun w4' a8 h8 e5 => ?_))
  subst e5
  refine co2 (base := W.heap.size) (base2 := w4'.heap.size) (by omega) hsB hkl (hB.below b4) (by omega) (by omega) (by omega) (by omega) (by omega) (Nat.le_refl _) h8 m4 q4 (fun kvB fvB r v59 w5 a9 h9 t5 q5 hrv hrl k5 => ?_)
  have s5 := k5.size
  have b5 : Below W.heap.size W w5 := below_kp b4 k5 (by omega) (by simp; omega)
  have r5 : RowI w5 w1.heap.size (A.map (idx ks)) := r4.congr (k5.block _ (by omega) (by simp; omega))
  refine sq (x := pc18 [1, 1, 1, 1, 1, 1, 1, 0]) (y := pc18 [1, 1, 1, 1, 1, 1, 1, 1]) rfl (cq_23 h9 (fun w5' a10 h10 e5 => ?_))
  subst e5
  refine sq (x := pc18 [1, 1, 1, 1, 1, 1, 1, 1, 0]) (y := pc18 [1, 1, 1, 1, 1, 1, 1, 1, 1]) rfl ?_
  refine sq (x := pc18 [1, 1, 1, 1, 1, 1, 1, 1, 0, 0]) (y := pc18 [1, 1, 1, 1, 1, 1, 1, 1, 0, 1]) rfl (cq_24 h10 (fun w5' a11 h11 e5 => ?_))
  subst e5
  refine co3 (base3 := w5'.heap.size) (B := B) (by omega) hkl hks r5.lt q5.lt (Nat.le_refl _) h11 r5 q5 hrl hrv (fun kvA fvA v85 w6 a12 h12 t6 k6 => ?_)
  have s6 := k6.size
  have b6 : Below W.heap.size W w6 := below_kp b5 k6 (by omega) (by simp)
  have tB6 : Two w4'.heap.size w6 kvB fvB (kept ks (isIn ks) B) (fromI (isIn ks) B) := t5.congr (fun g hg => k6.block g (by rcases hg with g1 | g1; exact (t5.k.lt g g1).2; exact (t5.f.lt g g1).2) (by simp)) s6
  have lA : (kept ks (isIn B) A).length ≤ 300 := by have := kept_len ks (isIn B) A; have := sel_len_le (isIn B) A; omega
  have lB : (kept ks (isIn ks) B).length ≤ 300 := by have := kept_len ks (isIn ks) B; have := sel_len_le (isIn ks) B; omega
  have lFA : (from_ (isIn B) A).length = (kept ks (isIn B) A).length := by rw [from_len, kept_len]
  have lFB : (from_ (isIn ks) B).length = (kept ks (isIn ks) B).length := by rw [from_len, kept_len]
  have lfA : (fromI (isIn B) A).length = (from_ (isIn B) A).length := by simp [fromI]
  have lfB : (fromI (isIn ks) B).length = (from_ (isIn ks) B).length := by simp [fromI]
  obtain ⟨ka, cA, rfl⟩ := own_slice2 t6.k
  obtain ⟨fa, cFA, rfl⟩ := own_slice2 t6.f
  obtain ⟨kb, cB, rfl⟩ := own_slice2 tB6.k
  obtain ⟨fb, cFB, rfl⟩ := own_slice2 tB6.f
  obtain ⟨ga, lga, rga⟩ := own_reads t6.k (by omega)
  obtain ⟨gb, lgb, rgb⟩ := own_reads tB6.k (by omega)
  have nA6 : Nats w6.heap.size w6 fa (from_ (isIn B) A) := own_nats t6.f (Nat.le_refl _)
  have nB6 : Nats w6.heap.size w6 fb (from_ (isIn ks) B) := own_nats tB6.f (Nat.le_refl _)
  refine sq (x := pc18 [1, 1, 1, 1, 1, 1, 1, 1, 1, 0]) (y := pc18 [1, 1, 1, 1, 1, 1, 1, 1, 1, 1]) rfl (cq_31 (S' := 0) (by omega) (by omega) h12 (fun S GF GR w7 a13 h13 n7 => ?_))
  have s7 := n7.bel.size
  have b7 : Below W.heap.size W w7 := below_only b6 ⟨n7.bel.os, n7.bel.tape, n7.bel.output, n7.bel.size, fun k hk _ => n7.bel.block k hk⟩ (by omega) (F := []) (by simp)
  obtain ⟨lS1, lS2⟩ := n7.lS
  obtain ⟨lF1, lF2⟩ := n7.lF
  obtain ⟨lR1, lR2⟩ := n7.lR
  have cells7 : ∀ (g i : Nat), g < w6.heap.size → w7.cell? ⟨g, i, none⟩ = w6.cell? ⟨g, i, none⟩ := fun g i hg => World.cell?_of_block (a := ⟨g, i, none⟩) (n7.bel.block g hg)
  generalize hKA : kept ks (isIn B) A = KA at *
  generalize hKB : kept ks (isIn ks) B = KB at *
  have hse : Se S ga gb GF GR (KA.length + KB.length + 1) (2 * (KA.length + KB.length) + 3) cA cB w7.heap.size ka kb KA KB (.slice none 0 0) (fun _ => 0) (fun _ => 0) [] w7 := by
    refine ⟨⟨n7.box, fun i v hv => ?_, fun i v hv => ?_, n7.fw, n7.rv, n7.sf, n7.sr, n7.fr, by omega, by omega, by omega, by omega⟩, World.ownsRow_nil _ _ _ _, lS2, by omega, by omega, lF2, lR2, by omega, by omega, Nat.le_refl _⟩
    · obtain ⟨e1, e2⟩ := rga i v hv
      exact ⟨e1, by rw [cells7 ga i lga]; exact e2⟩
    · obtain ⟨e1, e2⟩ := rgb i v hv
      exact ⟨e1, by rw [cells7 gb i lgb]; exact e2⟩
  have hL1 := L_len_left KA KB
  have hcmp := cmp_any (S := S) (ga := ga) (gb := gb) (GF := GF) (GR := GR) (ca := cA) (cb := cB) (base := w7.heap.size) (ao := ka) (bo := kb) (xa := KA) (xb := KB) (o := KA.length + KB.length + 1) (N := 2 * (KA.length + KB.length) + 3) (by omega) rfl (by omega) (KA.length + KB.length) 0 KA.length 0 KB.length _ _ _ [] w7 (by omega) (Nat.zero_le _) (Nat.zero_le _) (Nat.le_refl _) (Nat.le_refl _) (by rw [prt_all, prt_all]; simp; omega) hse
  refine sq (x := pc18 [1, 1, 1, 1, 1, 1, 1, 1, 1, 1, 0]) (y := pc18 [1, 1, 1, 1, 1, 1, 1, 1, 1, 1, 1]) rfl (cq_32 h13 hcmp (fun en w8 hen => ?_))
  obtain ⟨rfl, fs8, f8, r8, M, hse8, k8, hC, hLM⟩ := hen
  refine ⟨rfl, fun a14 h14 => ?_⟩
  rw [List.nil_append] at hse8
  rw [prt_all, prt_all] at hLM
  have s8 := k8.size
  have b8 : Below W.heap.size W w8 := below_kp b7 k8 (by omega) (by simp; omega)
  obtain ⟨fo, fc, rfl⟩ := own_slice2 hse8.own
  have hbox8 := hse8.sea.boxes.2.2.1
  have nA8 : Nats w7.heap.size w8 fa (from_ (isIn B) A) := by
    intro i v hv
    obtain ⟨g, g1, g2, g3⟩ := nA6 i v hv
    refine ⟨g, g1, by omega, ?_⟩
    rw [World.cell?_of_block (a := ⟨g, i, none⟩) (k8.block g (by omega) (by simp; omega)), cells7 g i g2]
    exact g3
  have nB8 : Nats w7.heap.size w8 fb (from_ (isIn ks) B) := by
    intro i v hv
    obtain ⟨g, g1, g2, g3⟩ := nB6 i v hv
    refine ⟨g, g1, by omega, ?_⟩
    rw [World.cell?_of_block (a := ⟨g, i, none⟩) (k8.block g (by omega) (by simp; omega)), cells7 g i g2]
    exact g3
  rw [lfA] at h14
  rw [lfB] at h14
  refine sq (x := pc18 [1, 1, 1, 1, 1, 1, 1, 1, 1, 1, 1, 0]) (y := pc18 [1, 1, 1, 1, 1, 1, 1, 1, 1, 1, 1, 1]) rfl ?_
  refine sq (x := pc18 [1, 1, 1, 1, 1, 1, 1, 1, 1, 1, 1, 0, 0]) (y := pc18 [1, 1, 1, 1, 1, 1, 1, 1, 1, 1, 1, 0, 1]) rfl (cq_33 h14 hbox8 (fun a15 h15 => ?_))
  have hMp : ∀ p ∈ M, p.1 < (from_ (isIn B) A).length ∧ p.2 < (from_ (isIn ks) B).length := fun p hp => by
    obtain ⟨_, g2, _, g4, _⟩ := (cmn_iff.1 hC).1 p hp
    omega
  refine co4 (base4 := w7.heap.size) (by omega) (by omega) (by omega) (by omega) lS2 hbox8 hse8.own nA8 nB8 hMp h15 (fun v117 w9 a16 h16 o9 k9 => ?_)
  have hbox9 : w9.cell? ⟨S, 2, none⟩ = some (.slice fo M.length fc) := by rw [World.cell?_of_block (a := ⟨S, 2, none⟩) (k9.block S lS2 (by simp))]; exact hbox8
  have b9 : Below W.heap.size W w9 := below_kp b8 k9 (by omega) (by simp)
  refine cq_38 h16 hbox9 (fun a17 d17 e17 => ?_)
  have hpost : bodyPost Yba.prog Yba.f18 (fun e w' => ∃ (fs : Value) (M : List (Nat × Nat)), e = .returned fs ∧ w'.ownsRow W.heap.size 57 2 fs M.length (mcells M) ∧ Below W.heap.size W w' ∧ Cmn A B A.length B.length 0 0 M ∧ M.length = L A B) .ret a17 w9 := by
    refine bodyPost_ret (v := .slice fo M.length fc) ?_ d17 ⟨_, M.map (backOf (from_ (isIn B) A) (from_ (isIn ks) B)), rfl, ?_, b9, ?_, ?_⟩
    · rw [Array.getD_eq_getD_getElem?] at e17
      simp [results, Yba.results18, go_sem]
      exact e17
    · rw [List.length_map]; exact own_base o9 (by omega)
    · rw [← hKA, ← hKB] at hC
      exact cmn_back (ks := ks) (fun s hs hp => (hks s).2 hs) (fun s hs hq => isIn_iff.1 hq) hC
    · rw [List.length_map, hLM, ← hKA, ← hKB]
      exact kept_L hks
  exact hpost

end Go.Proofs.Ybulkacye
