import Derived.Test.YbulkadfsFmtBuild
namespace Go.Proofs.YbulkadfsFmt
open Go.RowKit
set_option linter.unusedVariables false

def nb (f : Fam) (i : Nat) : List Value := [.string (f.kids.getD i ByteArray.empty), .int .u64 f.bits, .int .u8 f.level, .int .u8 i, .int .u8 f.kids.length]
def nbs (f : Fam) (m : Nat) : List Value := (List.range m).flatMap (nb f)
def allNbs (fs : List Fam) : List Value := fs.flatMap (fun f => nbs f f.kids.length)
def tot (fs : List Fam) : Nat := (fs.map (fun f => f.kids.length)).sum

theorem nbs_succ (f : Fam) (m : Nat) : nbs f (m + 1) = nbs f m ++ nb f m := by simp [nbs, List.range_succ]
theorem nbs_length (f : Fam) (m : Nat) : (nbs f m).length = m * 5 := by
  induction m with
  | zero => simp [nbs]
  | succ m ih => rw [nbs_succ, List.length_append, ih]; simp [nb]; omega
theorem allNbs_length (fs : List Fam) : (allNbs fs).length = tot fs * 5 := by
  induction fs with
  | nil => simp [allNbs, tot]
  | cons f l ih =>
    unfold allNbs tot at *
    rw [List.flatMap_cons, List.length_append, ih, nbs_length]
    simp only [List.map_cons, List.sum_cons]
    omega
theorem allNbs_take (fs : List Fam) (k : Nat) (f : Fam) (h : fs[k]? = some f) : allNbs (fs.take (k + 1)) = allNbs (fs.take k) ++ nbs f f.kids.length := by
  obtain ⟨hk, rfl⟩ := List.getElem?_eq_some_iff.1 h
  unfold allNbs
  rw [List.take_succ_eq_append_getElem hk, List.flatMap_append]
  simp
theorem tot_take (fs : List Fam) (k : Nat) (f : Fam) (h : fs[k]? = some f) : tot (fs.take (k + 1)) = tot (fs.take k) + f.kids.length := by
  obtain ⟨hk, rfl⟩ := List.getElem?_eq_some_iff.1 h
  unfold tot
  rw [List.take_succ_eq_append_getElem hk, List.map_append, List.sum_append]
  simp
theorem tot_append (a b : List Fam) : tot (a ++ b) = tot a + tot b := by simp [tot]
theorem tot_take_le (fs : List Fam) (k : Nat) : tot (fs.take k) ≤ tot fs := by
  have : tot fs = tot (fs.take k) + tot (fs.drop k) := by rw [← tot_append, List.take_append_drop]
  omega
theorem tot_le (fs : List Fam) (h : ∀ f ∈ fs, f.kids.length ≤ 255) : tot fs ≤ 255 * fs.length := by
  induction fs with
  | nil => simp [tot]
  | cons f l ih =>
    have h1 := h f (by simp)
    have h2 := ih (fun x hx => h x (by simp [hx]))
    unfold tot at *
    simp only [List.map_cons, List.sum_cons, List.length_cons]
    omega

theorem flat5 (fs : List Fam) (k : Nat) (f : Fam) (h : fs[k]? = some f) (j : Nat) (hj : j < 5) : (fs.flatMap Fam.cells)[k * 5 + j]? = f.cells[j]? := by
  induction fs generalizing k with
  | nil => simp at h
  | cons x l ih =>
    have hx : x.cells.length = 5 := by simp [Fam.cells]
    rw [List.flatMap_cons]
    cases k with
    | zero =>
      simp at h
      subst h
      rw [List.getElem?_append_left (by omega)]
      congr 1
      omega
    | succ k =>
      rw [List.getElem?_append_right (by omega)]
      have := ih k (by simpa using h)
      rw [← this]
      congr 1
      omega

theorem fam_at {w wr : World} {B vc : Nat} {ao : Option Addr} {fs : List Fam} (h : FamsAt w B (.slice ao fs.length vc) fs) (hb : Below w.heap.size w wr) {k : Nat} (hk : k < fs.length) :
    ∃ g f, ao = some ⟨g, 0, none⟩ ∧ fs[k]? = some f ∧ f ∈ fs ∧ wr.cell? ⟨g, k * 5, none⟩ = some (.int .u64 f.bits) ∧ wr.cell? ⟨g, k * 5 + 1, none⟩ = some (.int .u8 f.level) ∧ wr.cell? ⟨g, k * 5 + 2, none⟩ = some (.int .u8 0) ∧ wr.cell? ⟨g, k * 5 + 3, none⟩ = some (.int .u8 0) ∧
      wr.cell? ⟨g, k * 5 + 4, none⟩ = some (.slice f.co f.kids.length f.kc) ∧ IsStrs wr f.co f.kids ∧ 0 ≤ f.level ∧ f.level ≤ 56 ∧ f.kids.length ≤ 255 := by
  obtain ⟨g, cp, hv, _, hg⟩ := h.own.form (by omega)
  cases hv
  obtain ⟨f, hf⟩ : ∃ f, fs[k]? = some f := ⟨fs[k], by simp [hk]⟩
  have hm : f ∈ fs := List.mem_of_getElem? hf
  have c : ∀ j u, j < 5 → f.cells[j]? = some u → wr.cell? ⟨g, k * 5 + j, none⟩ = some u := fun j u hj hu => by
    rw [hb.cell (p := ⟨g, k * 5 + j, none⟩) hg, h.own.cellAt (k * 5 + j) (by omega), flat5 fs k f hf j hj]
    exact hu
  obtain ⟨e1, e2, e3, e4, _⟩ := h.each f hm
  exact ⟨g, f, rfl, hf, hm, c 0 _ (by omega) rfl, c 1 _ (by omega) rfl, c 2 _ (by omega) rfl, c 3 _ (by omega) rfl, c 4 _ (by omega) rfl, e1.below hb, e2, e3, e4⟩

theorem nb_news (w : World) (a b c d e : Value) (t : TypeId) : ∀ j u, [a, b, c, d, e][j]? = some u → (w.alloc (.cells #[a, b, c, d, e] t)).cell? ((⟨w.heap.size, 0, none⟩ : Addr).add j) = some u := fun j u hu =>
  World.news_of_block (cs := #[a, b, c, d, e]) (fr := (0, 0)) (heap_alloc_new w _) j u (by simpa using hu)

set_option maxRecDepth 20000 in
set_option maxHeartbeats 1000000 in
theorem kids_any (w : World) (B : Nat) (v : Value) (fs : List Fam) (h : FamsAt w B v fs) (hl : fs.length ≤ 256) :
    Calls Ybaf.prog 9 #[v] w fun e w' => ∃ v', e = .returned v' ∧ w'.ownsRow w.heap.size 48 5 v' (tot fs) (allNbs fs) ∧ Below w.heap.size w w' := by
  obtain ⟨i0, hi0, hz0, hz1, hz2⟩ := info_parts Ybaf.info48
  obtain ⟨ao, vc, rfl⟩ := own_slice h.own
  have htl := tot_le fs (fun f hf => (h.each f hf).2.2.2.1)
  go_enter Ybaf.func9, Ybaf.ntmps9
  go_wp2
  go_loopw [3, 13] (fun t i wr => ∃ k : Nat, k ≤ fs.length ∧ i = .int .i64 k ∧ t = .int .i64 (tot (fs.take k)) ∧ Below w.heap.size w wr) (fun _ i _ => fs.length - (intOf i).toNat)
  case atStart => exact ⟨0, Nat.zero_le _, rfl, rfl, Below.refl _ _⟩
  case round =>
    obtain ⟨k, hk, rfl, rfl, hb⟩ := hrel
    have htk := tot_take_le fs k
    by_cases hkl : k < fs.length
    · obtain ⟨g, f, rfl, hfk, hfm, c0, c1, c2, c3, c4, hss, l0, l1, l2⟩ := fam_at h hb hkl
      have hts := tot_take fs k f hfk
      have HT : Hid (tot (fs.take (k + 1)) = tot (fs.take k) + f.kids.length) := hts
      clear hts hfk hss
      go_wp2
      go_roundw
      case rel => exact ⟨k + 1, by omega, by go_num, by rw [HT.out]; go_num, hb.alloc hb.size _⟩
      case measure => simp [intOf]; omega
    · have hke : fs.take k = fs := List.take_of_length_le (by omega)
      rw [hke]
      have m2 : i0.bytes * tot fs ≤ 281474976710656 := by rw [hz2]; omega
      have m3 : tot fs ≤ maxLen := by unfold maxLen; omega
      obtain ⟨wo, hwo⟩ : ∃ wo, wo = wr := ⟨_, rfl⟩
      subst hwo
      have hbz := hb.size
      clear hke htk
      go_wp2_with (at_make; refine wpList_make_own _ rfl _ _ 45 rfl w.heap.size 48 i0 _ 5 Ybaf.underlying45 hi0 hz0 hz1 .i64 .i64 _ (tot fs) rfl rfl rfl m2 m3 hbz ?_; intro w1 ho1 hg1)
      obtain ⟨G, hG⟩ : ∃ G, G = wo.heap.size := ⟨_, rfl⟩
      rw [← hG] at ho1 ⊢
      have hGw : w.heap.size ≤ G := by omega
      have hb1 : Below w.heap.size w w1 := hb.trans ((Below.refl _ _).grown hg1 hbz (by simp))
      have hG1 : G < w1.heap.size := (ho1.lt _ rfl).2
      clear hG hg1 hb hbz
      go_loopw [6, 27] (fun u i wr => ∃ k : Nat, k ≤ fs.length ∧ i = .int .i64 k ∧ u = .slice (some ⟨G, 0, none⟩) (tot (fs.take k)) (tot fs) ∧ wr.ownsRow w.heap.size 48 5 u (tot (fs.take k)) (allNbs (fs.take k)) ∧ Below w.heap.size w wr ∧ G < wr.heap.size)
        (fun _ i _ => fs.length - (intOf i).toNat)
      case atStart => exact ⟨0, Nat.zero_le _, rfl, rfl, ho1, hb1, hG1⟩
      case round =>
        obtain ⟨k2, hk2, rfl, rfl, ho, hb2, hG2⟩ := hrel
        obtain ⟨wp, hwp⟩ : ∃ wp, wp = wr := ⟨_, rfl⟩
        subst hwp
        have hbz2 := hb2.size
        by_cases hkl2 : k2 < fs.length
        · obtain ⟨g, f, rfl, hfk, hfm, c0, c1, c2, c3, c4, hss, l0, l1, l2⟩ := fam_at h hb2 hkl2
          have hts := tot_take fs k2 f hfk
          have htk := tot_take_le fs (k2 + 1)
          have hal := allNbs_take fs k2 f hfk
          obtain ⟨T, hT⟩ : ∃ T, T = tot (fs.take k2) := ⟨_, rfl⟩
          rw [← hT] at ho ⊢
          have hTn : T + f.kids.length ≤ tot fs := by omega
          have HT : Hid (tot (fs.take (k2 + 1)) = T + f.kids.length) := by rw [hT]; exact hts
          have HA : Hid (allNbs (fs.take (k2 + 1)) = allNbs (fs.take k2) ++ nbs f f.kids.length) := hal
          clear hts hfk htk hal hT
          go_wp2
          obtain ⟨W1, hW1⟩ : ∃ W1, W1 = wp.alloc (.cells #[.int .u64 f.bits, .int .u8 f.level, .int .u8 0, .int .u8 0, .slice f.co f.kids.length f.kc] 37) := ⟨_, rfl⟩
          have oW1 : Only wp W1 [G] := by rw [hW1]; exact (Only.refl wp [G]).alloc _
          have tW1 : wp.heap.size < W1.heap.size := by rw [hW1]; simp
          have sW1 : W1.ownsRow w.heap.size 48 5 (.slice (some ⟨G, 0, none⟩) T (tot fs)) T (allNbs (fs.take k2)) := by rw [hW1]; exact ho.alloc _
          have cW : ∀ j u, #[Value.int .u64 f.bits, .int .u8 f.level, .int .u8 0, .int .u8 0, .slice f.co f.kids.length f.kc][j]? = some u → W1.cell? ⟨wp.heap.size, j, none⟩ = some u := fun j u hu => by rw [hW1, World.cell?_alloc_new wp _ 37 j]; exact hu
          have HCW : Hid (∀ j u, #[Value.int .u64 f.bits, .int .u8 f.level, .int .u8 0, .int .u8 0, .slice f.co f.kids.length f.kc][j]? = some u → W1.cell? ⟨wp.heap.size, j, none⟩ = some u) := cW
          rw [← hW1]
          have bW1 : Below w.heap.size w W1 := hb2.trans (oW1.below hbz2 (by simp [hGw]))
          clear hW1 cW c0 c1 c2 c3 c4 ho
          go_loopw [6, 34] (fun u i wq => ∃ m : Nat, m ≤ f.kids.length ∧ i = .int .i64 m ∧ u = .slice (some ⟨G, 0, none⟩) (T + m) (tot fs) ∧ wq.ownsRow w.heap.size 48 5 u (T + m) (allNbs (fs.take k2) ++ nbs f m) ∧ Only W1 wq [G])
            (fun _ i _ => f.kids.length - (intOf i).toNat)
          case atStart => exact ⟨0, Nat.zero_le _, rfl, rfl, by simpa [nbs] using sW1, Only.refl _ _⟩
          case round =>
            obtain ⟨m, hm, rfl, rfl, hqo, hqn⟩ := hrel
            have hqz := hqn.size
            have bq : Below w.heap.size w wr := bW1.trans (hqn.below bW1.size (by simp [hGw]))
            have hbqz := bq.size
            by_cases hml : m < f.kids.length
            · have keep : ∀ j u, #[Value.int .u64 f.bits, .int .u8 f.level, .int .u8 0, .int .u8 0, .slice f.co f.kids.length f.kc][j]? = some u → wr.cell? ⟨wp.heap.size, j, none⟩ = some u := fun j u hu => (World.cell?_of_block (hqn.block wp.heap.size tW1 (by simp; omega))).trans (HCW.out j u hu)
              have e0 := keep 0 _ rfl
              have e1 := keep 1 _ rfl
              have e2 := keep 2 _ rfl
              have e3 := keep 3 _ rfl
              have e4 := keep 4 _ rfl
              have hkid : ∃ b off, f.co = some ⟨b, off, none⟩ ∧ wr.cell? ⟨b, off + m, none⟩ = some (.string (f.kids.getD m ByteArray.empty)) := by
                obtain ⟨b, off, e, hc⟩ := hss m hml
                obtain ⟨hs1, _⟩ := h.each f hfm
                obtain ⟨b', off', e', hc'⟩ := hs1 m hml
                rw [e] at e'
                cases e'
                exact ⟨b, off, e, (bq.cell (p := ⟨b, off + m, none⟩) (World.block_lt_of_cell? w _ (hc' m hml))).trans (hc' m hml)⟩
              obtain ⟨b, off, hco, hkc⟩ := hkid
              obtain ⟨s, hs⟩ : ∃ s, s = f.kids.getD m ByteArray.empty := ⟨_, rfl⟩
              rw [← hs] at hkc
              have HS : Hid (nbs f (m + 1) = nbs f m ++ [.string s, .int .u64 f.bits, .int .u8 f.level, .int .u8 m, .int .u8 f.kids.length]) := by rw [hs]; exact nbs_succ f m
              have i0m : (0 : Int) ≤ (m : Int) := by omega
              have i1m : (m : Int) < (f.kids.length : Int) := by omega
              rw [hco] at e4 ⊢
              clear keep hs hss
              go_wp2_with fail
              refine (id_any f.bits f.level 0 0 m _ f.kids.length f.kc wr l0 l1 (by omega) l2 i0m i1m).mono ?_
              rintro e w2 ⟨rfl, hb3⟩
              have hGr : G < wr.heap.size := (hqo.lt _ rfl).2
              have hqo2 : w2.ownsRow w.heap.size 48 5 (.slice (some ⟨G, 0, none⟩) (T + m) (tot fs)) (T + m) (allNbs (fs.take k2) ++ nbs f m) := ownsRow_congr hqo (fun g hg => by simp [Value.ownBlock] at hg; subst hg; exact hb3.block _ hGr)
              have hz3 := hb3.size
              have a63 : T + m + 1 ≤ maxLen := by unfold maxLen; omega
              have a47 : (T + m + 1) * 32 ≤ 140737488355328 := by omega
              have on2 : Only W1 w2 [G] := hqn.trans (F' := []) ⟨hb3.os, hb3.tape, hb3.output, hb3.size, fun k hk _ => hb3.block k hk⟩ (by simp)
              clear e0 e1 e2 e3 e4 hkc hqo hb3 hqn
              go_wp2_with (at_builtin; refine wpList_append_any _ rfl (.tmp 39) (.tmp 45) 45 45 rfl w.heap.size 48 i0 _ 5 32 Ybaf.underlying45 hi0 hz0 hz1 hz2 rfl (.slice (some ⟨G, 0, none⟩) (T + m) (tot fs)) (T + m) _ rfl (hqo2.alloc _) (.slice (some ⟨w2.heap.size, 0, none⟩) 1 1) 1 [.string s, .int .u64 f.bits, .int .u8 f.level, .int .u8 m, .int .u8 f.kids.length] rfl (Src.ofSlice _ Ybaf.underlying45 ⟨w2.heap.size, 0, none⟩ 1 1 _ rfl (by exact nb_news w2 _ _ _ _ _ 48) (by simp [Value.oneCell'])) a63 a47 (by simp; omega) ?_; intro v3 w3 ho3 hg3 _ hf3; have hv3 := hf3 G (tot fs) rfl (by omega); subst hv3)
              have on3 : Only W1 w3 [G] := (on2.alloc _).grown hg3 (fun k hk => by simp [Value.ownBlock] at hk; subst hk; exact .inl (by simp))
              go_roundw
              case rel => exact ⟨m + 1, by omega, by go_num, rfl, by rw [HS.out, ← List.append_assoc]; exact ho3, on3⟩
              case measure => simp [intOf]; omega
            · have hme : m = f.kids.length := by omega
              subst hme
              have hGr : G < wr.heap.size := (hqo.lt _ rfl).2
              go_wp2
              go_roundw
              case rel => exact ⟨k2 + 1, by omega, by go_num, by rw [HT.out], by rw [HT.out, HA.out]; exact hqo, bq, hGr⟩
              case measure => simp [intOf]; omega
        · go_wp2
          go_ret
          have hke : fs.take k2 = fs := List.take_of_length_le (by omega)
          rw [hke] at ho
          refine ⟨.slice (some ⟨G, 0, none⟩) (tot fs) (tot fs), ?_, ho, hb2⟩
          simp [hke]
end Go.Proofs.YbulkadfsFmt
