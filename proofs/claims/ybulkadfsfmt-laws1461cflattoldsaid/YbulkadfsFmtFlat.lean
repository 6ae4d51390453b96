import Derived.Test.YbulkadfsFmtKids
import Derived.Deep.QuietTactic
import Derived.BigQuiet
import Derived.Deep.RegionHeld3
namespace Go.Proofs.YbulkadfsFmt
open Go.RowKit
set_option linter.unusedVariables false

theorem nbs_at (f : Fam) (n m j : Nat) (hm : m < n) (hj : j < 5) : (nbs f n)[m * 5 + j]? = (nb f m)[j]? := by
  induction n with
  | zero => omega
  | succ n ih =>
    rw [nbs_succ]
    have hl := nbs_length f n
    by_cases h : m < n
    · rw [List.getElem?_append_left (by omega), ih h]
    · have : m = n := by omega
      subst this
      rw [List.getElem?_append_right (by omega)]
      congr 1
      omega

theorem allNbs_at (fs : List Fam) (k : Nat) (f : Fam) (h : fs[k]? = some f) (m j : Nat) (hm : m < f.kids.length) (hj : j < 5) : (allNbs fs)[(tot (fs.take k) + m) * 5 + j]? = (nb f m)[j]? := by
  obtain ⟨hk, rfl⟩ := List.getElem?_eq_some_iff.1 h
  have e : fs = fs.take k ++ (fs[k] :: fs.drop (k + 1)) := by simp
  have hl := allNbs_length (fs.take k)
  have e2 : allNbs fs = allNbs (fs.take k) ++ (nbs fs[k] fs[k].kids.length ++ allNbs (fs.drop (k + 1))) := by
    unfold allNbs
    conv => lhs; rw [e]
    rw [List.flatMap_append, List.flatMap_cons]
  have hn := nbs_length fs[k] fs[k].kids.length
  rw [e2, List.getElem?_append_right (by omega), List.getElem?_append_left (by omega)]
  rw [← nbs_at fs[k] fs[k].kids.length m j hm hj]
  congr 1
  omega

theorem got_at {w wr : World} {B : Nat} {fs : List Fam} {G cp : Nat} (h : w.ownsRow B 48 5 (.slice (some ⟨G, 0, none⟩) (tot fs) cp) (tot fs) (allNbs fs)) (hb : Below w.heap.size w wr) {k : Nat} {f : Fam} (hf : fs[k]? = some f) {m : Nat} (hm : m < f.kids.length) :
    ∀ j u, j < 5 → (nb f m)[j]? = some u → wr.cell? ⟨G, (tot (fs.take k) + m) * 5 + j, none⟩ = some u := fun j u hj hu => by
  have hlt : (tot (fs.take k) + m) < tot fs := by
    have h1 := tot_take fs k f hf
    have h2 := tot_take_le fs (k + 1)
    omega
  rw [hb.cell (p := ⟨G, (tot (fs.take k) + m) * 5 + j, none⟩) ((h.lt G rfl).2), h.cellAt _ (by omega), allNbs_at fs k f hf m j hm hj]
  exact hu

set_option maxRecDepth 20000 in
set_option maxHeartbeats 1000000 in
theorem flat_walk (a : Option Addr) (cap : Nat) (fi : List FamIn) (w : World) (hfi : IsFams w a fi) (hlm : fi.length ≤ maxLen) :
    Calls Ybaf.prog 4 #[.slice a fi.length cap] w fun e w' => e = .returned (.bool true) ∧ Below w.heap.size w w' := by
  unfold maxLen at hlm
  by_cases hbig : 256 < fi.length
  · have hbig' : (256 : Int) < (fi.length : Int) := by omega
    go_enter Ybaf.func4, Ybaf.ntmps4
    go_wp2
    go_ret
    exact ⟨rfl, Below.refl _ _⟩
  · have hbig' : ¬ (256 : Int) < (fi.length : Int) := by omega
    go_enter Ybaf.func4, Ybaf.ntmps4
    go_wp2_with fail
    refine (build_any a cap fi w hfi (by omega)).mono ?_
    rintro e w1 ⟨v, fs, rfl, hf1, hfl, hb1⟩
    have hl : fs.length ≤ 256 := by omega
    go_wp2_with fail
    refine (kids_any w1 w.heap.size v fs hf1 hl).mono ?_
    rintro e w2 ⟨v2, rfl, ho2, hb2⟩
    obtain ⟨ao, vc, rfl⟩ := own_slice hf1.own
    obtain ⟨bo, vc2, rfl⟩ := own_slice ho2
    have htl := tot_le fs (fun f hf => (hf1.each f hf).2.2.2.1)
    clear hfl hfi
    go_wp2
    go_loopw [5, 20] (fun t i wr => ∃ k : Nat, k ≤ fs.length ∧ i = .int .i64 k ∧ t = .int .i64 (tot (fs.take k)) ∧ Below w2.heap.size w2 wr) (fun _ i _ => fs.length - (intOf i).toNat)
    case atStart => exact ⟨0, Nat.zero_le _, rfl, rfl, Below.refl _ _⟩
    case round =>
      obtain ⟨k, hk, rfl, rfl, hb⟩ := hrel
      obtain ⟨wo, hwo⟩ : ∃ wo, wo = wr := ⟨_, rfl⟩
      subst hwo
      have hb1o : Below w1.heap.size w1 wo := hb2.trans (hb.mono hb2.size)
      have hwo := hb1.trans (hb1o.mono hb1.size)
      by_cases hkl : k < fs.length
      · obtain ⟨g, f, rfl, hfk, hfm, c0, c1, c2, c3, c4, hss, l0, l1, l2⟩ := fam_at hf1 hb1o hkl
        have hts := tot_take fs k f hfk
        have htk := tot_take_le fs (k + 1)
        go_wp2
        obtain ⟨W1, hW1⟩ : ∃ W1, W1 = wo.alloc (.cells #[.int .u64 f.bits, .int .u8 f.level, .int .u8 0, .int .u8 0, .slice f.co f.kids.length f.kc] 37) := ⟨_, rfl⟩
        have tW1 : wo.heap.size < W1.heap.size := by rw [hW1]; simp
        have cW : ∀ j u, #[Value.int .u64 f.bits, .int .u8 f.level, .int .u8 0, .int .u8 0, .slice f.co f.kids.length f.kc][j]? = some u → W1.cell? ⟨wo.heap.size, j, none⟩ = some u := fun j u hu => by rw [hW1, World.cell?_alloc_new wo _ 37 j]; exact hu
        have HCW : Hid (∀ j u, #[Value.int .u64 f.bits, .int .u8 f.level, .int .u8 0, .int .u8 0, .slice f.co f.kids.length f.kc][j]? = some u → W1.cell? ⟨wo.heap.size, j, none⟩ = some u) := cW
        have bW1 : Below w2.heap.size w2 W1 := by rw [hW1]; exact hb.alloc hb.size _
        rw [← hW1]
        clear hW1 cW c0 c1 c2 c3 c4
        obtain ⟨T, hT⟩ : ∃ T, T = tot (fs.take k) := ⟨_, rfl⟩
        rw [← hT]
        have HT : Hid (T = tot (fs.take k) ∧ tot (fs.take (k + 1)) = T + f.kids.length) := ⟨hT, by rw [hT]; exact hts⟩
        have hTb : T + f.kids.length ≤ tot fs := by omega
        clear hT hts htk
        go_loopw [5, 9] (fun t i wq => ∃ m J : Nat, m ≤ f.kids.length ∧ i = .int .i64 m ∧ t = .int .i64 J ∧ Hid (J = T + m) ∧ Below W1.heap.size W1 wq)
          (fun _ i _ => f.kids.length - (intOf i).toNat)
        case atStart => exact ⟨0, T, Nat.zero_le _, rfl, rfl, rfl, Below.refl _ _⟩
        case round =>
          obtain ⟨m, J, hm, rfl, rfl, HJ, hbq⟩ := hrel
          have bq2 : Below w2.heap.size w2 wr := bW1.trans (hbq.mono bW1.size)
          by_cases hml : m < f.kids.length
          · have hJ : J < tot fs := by have := HJ.out; omega
            have keep : ∀ j u, #[Value.int .u64 f.bits, .int .u8 f.level, .int .u8 0, .int .u8 0, .slice f.co f.kids.length f.kc][j]? = some u → wr.cell? ⟨wo.heap.size, j, none⟩ = some u := fun j u hu => (hbq.cell (p := ⟨wo.heap.size, j, none⟩) tW1).trans (HCW.out j u hu)
            have e0 := keep 0 _ rfl
            have e1 := keep 1 _ rfl
            have e4 := keep 4 _ rfl
            have bq1 : Below w1.heap.size w1 wr := hb2.trans (bq2.mono hb2.size)
            have hkid : ∃ b off, f.co = some ⟨b, off, none⟩ ∧ wr.cell? ⟨b, off + m, none⟩ = some (.string (f.kids.getD m ByteArray.empty)) := by
              obtain ⟨hs1, _⟩ := hf1.each f hfm
              obtain ⟨b', off', e', hc'⟩ := hs1 m hml
              exact ⟨b', off', e', (bq1.cell (p := ⟨b', off' + m, none⟩) (World.block_lt_of_cell? w1 _ (hc' m hml))).trans (hc' m hml)⟩
            obtain ⟨G, cp2, hv2, _, hG2⟩ := ho2.form (by omega)
            cases hv2
            have hgot := got_at ho2 bq2 hfk hml
            rw [show tot (fs.take k) + m = J by rw [HJ.out, HT.out.1]] at hgot
            have g0 : wr.cell? ⟨G, J * 5, none⟩ = some (.string (f.kids.getD m ByteArray.empty)) := hgot 0 _ (by omega) rfl
            have g1 := hgot 1 _ (by omega) rfl
            have g2 := hgot 2 _ (by omega) rfl
            have g3 := hgot 3 _ (by omega) rfl
            have g4 := hgot 4 _ (by omega) rfl
            obtain ⟨b, off, hco, hkc⟩ := hkid
            obtain ⟨s, hs⟩ : ∃ s, s = f.kids.getD m ByteArray.empty := ⟨_, rfl⟩
            rw [← hs] at hkc g0
            rw [hco] at e4 ⊢
            have i0m : (0 : Int) ≤ (m : Int) := by omega
            have i1m : (m : Int) < (f.kids.length : Int) := by omega
            have i0J : (0 : Int) ≤ (J : Int) := by omega
            have i1J : (J : Int) < (tot fs : Int) := by omega
            have wm : IntKind.u8.wrap (m : Int) = m := by rw [IntKind.wrap_u8]; omega
            have wk : IntKind.u8.wrap (f.kids.length : Int) = f.kids.length := by rw [IntKind.wrap_u8]; omega
            have d35 : decide ((tot fs : Int) ≤ (J : Int)) = false := by simp; omega
            have nz := World.new_ne wr ⟨wo.heap.size, 4, none⟩ e4
            have nz0 := World.new_ne wr ⟨wo.heap.size, 0, none⟩ e0
            have nz1 := World.new_ne wr ⟨wo.heap.size, 1, none⟩ e1
            have nz2 := World.new_ne wr ⟨b, off + m, none⟩ hkc
            clear keep hs hss hgot
            go_wp2
            go_region_held3 (fun w' => w'.cell? ⟨wo.heap.size, 4, none⟩ = some (.slice (some ⟨b, off, none⟩) f.kids.length f.kc) ∧ w'.cell? ⟨wo.heap.size, 0, none⟩ = some (.int .u64 f.bits) ∧ w'.cell? ⟨wo.heap.size, 1, none⟩ = some (.int .u8 f.level) ∧ w'.cell? ⟨b, off + m, none⟩ = some (.string s)) (go_keep) (fail)
            go_wp2
            generalize hw5 : (wr.alloc _).drew = w5
            have b5 : Below wr.heap.size wr w5 := by rw [← hw5]; exact ((Below.refl _ _).alloc (Nat.le_refl _) _).drew
            have n5 : ∀ j u, #[Value.string s, .int .u64 f.bits, .int .u8 f.level, .int .u8 m, .int .u8 f.kids.length][j]? = some u → w5.cell? ⟨wr.heap.size, j, none⟩ = some u := fun j u hu => by
              rw [← hw5]
              show (wr.alloc _).cell? _ = _
              rw [World.cell?_alloc_new wr _ 48 j]
              exact hu
            have h0 := n5 0 _ rfl
            have h1 := n5 1 _ rfl
            have h2 := n5 2 _ rfl
            have h3 := n5 3 _ rfl
            have h4 := n5 4 _ rfl
            have k0 := cell_later b5 g0
            have k1 := cell_later b5 g1
            have k2 := cell_later b5 g2
            have k3 := cell_later b5 g3
            have k4 := cell_later b5 g4
            clear hw5 n5 g0 g1 g2 g3 g4 e0 e1 e4 hkc nz nz0 nz1 nz2
            go_quiet (fail)
            go_wp2
            go_roundw
            case rel => exact ⟨m + 1, J + 1, by omega, by go_num, by go_num, by show J + 1 = T + (m + 1); have := HJ.out; omega, below_drewN (hbq.trans (b5.mono hbq.size)) _⟩
            case measure => simp [intOf]; omega
          · have hJe : J = tot (fs.take (k + 1)) := by have := HJ.out; have := HT.out.2; omega
            have HJE : Hid (J = tot (fs.take (k + 1))) := hJe
            clear hJe
            go_wp2
            go_roundw
            case rel => exact ⟨k + 1, by omega, by go_num, by rw [← HJE.out], bq2⟩
            case measure => simp [intOf]; omega
      · have hke : fs.take k = fs := List.take_of_length_le (by omega)
        rw [hke]
        go_wp2
        go_ret
        exact ⟨by simp, hwo⟩
end Go.Proofs.YbulkadfsFmt
