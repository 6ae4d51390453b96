import Derived.Test.YbulkadfsFmtLaws
import Derived.Test.YbulkadfsFmtPart
namespace Go.Proofs.YbulkadfsFmt
open Go.RowKit
set_option linter.unusedVariables false

theorem Ybaf.info34 : (Ybaf.prog.info? 34).map (fun i => (i.zero, i.size, i.bytes)) = some (some (.string ByteArray.empty), 1, 16) := by kernel_rfl
theorem Ybaf.info37 : (Ybaf.prog.info? 37).map (fun i => (i.zero, i.size, i.bytes)) = some (some (.agg #[.int .u64 0, .int .u8 0, .int .u8 0, .int .u8 0, .slice none 0 0]), 5, 40) := by kernel_rfl
theorem Ybaf.info48 : (Ybaf.prog.info? 48).map (fun i => (i.zero, i.size, i.bytes)) = some (some (.agg #[.string ByteArray.empty, .int .u64 0, .int .u8 0, .int .u8 0, .int .u8 0]), 5, 32) := by kernel_rfl

/-- What the walks are told of a '[]string' (or '[]Addr') that lies in memory. -/
def IsStrs (w : World) (ao : Option Addr) (ss : List ByteArray) : Prop :=
  ∀ k, k < ss.length → ∃ b off, ao = some ⟨b, off, none⟩ ∧ ∀ i, i < ss.length → w.cell? ⟨b, off + i, none⟩ = some (.string (ss.getD i ByteArray.empty))

structure FamIn where
  bits : Int
  level : Int
  ao : Option Addr
  cs : List ByteArray
  cc : Nat

/-- The argument of the law. -/
def IsFams (w : World) (a : Option Addr) (fs : List FamIn) : Prop :=
  ∀ k f, fs[k]? = some f → ∃ b off, a = some ⟨b, off, none⟩ ∧ b < w.heap.size ∧ w.cell? ⟨b, off + k * 3, none⟩ = some (.int .u64 f.bits) ∧ w.cell? ⟨b, off + k * 3 + 1, none⟩ = some (.int .u8 f.level) ∧
    w.cell? ⟨b, off + k * 3 + 2, none⟩ = some (.slice f.ao f.cs.length f.cc) ∧ IsStrs w f.ao f.cs ∧ 0 ≤ f.level ∧ f.level ≤ 255 ∧ f.cs.length ≤ maxLen

structure Fam where
  bits : Int
  level : Int
  co : Option Addr
  kids : List ByteArray
  kc : Nat
def Fam.cells (f : Fam) : List Value := [.int .u64 f.bits, .int .u8 f.level, .int .u8 0, .int .u8 0, .slice f.co f.kids.length f.kc]

structure FamsAt (w : World) (B : Nat) (v : Value) (fs : List Fam) : Prop where
  own : w.ownsRow B 37 5 v fs.length (fs.flatMap Fam.cells)
  each : ∀ f ∈ fs, IsStrs w f.co f.kids ∧ 0 ≤ f.level ∧ f.level ≤ 56 ∧ f.kids.length ≤ 255 ∧ ∀ b off, f.co = some ⟨b, off, none⟩ → v.ownBlock ≠ some b ∧ b < w.heap.size

theorem IsStrs.only {w w' : World} {F : List Nat} {ao : Option Addr} {l : List ByteArray} (h : IsStrs w ao l) (ho : Only w w' F) (hF : ∀ b off, ao = some ⟨b, off, none⟩ → b ∉ F) : IsStrs w' ao l := fun k hk => by
  obtain ⟨b, off, e, hc⟩ := h k hk
  refine ⟨b, off, e, fun i hi => ?_⟩
  rw [World.cell?_of_block (w := w) (ho.block b (World.block_lt_of_cell? w _ (hc i hi)) (hF b off e))]
  exact hc i hi
theorem IsStrs.below {w w' : World} {ao : Option Addr} {l : List ByteArray} (h : IsStrs w ao l) (hb : Below w.heap.size w w') : IsStrs w' ao l := fun k hk => by
  obtain ⟨b, off, e, hc⟩ := h k hk
  exact ⟨b, off, e, fun i hi => cell_later hb (hc i hi)⟩
theorem IsStrs.ofRow {w : World} {B : Nat} {e : TypeId} {g cap : Nat} {l : List ByteArray} (h : w.ownsRow B e 1 (.slice (some ⟨g, 0, none⟩) l.length cap) l.length (l.map Value.string)) : IsStrs w (some ⟨g, 0, none⟩) l := fun k hk => by
  refine ⟨g, 0, rfl, fun i hi => ?_⟩
  rw [Nat.zero_add, h.cellAt i (by omega)]
  simp [List.getD, hi]

theorem fams_push {wr w2 w3 : World} {B k n : Nat} {fo : List Fam} {f : Fam} {o : Obj} (h : FamsAt wr B (.slice (some ⟨B, 0, none⟩) k n) fo) (hk : fo.length = k) (o2 : Only wr w2 [])
    (h3 : w3.ownsRow B 37 5 (.slice (some ⟨B, 0, none⟩) (k + 1) n) (k + 1) (fo.flatMap Fam.cells ++ f.cells)) (g3 : (w2.alloc o).grownBy w3 (some B))
    (hs : IsStrs w2 f.co f.kids) (h0 : 0 ≤ f.level) (h1 : f.level ≤ 56) (h2 : f.kids.length ≤ 255) (hco : ∀ b off, f.co = some ⟨b, off, none⟩ → b ≠ B ∧ b < w2.heap.size) :
    FamsAt w3 B (.slice (some ⟨B, 0, none⟩) (k + 1) n) (fo ++ [f]) := by
  subst hk
  have on3 : Only w2 w3 [B] := ((Only.refl w2 [B]).alloc o).grown g3 (fun k hk => by cases hk; exact .inl (by simp))
  have hs3 := g3.size
  simp at hs3
  refine ⟨?_, fun x hx => ?_⟩
  · simpa [List.flatMap_append] using h3
  · simp at hx
    rcases hx with hx | rfl
    · obtain ⟨a1, a2, a3, a4, a5⟩ := h.each x hx
      have a5' : ∀ b off, x.co = some ⟨b, off, none⟩ → b ≠ B ∧ b < wr.heap.size := fun b off e => by
        have := a5 b off e
        exact ⟨fun e' => this.1 (by simp [Value.ownBlock, e']), this.2⟩
      have b1 : IsStrs w2 x.co x.kids := a1.only o2 (by simp)
      refine ⟨b1.only on3 (fun b off e => by simp; exact (a5' b off e).1), a2, a3, a4, fun b off e => ⟨fun e' => (a5' b off e).1 (by simp [Value.ownBlock] at e'; exact e'.symm), ?_⟩⟩
      have := (a5' b off e).2
      have := o2.size
      omega
    · refine ⟨hs.only on3 (fun b off e => by simp; exact (hco b off e).1), h0, h1, h2, fun b off e => ⟨fun e' => (hco b off e).1 (by simp [Value.ownBlock] at e'; exact e'.symm), ?_⟩⟩
      have := (hco b off e).2
      omega

theorem fam_cells_one (f : Fam) : ∀ u ∈ f.cells, u.oneCell' = true := by
  intro u hu
  simp [Fam.cells] at hu
  rcases hu with rfl | rfl | rfl | rfl <;> rfl
theorem fam_news (w : World) (f : Fam) (t : TypeId) : ∀ j u, f.cells[j]? = some u → (w.alloc (.cells f.cells.toArray t)).cell? ((⟨w.heap.size, 0, none⟩ : Addr).add j) = some u := fun j u hu =>
  World.news_of_block (cs := f.cells.toArray) (fr := (0, 0)) (heap_alloc_new w _) j u (by simpa using hu)

set_option maxRecDepth 20000 in
set_option maxHeartbeats 1000000 in
theorem build_any (a : Option Addr) (cap : Nat) (fs : List FamIn) (w : World) (hf : IsFams w a fs) (hl : fs.length ≤ 256) :
    Calls Ybaf.prog 8 #[.slice a fs.length cap] w fun e w' => ∃ v fo, e = .returned v ∧ FamsAt w' w.heap.size v fo ∧ fo.length = fs.length ∧ Below w.heap.size w w' := by
  obtain ⟨i0, hi0, hz0, hz1, hz2⟩ := info_parts Ybaf.info37
  obtain ⟨j0, hj0, hy0, hy1, hy2⟩ := info_parts Ybaf.info34
  have m2 : i0.bytes * fs.length ≤ 281474976710656 := by rw [hz2]; omega
  have m3 : fs.length ≤ maxLen := by unfold maxLen; omega
  go_enter Ybaf.func8, Ybaf.ntmps8
  go_wp2_with (at_make; refine wpList_make_own _ rfl _ _ 29 rfl w.heap.size 37 i0 _ 5 Ybaf.underlying29 hi0 hz0 hz1 .i64 .i64 _ fs.length rfl rfl rfl m2 m3 (Nat.le_refl _) ?_; intro w1 ho1 hg1)
  go_loopw [3, 14] (fun v i wr => ∃ (k : Nat) (fo : List Fam), k ≤ fs.length ∧ i = .int .i64 k ∧ fo.length = k ∧ v = .slice (some ⟨w.heap.size, 0, none⟩) k fs.length ∧ FamsAt wr w.heap.size v fo ∧ Below w.heap.size w wr ∧ w.heap.size < wr.heap.size)
    (fun _ i _ => fs.length - (intOf i).toNat)
  case atStart => exact ⟨0, [], Nat.zero_le _, rfl, rfl, rfl, ⟨ho1, by simp⟩, (Below.refl _ _).grown hg1 (Nat.le_refl _) (by simp), (ho1.lt _ rfl).2⟩
  case round =>
    obtain ⟨wo, hwo⟩ : ∃ wo, wo = wr := ⟨_, rfl⟩
    subst hwo
    obtain ⟨k, fo, hk, rfl, hfo, rfl, hat, hb, hlt⟩ := hrel
    by_cases hkl : k < fs.length
    · obtain ⟨f, hfk⟩ : ∃ f, fs[k]? = some f := ⟨fs[k], by simp [hkl]⟩
      obtain ⟨b, off, rfl, hbw, c0, c1, c2, hss, hl0, hl1, hcl⟩ := hf k f hfk
      have d0 := (hb.cell (p := ⟨b, off + k * 3, none⟩) hbw).trans c0
      have d1 := (hb.cell (p := ⟨b, off + k * 3 + 1, none⟩) hbw).trans c1
      have d2 := (hb.cell (p := ⟨b, off + k * 3 + 2, none⟩) hbw).trans c2
      unfold maxLen at hcl
      have hlen5 : (fo.flatMap Fam.cells).length = k * 5 := by rw [hat.own.1, hfo]
      have hown : wo.ownsRow w.heap.size 37 5 (.slice (some ⟨w.heap.size, 0, none⟩) k fs.length) k (fo.flatMap Fam.cells) := by have := hat.own; rwa [hfo] at this
      have a63 : k + 1 ≤ maxLen := by unfold maxLen; omega
      have a47 : (k + 1) * 40 ≤ 140737488355328 := by omega
      have hbz := hb.size
      rcases hao : f.ao with _ | ad
      · have hcs : f.cs = [] := by
          cases hc : f.cs with
          | nil => rfl
          | cons x l => obtain ⟨_, _, e, _⟩ := hss 0 (by simp [hc]); rw [hao] at e; cases e
        rw [hao, hcs] at d2
        obtain ⟨F, hF⟩ : ∃ F : Fam, F = ⟨f.bits, f.level % 57, none, [], 0⟩ := ⟨_, rfl⟩
        clear c0 c1 c2 hss
        simp only [List.length_nil] at d2
        go_wp2_with (at_builtin; refine wpList_append_any _ rfl (.tmp 41) (.tmp 50) 29 29 rfl w.heap.size 37 i0 _ 5 40 Ybaf.underlying29 hi0 hz0 hz1 hz2 rfl (.slice (some ⟨w.heap.size, 0, none⟩) k fs.length) k (fo.flatMap Fam.cells) rfl ((hown.alloc _).alloc _) (.slice (some ⟨wo.heap.size + 1, 0, none⟩) 1 1) 1 (Fam.cells ⟨f.bits, f.level % 57, none, [], 0⟩) rfl (Src.ofSlice _ Ybaf.underlying29 ⟨wo.heap.size + 1, 0, none⟩ 1 1 (Fam.cells ⟨f.bits, f.level % 57, none, [], 0⟩) rfl (by have := fam_news (wo.alloc (.cells #[.int .u64 f.bits, .int .u8 f.level, .slice none 0 f.cc] 54)) ⟨f.bits, f.level % 57, none, [], 0⟩ 37; rw [World.size_alloc] at this; exact this) (fam_cells_one _)) a63 a47 (by simp; omega) ?_; intro v3 w3 ho3 hg3 _ hf3; have hv3 := hf3 w.heap.size fs.length rfl (by omega); subst hv3)
        have hpush := fams_push (f := ⟨f.bits, f.level % 57, none, [], 0⟩) hat hfo ((Only.refl wo []).alloc _) ho3 hg3 (fun k hk => by simp at hk) (by show 0 ≤ f.level % 57; omega) (by show f.level % 57 ≤ 56; omega) (by simp) (fun b off e => by cases e)
        have hb3 : Below w.heap.size w w3 := hb.trans ((((Below.refl _ _).alloc hbz _).alloc (by simp; omega) _).grown hg3 (by simp; omega) (fun k hk => by simp [Value.ownBlock] at hk; omega))
        have hs3 : w.heap.size < w3.heap.size := by have := hg3.size; simp at this; omega
        go_roundw
        case rel => exact ⟨k + 1, fo ++ [⟨f.bits, f.level % 57, none, [], 0⟩], by omega, by go_num, by simp [hfo], rfl, hpush, hb3, hs3⟩
        case measure => simp [intOf]; omega
      · rw [hao] at d2 hss
        clear c0 c1 c2
        have hmk : ∀ n : Nat, n ≤ 255 → j0.bytes * n ≤ 281474976710656 ∧ n ≤ maxLen := fun n hn => ⟨by rw [hy2]; omega, by unfold maxLen; omega⟩
        have HMK : Hid (∀ n : Nat, n ≤ 255 → j0.bytes * n ≤ 281474976710656 ∧ n ≤ maxLen) := hmk
        clear hmk
        by_cases hbig : 255 < f.cs.length
        · have hbig' : (255 : Int) < (f.cs.length : Int) := by omega
          go_wp2_with (at_make; refine wpList_make_full _ rfl (.tmp 26) (.tmp 26) 35 rfl w.heap.size 34 j0 _ 1 Ybaf.underlying35 hj0 hy0 hy1 .i64 .i64 _ _ 255 rfl rfl rfl rfl (HMK.out 255 (by omega)).1 (HMK.out 255 (by omega)).2 (by simp; omega) ?_; intro w4 ho4 hg4)
          obtain ⟨W1, hW1⟩ : ∃ W1, W1 = wo.alloc (.cells #[.int .u64 f.bits, .int .u8 f.level, .slice (some ad) f.cs.length f.cc] 54) := ⟨_, rfl⟩
          have hW1s : W1.heap.size ≤ wo.heap.size + 1 := by rw [hW1]; simp
          have hW1t : wo.heap.size < W1.heap.size := by rw [hW1]; simp
          have oW1 : Only wo W1 [] := by rw [hW1]; exact (Only.refl wo []).alloc _
          have bW1 : Below w.heap.size w W1 := hb.trans (oW1.below hbz (by simp))
          have cW0 : W1.cell? ⟨wo.heap.size, 0, none⟩ = some (.int .u64 f.bits) := by rw [hW1]; exact World.cell?_alloc_new wo _ 54 0
          have cW1 : W1.cell? ⟨wo.heap.size, 1, none⟩ = some (.int .u8 f.level) := by rw [hW1]; exact World.cell?_alloc_new wo _ 54 1
          have cW2 : W1.cell? ⟨wo.heap.size, 2, none⟩ = some (.slice (some ad) f.cs.length f.cc) := by rw [hW1]; exact World.cell?_alloc_new wo _ 54 2
          have on4 : Only W1 w4 [] := by rw [hW1]; exact (Only.refl _ []).grown hg4 (by simp)
          have hst : w4.ownsRow w.heap.size 34 1 (.slice (some ⟨wo.heap.size + 1, 0, none⟩) 255 255) 255 ((List.replicate 255 ByteArray.empty).map Value.string) := by
            have e : (madeCells (Value.string ByteArray.empty).cells (255 * 1)).toList = (List.replicate 255 ByteArray.empty).map Value.string := by
              rw [Nat.mul_one, List.map_replicate]; exact toList_madeCells_one _ _
            rw [← e]
            simpa using ho4
          clear hW1 ho4 hg4
          go_loopw [8] (fun i wq => ∃ (m : Nat) (kids : List ByteArray), m ≤ 255 ∧ i = .int .i64 m ∧ kids.length = 255 ∧ wq.ownsRow w.heap.size 34 1 (.slice (some ⟨wo.heap.size + 1, 0, none⟩) 255 255) 255 (kids.map Value.string) ∧ Only W1 wq [])
            (fun i _ => 255 - (intOf i).toNat)
          case atStart => exact ⟨0, List.replicate 255 ByteArray.empty, Nat.zero_le _, rfl, List.length_replicate, hst, on4⟩
          case round =>
            obtain ⟨m, kids, hm, rfl, hkn, hqo, hqn⟩ := hrel
            have e0 := (World.cell?_of_block (hqn.block wo.heap.size (by omega) (by simp))).trans cW0
            have e1 := (World.cell?_of_block (hqn.block wo.heap.size (by omega) (by simp))).trans cW1
            have e2 := (World.cell?_of_block (hqn.block wo.heap.size (by omega) (by simp))).trans cW2
            have hqz := hqn.size
            by_cases hml : m < 255
            · obtain ⟨b2, off2, had, hc2⟩ := hss m (by omega)
              cases had
              have bq : Below w.heap.size w wr := bW1.trans (hqn.below bW1.size (by simp))
              have cs2 := (bq.cell (p := ⟨b2, off2 + m, none⟩) (World.block_lt_of_cell? w _ (hc2 m (by omega)))).trans (hc2 m (by omega))
              generalize f.cs.getD m ByteArray.empty = s at cs2
              have cg : wr.cell? ⟨wo.heap.size + 1, m, none⟩ = some (.string (kids.getD m ByteArray.empty)) := by
                rw [hqo.cellAt m (by omega)]
                simp [List.getD, show m < kids.length by omega]
              have fg : wr.frozen? ⟨wo.heap.size + 1, m, none⟩ = false := hqo.frozenAt m
              have hsto := (hqo.stored m (.string s)).1
              have i0m : (0 : Int) ≤ (m : Int) := by omega
              clear hc2 hst hqo
              go_wp2
              go_roundw
              case rel => exact ⟨m + 1, kids.set m s, by omega, by go_num, by simpa using hkn, by rw [List.map_set]; exact hsto, hqn.setCell _ _ (.inr (by show W1.heap.size ≤ wo.heap.size + 1; omega))⟩
              case measure => simp [intOf]; omega
            · have hqown : wr.ownsRow w.heap.size 37 5 (.slice (some ⟨w.heap.size, 0, none⟩) k fs.length) k (fo.flatMap Fam.cells) := by
                refine ownsRow_congr hown (fun g hg => ?_)
                simp [Value.ownBlock] at hg
                subst hg
                rw [hqn.block _ (by omega) (by simp), oW1.block _ hlt (by simp)]
              have hkids : IsStrs wr (some ⟨wo.heap.size + 1, 0, none⟩) kids := IsStrs.ofRow (cap := 255) (e := 34) (B := w.heap.size) (by rw [hkn]; exact hqo)
              have hqlt : wo.heap.size + 1 < wr.heap.size := (hqo.lt _ rfl).2
              have HKN : Hid (kids.length = 255) := hkn
              have bq : Below w.heap.size w wr := bW1.trans (hqn.below bW1.size (by simp))
              have hcell : Fam.cells ⟨f.bits, f.level % 57, some ⟨wo.heap.size + 1, 0, none⟩, kids, 255⟩ = [.int .u64 f.bits, .int .u8 (f.level % 57), .int .u8 0, .int .u8 0, .slice (some ⟨wo.heap.size + 1, 0, none⟩) 255 255] := by simp [Fam.cells, hkn]
              have HC : Hid (Fam.cells ⟨f.bits, f.level % 57, some ⟨wo.heap.size + 1, 0, none⟩, kids, 255⟩ = [.int .u64 f.bits, .int .u8 (f.level % 57), .int .u8 0, .int .u8 0, .slice (some ⟨wo.heap.size + 1, 0, none⟩) 255 255]) := hcell
              clear hcell hkn hqo hst
              go_wp2_with (at_builtin; refine wpList_append_any _ rfl (.tmp 41) (.tmp 50) 29 29 rfl w.heap.size 37 i0 _ 5 40 Ybaf.underlying29 hi0 hz0 hz1 hz2 rfl (.slice (some ⟨w.heap.size, 0, none⟩) k fs.length) k (fo.flatMap Fam.cells) rfl (hqown.alloc _) (.slice (some ⟨wr.heap.size, 0, none⟩) 1 1) 1 (Fam.cells ⟨f.bits, f.level % 57, some ⟨wo.heap.size + 1, 0, none⟩, kids, 255⟩) rfl (Src.ofSlice _ Ybaf.underlying29 ⟨wr.heap.size, 0, none⟩ 1 1 (Fam.cells ⟨f.bits, f.level % 57, some ⟨wo.heap.size + 1, 0, none⟩, kids, 255⟩) rfl (by have := fam_news wr ⟨f.bits, f.level % 57, some ⟨wo.heap.size + 1, 0, none⟩, kids, 255⟩ 37; rw [HC.out] at this ⊢; exact this) (fam_cells_one _)) a63 a47 (by simp; omega) ?_; intro v3 w3 ho3 hg3 _ hf3; have hv3 := hf3 w.heap.size fs.length rfl (by omega); subst hv3)
              have hpush := fams_push (f := ⟨f.bits, f.level % 57, some ⟨wo.heap.size + 1, 0, none⟩, kids, 255⟩) hat hfo (oW1.trans hqn (by simp)) ho3 hg3 hkids (by show 0 ≤ f.level % 57; omega) (by show f.level % 57 ≤ 56; omega) (by show kids.length ≤ 255; rw [HKN.out]; omega) (fun b off e => by cases e; exact ⟨by omega, hqlt⟩)
              have hb3 : Below w.heap.size w w3 := bq.trans (((Below.refl _ _).alloc bq.size _).grown hg3 (by have := bq.size; simp; omega) (fun k hk => by simp [Value.ownBlock] at hk; omega))
              have hs3 : w.heap.size < w3.heap.size := by have := hg3.size; have := bq.size; simp at *; omega
              go_roundw
              case rel => exact ⟨k + 1, fo ++ [⟨f.bits, f.level % 57, some ⟨wo.heap.size + 1, 0, none⟩, kids, 255⟩], by omega, by go_num, by simp [hfo], rfl, hpush, hb3, hs3⟩
              case measure => simp [intOf]; omega
        · have hbig' : ¬ (255 : Int) < (f.cs.length : Int) := by omega
          go_wp2_with (at_make; refine wpList_make_full _ rfl (.tmp 26) (.tmp 26) 35 rfl w.heap.size 34 j0 _ 1 Ybaf.underlying35 hj0 hy0 hy1 .i64 .i64 _ _ f.cs.length rfl rfl rfl rfl (HMK.out f.cs.length (by omega)).1 (HMK.out f.cs.length (by omega)).2 (by simp; omega) ?_; intro w4 ho4 hg4)
          obtain ⟨W1, hW1⟩ : ∃ W1, W1 = wo.alloc (.cells #[.int .u64 f.bits, .int .u8 f.level, .slice (some ad) f.cs.length f.cc] 54) := ⟨_, rfl⟩
          have hW1s : W1.heap.size ≤ wo.heap.size + 1 := by rw [hW1]; simp
          have hW1t : wo.heap.size < W1.heap.size := by rw [hW1]; simp
          have oW1 : Only wo W1 [] := by rw [hW1]; exact (Only.refl wo []).alloc _
          have bW1 : Below w.heap.size w W1 := hb.trans (oW1.below hbz (by simp))
          have cW0 : W1.cell? ⟨wo.heap.size, 0, none⟩ = some (.int .u64 f.bits) := by rw [hW1]; exact World.cell?_alloc_new wo _ 54 0
          have cW1 : W1.cell? ⟨wo.heap.size, 1, none⟩ = some (.int .u8 f.level) := by rw [hW1]; exact World.cell?_alloc_new wo _ 54 1
          have cW2 : W1.cell? ⟨wo.heap.size, 2, none⟩ = some (.slice (some ad) f.cs.length f.cc) := by rw [hW1]; exact World.cell?_alloc_new wo _ 54 2
          have on4 : Only W1 w4 [] := by rw [hW1]; exact (Only.refl _ []).grown hg4 (by simp)
          have hst : w4.ownsRow w.heap.size 34 1 (.slice (some ⟨wo.heap.size + 1, 0, none⟩) f.cs.length f.cs.length) f.cs.length ((List.replicate f.cs.length ByteArray.empty).map Value.string) := by
            have e : (madeCells (Value.string ByteArray.empty).cells (f.cs.length * 1)).toList = (List.replicate f.cs.length ByteArray.empty).map Value.string := by
              rw [Nat.mul_one, List.map_replicate]; exact toList_madeCells_one _ _
            rw [← e]
            simpa using ho4
          clear hW1 ho4 hg4
          go_loopw [8] (fun i wq => ∃ (m : Nat) (kids : List ByteArray), m ≤ f.cs.length ∧ i = .int .i64 m ∧ kids.length = f.cs.length ∧ wq.ownsRow w.heap.size 34 1 (.slice (some ⟨wo.heap.size + 1, 0, none⟩) f.cs.length f.cs.length) f.cs.length (kids.map Value.string) ∧ Only W1 wq [])
            (fun i _ => f.cs.length - (intOf i).toNat)
          case atStart => exact ⟨0, List.replicate f.cs.length ByteArray.empty, Nat.zero_le _, rfl, List.length_replicate, hst, on4⟩
          case round =>
            obtain ⟨m, kids, hm, rfl, hkn, hqo, hqn⟩ := hrel
            have e0 := (World.cell?_of_block (hqn.block wo.heap.size (by omega) (by simp))).trans cW0
            have e1 := (World.cell?_of_block (hqn.block wo.heap.size (by omega) (by simp))).trans cW1
            have e2 := (World.cell?_of_block (hqn.block wo.heap.size (by omega) (by simp))).trans cW2
            have hqz := hqn.size
            by_cases hml : m < f.cs.length
            · obtain ⟨b2, off2, had, hc2⟩ := hss m (by omega)
              cases had
              have bq : Below w.heap.size w wr := bW1.trans (hqn.below bW1.size (by simp))
              have cs2 := (bq.cell (p := ⟨b2, off2 + m, none⟩) (World.block_lt_of_cell? w _ (hc2 m (by omega)))).trans (hc2 m (by omega))
              generalize f.cs.getD m ByteArray.empty = s at cs2
              have cg : wr.cell? ⟨wo.heap.size + 1, m, none⟩ = some (.string (kids.getD m ByteArray.empty)) := by
                rw [hqo.cellAt m (by omega)]
                simp [List.getD, show m < kids.length by omega]
              have fg : wr.frozen? ⟨wo.heap.size + 1, m, none⟩ = false := hqo.frozenAt m
              have hsto := (hqo.stored m (.string s)).1
              have i0m : (0 : Int) ≤ (m : Int) := by omega
              clear hc2 hst hqo
              go_wp2
              go_roundw
              case rel => exact ⟨m + 1, kids.set m s, by omega, by go_num, by simpa using hkn, by rw [List.map_set]; exact hsto, hqn.setCell _ _ (.inr (by show W1.heap.size ≤ wo.heap.size + 1; omega))⟩
              case measure => simp [intOf]; omega
            · have hqown : wr.ownsRow w.heap.size 37 5 (.slice (some ⟨w.heap.size, 0, none⟩) k fs.length) k (fo.flatMap Fam.cells) := by
                refine ownsRow_congr hown (fun g hg => ?_)
                simp [Value.ownBlock] at hg
                subst hg
                rw [hqn.block _ (by omega) (by simp), oW1.block _ hlt (by simp)]
              have hkids : IsStrs wr (some ⟨wo.heap.size + 1, 0, none⟩) kids := IsStrs.ofRow (cap := f.cs.length) (e := 34) (B := w.heap.size) (by rw [hkn]; exact hqo)
              have hqlt : wo.heap.size + 1 < wr.heap.size := (hqo.lt _ rfl).2
              have HKN : Hid (kids.length = f.cs.length) := hkn
              have bq : Below w.heap.size w wr := bW1.trans (hqn.below bW1.size (by simp))
              have hcell : Fam.cells ⟨f.bits, f.level % 57, some ⟨wo.heap.size + 1, 0, none⟩, kids, f.cs.length⟩ = [.int .u64 f.bits, .int .u8 (f.level % 57), .int .u8 0, .int .u8 0, .slice (some ⟨wo.heap.size + 1, 0, none⟩) f.cs.length f.cs.length] := by simp [Fam.cells, hkn]
              have HC : Hid (Fam.cells ⟨f.bits, f.level % 57, some ⟨wo.heap.size + 1, 0, none⟩, kids, f.cs.length⟩ = [.int .u64 f.bits, .int .u8 (f.level % 57), .int .u8 0, .int .u8 0, .slice (some ⟨wo.heap.size + 1, 0, none⟩) f.cs.length f.cs.length]) := hcell
              clear hcell hkn hqo hst
              go_wp2_with (at_builtin; refine wpList_append_any _ rfl (.tmp 41) (.tmp 50) 29 29 rfl w.heap.size 37 i0 _ 5 40 Ybaf.underlying29 hi0 hz0 hz1 hz2 rfl (.slice (some ⟨w.heap.size, 0, none⟩) k fs.length) k (fo.flatMap Fam.cells) rfl (hqown.alloc _) (.slice (some ⟨wr.heap.size, 0, none⟩) 1 1) 1 (Fam.cells ⟨f.bits, f.level % 57, some ⟨wo.heap.size + 1, 0, none⟩, kids, f.cs.length⟩) rfl (Src.ofSlice _ Ybaf.underlying29 ⟨wr.heap.size, 0, none⟩ 1 1 (Fam.cells ⟨f.bits, f.level % 57, some ⟨wo.heap.size + 1, 0, none⟩, kids, f.cs.length⟩) rfl (by have := fam_news wr ⟨f.bits, f.level % 57, some ⟨wo.heap.size + 1, 0, none⟩, kids, f.cs.length⟩ 37; rw [HC.out] at this ⊢; exact this) (fam_cells_one _)) a63 a47 (by simp; omega) ?_; intro v3 w3 ho3 hg3 _ hf3; have hv3 := hf3 w.heap.size fs.length rfl (by omega); subst hv3)
              have hpush := fams_push (f := ⟨f.bits, f.level % 57, some ⟨wo.heap.size + 1, 0, none⟩, kids, f.cs.length⟩) hat hfo (oW1.trans hqn (by simp)) ho3 hg3 hkids (by show 0 ≤ f.level % 57; omega) (by show f.level % 57 ≤ 56; omega) (by show kids.length ≤ 255; rw [HKN.out]; omega) (fun b off e => by cases e; exact ⟨by omega, hqlt⟩)
              have hb3 : Below w.heap.size w w3 := bq.trans (((Below.refl _ _).alloc bq.size _).grown hg3 (by have := bq.size; simp; omega) (fun k hk => by simp [Value.ownBlock] at hk; omega))
              have hs3 : w.heap.size < w3.heap.size := by have := hg3.size; have := bq.size; simp at *; omega
              go_roundw
              case rel => exact ⟨k + 1, fo ++ [⟨f.bits, f.level % 57, some ⟨wo.heap.size + 1, 0, none⟩, kids, f.cs.length⟩], by omega, by go_num, by simp [hfo], rfl, hpush, hb3, hs3⟩
              case measure => simp [intOf]; omega
    · go_wp2
      go_ret
      have : k = fs.length := by omega
      exact ⟨_, fo, rfl, hat, by omega, hb⟩
end Go.Proofs.YbulkadfsFmt
