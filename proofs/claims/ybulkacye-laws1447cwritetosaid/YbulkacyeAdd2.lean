import Derived.Test.YbulkacyeAdd
namespace Go.Proofs.Ybulkacye
open Go.RowKit
set_option linter.unusedVariables false

theorem make_ex : ∃ (R : Array Value) (C : Nat), C = 65536 ∧ (∀ (W : World) (B : Nat), B ≤ W.heap.size → (W.alloc (.cells R 5)).ownsRow B 5 1 (.slice (some ⟨W.heap.size, 0, none⟩) 0 C) 0 []) ∧
    ∀ (L : Nat), L ≤ 65536 → ∀ W : World, (Instr.makeSlice 22 (.int .i64 0) (.int .i64 (if (65536 : Int) < (L : Int) then (L : Int) else 65536))).run Yba.prog W = .ok (.slice (some ⟨W.heap.size, 0, none⟩) 0 C) (W.alloc (.cells R 5)) := by
  obtain ⟨i0, hi0, hz0, hz1, hz2⟩ := info_parts Yba.info5
  refine ⟨madeCells (Value.int .u8 0).cells (65536 * 1), 65536, rfl, fun W B hB => ?_, fun L hL W => ?_⟩
  · exact World.ownsRow_made W _ 65536 hB (by unfold maxLen; omega) (size_madeCells _ _)
  · rw [if_neg (by omega)]
    have hr := run_make (P := Yba.prog) W 22 5 i0 (.int .u8 0) Yba.underlying22 hi0 hz0 .i64 .i64 0 65536 (Int.le_refl _) (by omega) (by rw [hz2]; omega) (by omega)
    rw [hz1] at hr
    exact hr

theorem more_at {w w3 : World} {R : Array Value} {B p k vc C g cap : Nat} {ao : Option Addr} {bl : List Blk} {n : Nat} (h : TextIs w B p (.slice ao bl.length vc) bl n) (hk : k = bl.length) (hR : (w.alloc (.cells R 5)).ownsRow B 5 1 (.slice (some ⟨w.heap.size, 0, none⟩) 0 C) 0 []) (o : Obj)
    (h3 : w3.ownsRow B 22 1 (.slice (some ⟨g, 0, none⟩) (k + 1) cap) (k + 1) (bl.map Blk.val ++ [.slice (some ⟨w.heap.size, 0, none⟩) 0 C])) (g3 : (((w.alloc (.cells R 5)).alloc o).drew).grownBy w3 (Value.slice ao k vc).ownBlock)
    (hat : (Value.slice (some ⟨g, 0, none⟩) (k + 1) cap).ownBlock = (Value.slice ao k vc).ownBlock ∨ ((Value.slice (some ⟨g, 0, none⟩) (k + 1) cap).ownBlock = some (((w.alloc (.cells R 5)).alloc o).drew).heap.size ∧ (((w.alloc (.cells R 5)).alloc o).drew).grownBy w3 none)) :
    TextIs (w3.setCell ⟨p, 0, none⟩ (.slice (some ⟨g, 0, none⟩) (k + 1) cap)) B p (.slice (some ⟨g, 0, none⟩) (bl.length + 1) cap) (bl ++ [⟨w.heap.size, C, []⟩]) n ∧
    Only w (w3.setCell ⟨p, 0, none⟩ (.slice (some ⟨g, 0, none⟩) (k + 1) cap)) (foot p (.slice ao bl.length vc) bl) ∧
    (∀ x ∈ foot p (.slice (some ⟨g, 0, none⟩) (bl.length + 1) cap) (bl ++ [⟨w.heap.size, C, []⟩]), x ∈ foot p (.slice ao bl.length vc) bl ∨ w.heap.size ≤ x) := by
  subst hk
  have g3' : ((w.alloc (.cells R 5)).alloc o).grownBy w3 (Value.slice ao bl.length vc).ownBlock := ⟨g3.os, g3.tape, g3.output, g3.size, g3.block⟩
  refine h.more hR (World.grownBy_alloc w _ none) (by simp) o h3 g3' ?_
  rcases hat with e | ⟨e, f⟩
  · exact .inl e
  · refine .inr ⟨?_, ⟨f.os, f.tape, f.output, f.size, f.block⟩⟩
    rw [e]
    show some ((w.alloc (.cells R 5)).alloc o).heap.size = _
    simp

theorem new_one (w : World) (o : Obj) (v : Value) (t : TypeId) : ∀ j u, [v][j]? = some u → ((w.alloc o).alloc (.cells #[v] t)).cell? ((⟨w.heap.size + 1, 0, none⟩ : Addr).add j) = some u := by
  have := cell_one_new (w.alloc o) v t
  rwa [World.size_alloc] at this
theorem old_two (w : World) (o o' : Obj) (p j : Nat) {v : Value} (hp : p < w.heap.size) (h : w.cell? ⟨p, j, none⟩ = some v) : ((w.alloc o).alloc o').cell? ⟨p, j, none⟩ = some v := by
  rw [World.cell?_of_block (Below.heap_alloc _ _ _ (by simp; omega)), World.cell?_of_block (Below.heap_alloc _ _ _ hp), h]
theorem old_two_fr (w : World) (o o' : Obj) (p j : Nat) (hp : p < w.heap.size) (h : w.frozen? ⟨p, j, none⟩ = false) : ((w.alloc o).alloc o').frozen? ⟨p, j, none⟩ = false := by
  rw [World.frozen?_of_block (Below.heap_alloc _ _ _ (by simp; omega)), World.frozen?_of_block (Below.heap_alloc _ _ _ hp), h]

theorem cell_kept {w w' : World} {F : List Nat} {lb lo j : Nat} {u : Value} (h : Only w w' F) (hl : lb < w.heap.size) (hn : lb ∉ F) (hc : w.cell? ((⟨lb, lo, none⟩ : Addr).add j) = some u) : w'.cell? ((⟨lb, lo, none⟩ : Addr).add j) = some u := by
  rw [Addr.add_lit] at hc ⊢
  rw [World.cell?_of_block (w := w) (h.block lb hl hn)]
  exact hc

theorem new_fin {w w2 w4 w6 : World} {B p k vc g cap C n : Nat} {ao : Option Addr} {bl : List Blk} {line : List UInt8} (hz : w2.heap.size = w.heap.size) (h0 : Only w w2 []) (hC : C = 65536) (hk : k = bl.length)
    (T2 : Only w2 w4 (foot p (.slice ao bl.length vc) bl)) (T3 : ∀ x ∈ foot p (.slice (some ⟨g, 0, none⟩) (bl.length + 1) cap) (bl ++ [⟨w2.heap.size, C, []⟩]), x ∈ foot p (.slice ao bl.length vc) bl ∨ w2.heap.size ≤ x)
    (U1 : TextIs w6 B p (.slice (some ⟨g, 0, none⟩) (k + 1) cap) (bl ++ [⟨w2.heap.size, C, [] ++ line⟩]) (n + 1)) (U2 : Only w4 w6 (foot p (.slice (some ⟨g, 0, none⟩) (k + 1) cap) (bl ++ [⟨w2.heap.size, C, []⟩]))) :
    ∃ v', TextIs w6 B p v' (bl ++ [⟨w.heap.size, 65536, line⟩]) (n + 1) ∧ Only w w6 (foot p (.slice ao bl.length vc) bl) ∧ (∀ x ∈ foot p v' (bl ++ [⟨w.heap.size, 65536, line⟩]), x ∈ foot p (.slice ao bl.length vc) bl ∨ w.heap.size ≤ x) := by
  subst hk
  subst hC
  rw [List.nil_append, hz] at U1
  rw [hz] at T3
  refine ⟨_, U1, ?_, ?_⟩
  · have a : Only w w4 (foot p (.slice ao bl.length vc) bl) := (h0.mono (by simp)).trans T2 (fun x hx => .inl hx)
    refine a.trans U2 (fun x hx => ?_)
    rw [hz] at hx
    exact T3 x hx
  · intro x hx
    exact T3 x (by simpa [foot] using hx)

/-- What the second half of add needs of the world behind the first. -/
theorem half {w : World} {B p vb vc k G C : Nat} {bl : List Blk} {n : Nat} (h : TextIs w B p (.slice (some ⟨vb, 0, none⟩) (bl.length + 1) vc) (bl ++ [⟨G, C, []⟩]) n) (hk : k = bl.length) :
    w.cell? ⟨p, 0, none⟩ = some (.slice (some ⟨vb, 0, none⟩) (k + 1) vc) ∧ w.cell? ⟨vb, k, none⟩ = some (.slice (some ⟨G, 0, none⟩) 0 C) ∧ w.frozen? ⟨vb, k, none⟩ = false ∧
    w.ownsRow B 5 1 (.slice (some ⟨G, 0, none⟩) 0 C) 0 [] ∧ p < w.heap.size ∧ vb < w.heap.size ∧ some p ≠ some G ∧ some vb ≠ some G := by
  subst hk
  have ho : w.ownsRow B 22 1 (.slice (some ⟨vb, 0, none⟩) (bl.length + 1) vc) (bl.length + 1) ((bl ++ [(⟨G, C, []⟩ : Blk)]).map Blk.val) := by simpa using h.own
  have hnd := h.nd
  simp only [foot, Value.ownBlock, Option.toList, List.map_append, List.map_cons, List.map_nil, List.singleton_append, List.nodup_cons, List.mem_cons, List.mem_append, List.mem_map, List.not_mem_nil, or_false, not_or] at hnd
  refine ⟨h.cell0, ?_, ho.frozenAt _, h.each ⟨G, C, []⟩ (by simp), (h.lt p (by simp [foot])).2, (h.lt vb (by simp [foot, Value.ownBlock])).2, by simpa using hnd.1.2.2, by simpa using hnd.2.1.2⟩
  rw [ho.cellAt bl.length (by omega)]
  simp [Blk.val]

set_option maxHeartbeats 1000000 in
theorem add_first (w : World) (B p vc : Nat) (ao : Option Addr) (bl : List Blk) (n : Nat) (h : TextIs w B p (.slice ao bl.length vc) bl n)
    (lb lo lcap : Nat) (line : List UInt8) (hline : ∀ j u, (bcells line)[j]? = some u → w.cell? ((⟨lb, lo, none⟩ : Addr).add j) = some u) (hlb : lb ∉ foot p (.slice ao bl.length vc) bl) (hlw : lb < w.heap.size)
    (hfull : bl = []) (hL : line.length ≤ 65536) (hbl : bl.length ≤ 1000000000) (hn : n ≤ 1000000000) (hB : B ≤ w.heap.size) :
    Calls Yba.prog 19 #[.pointer (some ⟨p, 0, none⟩), .slice (some ⟨lb, lo, none⟩) line.length lcap] w fun e w' => e = .returned (.tuple #[]) ∧ ∃ v',
      TextIs w' B p v' (bl ++ [⟨w.heap.size, 65536, line⟩]) (n + 1) ∧
      Only w w' (foot p (.slice ao bl.length vc) bl) ∧ (∀ x ∈ foot p v' (bl ++ [⟨w.heap.size, 65536, line⟩]), x ∈ foot p (.slice ao bl.length vc) bl ∨ w.heap.size ≤ x) := by
  have hc0 := h.cell0
  obtain ⟨L, hLL⟩ : ∃ L, L = line.length := ⟨_, rfl⟩
  have HL : Hid (L = line.length) := hLL
  rw [← hLL] at hL
  rw [← hLL]
  clear hLL
  have HK : Hid (0 = bl.length) := by simp [hfull, Hid]
  rw [← HK.out] at hc0
  clear hfull
  have hob : (bcells line).length = L * 1 := by rw [bcells_length, HL.out]; omega
  have a63 : 0 + 1 ≤ maxLen := by unfold maxLen; omega
  have a47 : (0 + 1) * 24 ≤ 140737488355328 := by omega
  have c63 : 0 + L ≤ maxLen := by unfold maxLen; omega
  have c47 : (0 + L) * 1 ≤ 140737488355328 := by omega
  go_enter Yba.func19, Yba.ntmps19
  go_wp2
  go_quiet (fail)
  go_wp2_with fail
  clear hc0 
  generalize hw2 : w.drewN nq = w2
  have h2 : TextIs w2 B p (.slice ao bl.length vc) bl n := by subst hw2; exact h.congr (fun _ _ => rfl)
  have hline2 : ∀ j u, (bcells line)[j]? = some u → w2.cell? ((⟨lb, lo, none⟩ : Addr).add j) = some u := by subst hw2; exact hline
  have hz : w2.heap.size = w.heap.size := by subst hw2; rfl
  have honly : Only w w2 [] := by subst hw2; exact (Only.refl w []).drewN nq
  have HON : Hid (w2.heap.size = w.heap.size ∧ Only w w2 []) := ⟨hz, honly⟩
  have hlw2 : lb < w2.heap.size := by rw [hz]; exact hlw
  have hB2 : B ≤ w2.heap.size := by rw [hz]; exact hB
  clear hw2 hz honly h hline hlw hB
  have hc0 : w2.cell? ⟨p, 0, none⟩ = some (.slice ao 0 vc) := by have := h2.cell0; rwa [← HK.out] at this
  obtain ⟨i0, hi0, hz0, hz1, hz2⟩ := info_parts Yba.info5
  obtain ⟨j0, hj0, hy0, hy1, hy2⟩ := info_parts Yba.info22
  obtain ⟨R, C, hC, hR, hmk0⟩ := make_ex
  have hmk := hmk0 L hL
  have hRo := hR w2 B hB2
  have hLC : 0 + L ≤ C := by omega
  have HC : Hid (C = 65536) := hC
  clear hmk0 hR hC
  have hown : w2.ownsRow B 22 1 (.slice ao 0 vc) 0 (bl.map Blk.val) := by have := h2.own; rwa [← HK.out] at this
  have hlp : p < w2.heap.size := (h2.lt p (by simp [foot])).2
  have hpv : some p ≠ (Value.slice ao 0 vc).ownBlock := fun e => by
    have hnd := h2.nd
    simp only [foot, List.nodup_cons] at hnd
    exact hnd.1 (by rw [← show 0 = bl.length from HK.out]; simp [← e])
  have hpf := h2.fr 0
  go_region_law ((refine step_append_any _ (by rfl) _ _ 58 58 (by rfl) B 22 j0 _ 1 24 Yba.underlying58 hj0 hy0 hy1 hy2 rfl (.slice ao 0 vc) 0 (bl.map Blk.val) (by rfl) (by exact (hown.alloc _).alloc _) (.slice (some ⟨w2.heap.size + 1, 0, none⟩) 1 1) 1 [.slice (some ⟨w2.heap.size, 0, none⟩) 0 C] (by rfl) (Src.ofSlice _ Yba.underlying58 ⟨w2.heap.size + 1, 0, none⟩ 1 1 [.slice (some ⟨w2.heap.size, 0, none⟩) 0 C] (by rfl) (by exact new_one w2 _ _ _) (by simp [Value.oneCell'])) a63 a47 (by simp; omega) ?_
                  intro v' w3 ho3 hg3 hat3 _
                  obtain ⟨g, cap, hv, _, hg3lt⟩ := ho3.form (by omega)
                  subst hv
                  have e2 : w3.cell? ⟨p, 0, none⟩ = some (.slice ao 0 vc) := (hg3.cell_far ⟨p, 0, none⟩ (by simp; omega) hpv).trans (old_two w2 _ _ _ _ hlp hc0)
                  have e3 : w3.frozen? ⟨p, 0, none⟩ = false := (hg3.frozen_far ⟨p, 0, none⟩ (by simp; omega) hpv).trans (old_two_fr w2 _ _ _ _ hlp hpf)))
  all_goals
    obtain ⟨T1, T2, T3⟩ := more_at h2 HK.out hRo _ ho3 hg3 hat3
    obtain ⟨f0, f1, f2, f3, f4, f5, f6, f7⟩ := half T1 HK.out
    have hlbf : lb ∉ foot p (.slice ao bl.length vc) bl := hlb
    have hl3 := (fun j u hu => cell_kept T2 hlw2 hlbf (hline2 j u hu))
    clear ho3 hg3 hat3 hg3lt e2 e3 hown hc0 hpf hlp hpv hmk hRo
    go_wp2_with fail
  all_goals
    simp only [Nat.zero_add] at T1 T2 T3 f0 f1 f2 f3 f4 f5 f6 f7 hl3
    generalize hw4 : w3.setCell _ _ = w4 at T1 T2 T3 f0 f1 f2 f3 f4 f5 f6 f7 hl3 ⊢
    clear hw4
    go_region_law ((refine step_append_any _ (by rfl) _ _ 22 22 (by rfl) B 5 i0 _ 1 1 Yba.underlying22 hi0 hz0 hz1 hz2 rfl (.slice (some ⟨w2.heap.size, 0, none⟩) 0 C) 0 [] (by rfl) (by exact f3) (.slice (some ⟨lb, lo, none⟩) L lcap) L (bcells line) (by rfl) (Src.ofSlice _ Yba.underlying22 ⟨lb, lo, none⟩ L lcap (bcells line) hob (by exact hl3) (bcells_one line)) c63 c47 (by exact Nat.le_trans hB2 T2.size) ?_
                    intro v' w5 ho5 hg5 _ hfit5
                    have hv5 := hfit5 w2.heap.size C rfl hLC
                    subst hv5
                    have e1 := (hg5.cell_far ⟨p, 0, none⟩ f4 f6).trans f0
                    have e2 := (hg5.cell_far ⟨g, 0, none⟩ f5 f7).trans f1
                    have e3 := (hg5.frozen_far ⟨g, 0, none⟩ f5 f7).trans f2))
  all_goals
    obtain ⟨U1, U2, c1, c2⟩ := put_at (b := ⟨w2.heap.size, C, []⟩) (M := 0) T1 HK.out rfl HL.out ho5 (undrew hg5)
    simp only [Nat.zero_add] at U1 U2 c1 c2
    go_wp2
    go_end0
    exact ⟨rfl, new_fin HON.out.1 HON.out.2 HC.out HK.out T2 T3 U1 U2⟩

set_option maxHeartbeats 1000000 in
theorem add_full (w : World) (B p vc : Nat) (ao : Option Addr) (bl : List Blk) (n : Nat) (h : TextIs w B p (.slice ao bl.length vc) bl n)
    (lb lo lcap : Nat) (line : List UInt8) (hline : ∀ j u, (bcells line)[j]? = some u → w.cell? ((⟨lb, lo, none⟩ : Addr).add j) = some u) (hlb : lb ∉ foot p (.slice ao bl.length vc) bl) (hlw : lb < w.heap.size)
    (bl0 : List Blk) (b : Blk) (hfull : bl = bl0 ++ [b]) (hb : b.cap < b.bytes.length + line.length) (hbM : b.bytes.length ≤ 1000000000) (hL : line.length ≤ 65536) (hbl : bl.length ≤ 1000000000) (hn : n ≤ 1000000000) (hB : B ≤ w.heap.size) :
    Calls Yba.prog 19 #[.pointer (some ⟨p, 0, none⟩), .slice (some ⟨lb, lo, none⟩) line.length lcap] w fun e w' => e = .returned (.tuple #[]) ∧ ∃ v',
      TextIs w' B p v' (bl ++ [⟨w.heap.size, 65536, line⟩]) (n + 1) ∧
      Only w w' (foot p (.slice ao bl.length vc) bl) ∧ (∀ x ∈ foot p v' (bl ++ [⟨w.heap.size, 65536, line⟩]), x ∈ foot p (.slice ao bl.length vc) bl ∨ w.heap.size ≤ x) := by
  have hc0 := h.cell0
  obtain ⟨L, hLL⟩ : ∃ L, L = line.length := ⟨_, rfl⟩
  have HL : Hid (L = line.length) := hLL
  rw [← hLL] at hL
  rw [← hLL]
  rw [← hLL] at hb
  clear hLL
  obtain ⟨k, hk⟩ : ∃ k, k = bl0.length := ⟨_, rfl⟩
  have HK : Hid (k + 1 = bl.length) := by simp [hfull, Hid, hk]
  rw [← HK.out] at hc0
  have hbl' := hbl
  rw [← HK.out] at hbl'
  obtain ⟨M, hMM⟩ : ∃ M, M = b.bytes.length := ⟨_, rfl⟩
  rw [← hMM] at hb hbM
  have d1 : decide ((k : Int) < 0) = false := by simp
  have d2 : decide ((b.cap : Int) < (M : Int) + (L : Int)) = true := by simp; omega
  have i1 : (0 : Int) ≤ (k : Int) := by omega
  have i2 : (k : Int) < (k : Int) + 1 := by omega
  have i3 : (0 : Int) ≤ (k : Int) + 1 := by omega
  have i4 : (k : Int) + 1 < (k : Int) + 1 + 1 := by omega
  have hao : ∃ vb, ao = some ⟨vb, 0, none⟩ ∧ w.cell? ⟨vb, k, none⟩ = some (.slice (some ⟨b.g, 0, none⟩) M b.cap) := by
    obtain ⟨vb, cp, hv, _, _⟩ := h.own.form (by rw [← HK.out]; omega)
    cases hv
    refine ⟨vb, rfl, ?_⟩
    rw [h.own.cellAt k (by rw [← HK.out]; omega), hfull]
    simp [Blk.val, hk, hMM]
  obtain ⟨vb, rfl, hlast⟩ := hao
  clear hfull hk hMM
  have hob : (bcells line).length = L * 1 := by rw [bcells_length, HL.out]; omega
  have a63 : (k + 1) + 1 ≤ maxLen := by unfold maxLen; omega
  have a47 : ((k + 1) + 1) * 24 ≤ 140737488355328 := by omega
  have c63 : 0 + L ≤ maxLen := by unfold maxLen; omega
  have c47 : (0 + L) * 1 ≤ 140737488355328 := by omega
  go_enter Yba.func19, Yba.ntmps19
  go_wp2
  go_quiet (fail)
  go_wp2_with fail
  clear hc0 hlast
  generalize hw2 : w.drewN nq = w2
  have h2 : TextIs w2 B p (.slice (some ⟨vb, 0, none⟩) bl.length vc) bl n := by subst hw2; exact h.congr (fun _ _ => rfl)
  have hline2 : ∀ j u, (bcells line)[j]? = some u → w2.cell? ((⟨lb, lo, none⟩ : Addr).add j) = some u := by subst hw2; exact hline
  have hz : w2.heap.size = w.heap.size := by subst hw2; rfl
  have honly : Only w w2 [] := by subst hw2; exact (Only.refl w []).drewN nq
  have HON : Hid (w2.heap.size = w.heap.size ∧ Only w w2 []) := ⟨hz, honly⟩
  have hlw2 : lb < w2.heap.size := by rw [hz]; exact hlw
  have hB2 : B ≤ w2.heap.size := by rw [hz]; exact hB
  clear hw2 hz honly h hline hlw hB
  have hc0 : w2.cell? ⟨p, 0, none⟩ = some (.slice (some ⟨vb, 0, none⟩) (k + 1) vc) := by have := h2.cell0; rwa [← HK.out] at this
  obtain ⟨i0, hi0, hz0, hz1, hz2⟩ := info_parts Yba.info5
  obtain ⟨j0, hj0, hy0, hy1, hy2⟩ := info_parts Yba.info22
  obtain ⟨R, C, hC, hR, hmk0⟩ := make_ex
  have hmk := hmk0 L hL
  have hRo := hR w2 B hB2
  have hLC : 0 + L ≤ C := by omega
  have HC : Hid (C = 65536) := hC
  clear hmk0 hR hC
  have hown : w2.ownsRow B 22 1 (.slice (some ⟨vb, 0, none⟩) (k + 1) vc) (k + 1) (bl.map Blk.val) := by have := h2.own; rwa [← HK.out] at this
  have hlp : p < w2.heap.size := (h2.lt p (by simp [foot])).2
  have hpv : some p ≠ (Value.slice (some ⟨vb, 0, none⟩) (k + 1) vc).ownBlock := fun e => by
    have hnd := h2.nd
    simp only [foot, List.nodup_cons] at hnd
    exact hnd.1 (by rw [← show (k + 1) = bl.length from HK.out]; simp [← e])
  have hpf := h2.fr 0
  go_region_law ((refine step_append_any _ (by rfl) _ _ 58 58 (by rfl) B 22 j0 _ 1 24 Yba.underlying58 hj0 hy0 hy1 hy2 rfl (.slice (some ⟨vb, 0, none⟩) (k + 1) vc) (k + 1) (bl.map Blk.val) (by rfl) (by exact (hown.alloc _).alloc _) (.slice (some ⟨w2.heap.size + 1, 0, none⟩) 1 1) 1 [.slice (some ⟨w2.heap.size, 0, none⟩) 0 C] (by rfl) (Src.ofSlice _ Yba.underlying58 ⟨w2.heap.size + 1, 0, none⟩ 1 1 [.slice (some ⟨w2.heap.size, 0, none⟩) 0 C] (by rfl) (by exact new_one w2 _ _ _) (by simp [Value.oneCell'])) a63 a47 (by simp; omega) ?_
                  intro v' w3 ho3 hg3 hat3 _
                  obtain ⟨g, cap, hv, _, hg3lt⟩ := ho3.form (by omega)
                  subst hv
                  have e2 : w3.cell? ⟨p, 0, none⟩ = some (.slice (some ⟨vb, 0, none⟩) (k + 1) vc) := (hg3.cell_far ⟨p, 0, none⟩ (by simp; omega) hpv).trans (old_two w2 _ _ _ _ hlp hc0)
                  have e3 : w3.frozen? ⟨p, 0, none⟩ = false := (hg3.frozen_far ⟨p, 0, none⟩ (by simp; omega) hpv).trans (old_two_fr w2 _ _ _ _ hlp hpf)))
  all_goals
    obtain ⟨T1, T2, T3⟩ := more_at h2 HK.out hRo _ ho3 hg3 hat3
    obtain ⟨f0, f1, f2, f3, f4, f5, f6, f7⟩ := half T1 HK.out
    have hlbf : lb ∉ foot p (.slice (some ⟨vb, 0, none⟩) bl.length vc) bl := hlb
    have hl3 := (fun j u hu => cell_kept T2 hlw2 hlbf (hline2 j u hu))
    clear ho3 hg3 hat3 hg3lt e2 e3 hown hc0 hpf hlp hpv hmk hRo
    go_wp2_with fail
  all_goals
    generalize hw4 : w3.setCell _ _ = w4 at T1 T2 T3 f0 f1 f2 f3 f4 f5 f6 f7 hl3 ⊢
    clear hw4
    go_region_law ((refine step_append_any _ (by rfl) _ _ 22 22 (by rfl) B 5 i0 _ 1 1 Yba.underlying22 hi0 hz0 hz1 hz2 rfl (.slice (some ⟨w2.heap.size, 0, none⟩) 0 C) 0 [] (by rfl) (by exact f3) (.slice (some ⟨lb, lo, none⟩) L lcap) L (bcells line) (by rfl) (Src.ofSlice _ Yba.underlying22 ⟨lb, lo, none⟩ L lcap (bcells line) hob (by exact hl3) (bcells_one line)) c63 c47 (by exact Nat.le_trans hB2 T2.size) ?_
                    intro v' w5 ho5 hg5 _ hfit5
                    have hv5 := hfit5 w2.heap.size C rfl hLC
                    subst hv5
                    have e1 := (hg5.cell_far ⟨p, 0, none⟩ f4 f6).trans f0
                    have e2 := (hg5.cell_far ⟨g, (k + 1), none⟩ f5 f7).trans f1
                    have e3 := (hg5.frozen_far ⟨g, (k + 1), none⟩ f5 f7).trans f2))
  all_goals
    obtain ⟨U1, U2, c1, c2⟩ := put_at (b := ⟨w2.heap.size, C, []⟩) (M := 0) T1 HK.out rfl HL.out ho5 (undrew hg5)
    simp only [Nat.zero_add] at U1 U2 c1 c2
    go_wp2
    go_end0
    exact ⟨rfl, new_fin HON.out.1 HON.out.2 HC.out HK.out T2 T3 U1 U2⟩

end Go.Proofs.Ybulkacye
