import Derived.Test.YbulkacyeText
import Derived.Deep.QuietTactic
import Derived.BigQuiet
import Derived.Deep.DrawnRows
import Derived.Deep.AppendLies
import Derived.Deep.RegionLaw
namespace Go.Proofs.Ybulkacye
open Go.RowKit

theorem Yba.info5 : (Yba.prog.info? 5).map (fun i => (i.zero, i.size, i.bytes)) = some (some (.int .u8 0), 1, 1) := by kernel_rfl
theorem Yba.info22 : (Yba.prog.info? 22).map (fun i => (i.zero, i.size, i.bytes)) = some (some (.slice none 0 0), 1, 24) := by kernel_rfl

theorem undrewN {w w' : World} {n : Nat} {row : Option Nat} (g : (w.drewN n).grownBy w' row) : w.grownBy w' row := ⟨g.os, g.tape, g.output, g.size, g.block⟩
theorem undrew {w w' : World} {row : Option Nat} (g : w.drew.grownBy w' row) : w.grownBy w' row := ⟨g.os, g.tape, g.output, g.size, g.block⟩

theorem put_at {w w1 : World} {B p vb vc k M L : Nat} {b : Blk} {bl : List Blk} {n : Nat} {line : List UInt8} (h : TextIs w B p (.slice (some ⟨vb, 0, none⟩) (bl.length + 1) vc) (bl ++ [b]) n)
    (hk : k = bl.length) (hM : M = b.bytes.length) (hL : L = line.length)
    (h1 : w1.ownsRow B 5 1 (.slice (some ⟨b.g, 0, none⟩) (M + L) b.cap) (M + L) (bcells b.bytes ++ bcells line)) (g1 : w.grownBy w1 (some b.g)) :
    TextIs ((w1.setCell ⟨vb, k, none⟩ (.slice (some ⟨b.g, 0, none⟩) (M + L) b.cap)).setCell ⟨p, 1, none⟩ (.int .i64 (n + 1))) B p (.slice (some ⟨vb, 0, none⟩) (k + 1) vc) (bl ++ [⟨b.g, b.cap, b.bytes ++ line⟩]) (n + 1) ∧
    Only w ((w1.setCell ⟨vb, k, none⟩ (.slice (some ⟨b.g, 0, none⟩) (M + L) b.cap)).setCell ⟨p, 1, none⟩ (.int .i64 (n + 1))) (foot p (.slice (some ⟨vb, 0, none⟩) (k + 1) vc) (bl ++ [b])) ∧
    (w1.setCell ⟨vb, k, none⟩ (.slice (some ⟨b.g, 0, none⟩) (M + L) b.cap)).cell? ⟨p, 1, none⟩ = some (.int .i64 n) ∧
    (w1.setCell ⟨vb, k, none⟩ (.slice (some ⟨b.g, 0, none⟩) (M + L) b.cap)).frozen? ⟨p, 1, none⟩ = false := by
  subst hk
  obtain ⟨a, c⟩ := h.put (by rw [hM, hL]) h1 g1
  refine ⟨?_, c.setCell _ _ (.inl (by simp [foot])), a.cell1, a.fr 1⟩
  have := a.count (n + 1)
  rw [Int.natCast_add] at this
  exact this

set_option maxHeartbeats 400000 in
theorem add_room (w : World) (B p vb vc : Nat) (b : Blk) (bl : List Blk) (n : Nat) (h : TextIs w B p (.slice (some ⟨vb, 0, none⟩) (bl.length + 1) vc) (bl ++ [b]) n)
    (lb lo lcap : Nat) (line : List UInt8) (hline : ∀ j u, (bcells line)[j]? = some u → w.cell? ((⟨lb, lo, none⟩ : Addr).add j) = some u)
    (hroom : b.bytes.length + line.length ≤ b.cap) (hcap : b.cap ≤ 1000000000) (hbl : bl.length ≤ 1000000000) (hn : n ≤ 1000000000) (hB : B ≤ w.heap.size) :
    Calls Yba.prog 19 #[.pointer (some ⟨p, 0, none⟩), .slice (some ⟨lb, lo, none⟩) line.length lcap] w fun e w' => e = .returned (.tuple #[]) ∧
      TextIs w' B p (.slice (some ⟨vb, 0, none⟩) (bl.length + 1) vc) (bl ++ [⟨b.g, b.cap, b.bytes ++ line⟩]) (n + 1) ∧
      Only w w' (foot p (.slice (some ⟨vb, 0, none⟩) (bl.length + 1) vc) (bl ++ [b])) := by
  have hc0 := h.cell0
  have hlast : w.cell? ⟨vb, bl.length, none⟩ = some (.slice (some ⟨b.g, 0, none⟩) b.bytes.length b.cap) := by
    have ho : w.ownsRow B 22 1 (.slice (some ⟨vb, 0, none⟩) (bl.length + 1) vc) (bl.length + 1) ((bl ++ [b]).map Blk.val) := by simpa using h.own
    rw [ho.cellAt bl.length (by omega)]
    simp [Blk.val]
  obtain ⟨k, hk⟩ : ∃ k, k = bl.length := ⟨_, rfl⟩
  have HK : Hid (k = bl.length) := hk
  rw [← hk] at hlast hc0 hbl
  rw [← hk]
  have i1 : (0 : Int) ≤ (k : Int) := by omega
  have i2 : (k : Int) < (k : Int) + 1 := by omega
  obtain ⟨L, hL⟩ : ∃ L, L = line.length := ⟨_, rfl⟩
  obtain ⟨M, hM⟩ : ∃ M, M = b.bytes.length := ⟨_, rfl⟩
  rw [← hL, ← hM] at hroom
  rw [← hM] at hlast
  rw [← hL]
  have d1 : decide ((k : Int) < 0) = false := by simp
  have d2 : decide ((b.cap : Int) < (M : Int) + (L : Int)) = false := by simp; omega
  have HX : Hid (L = line.length ∧ M = b.bytes.length) := ⟨hL, hM⟩
  clear hL hM hk
  obtain ⟨i0, hi0, hz0, hz1, hz2⟩ := info_parts Yba.info5
  have hob : w.ownsRow B 5 1 (.slice (some ⟨b.g, 0, none⟩) M b.cap) M (bcells b.bytes) := by rw [HX.out.2]; exact h.each b (by simp)
  have hll : (bcells line).length = L * 1 := by rw [bcells_length, HX.out.1]; omega
  have h63 : M + L ≤ maxLen := by unfold maxLen; omega
  have h47 : (M + L) * 1 ≤ 140737488355328 := by omega
  have lp : p < w.heap.size := (h.lt p (by simp [foot])).2
  have lv : vb < w.heap.size := (h.lt vb (by simp [foot, Value.ownBlock])).2
  have hnd := h.nd
  simp only [foot, Value.ownBlock, Option.toList, List.map_append, List.map_cons, List.map_nil, List.singleton_append, List.nodup_cons, List.mem_cons, List.mem_append, List.mem_map, List.not_mem_nil, or_false, not_or] at hnd
  have np : some p ≠ some b.g := by simpa using hnd.1.2.2
  have nv : some vb ≠ some b.g := by simpa using hnd.2.1.2
  have hvf : w.frozen? ⟨vb, k, none⟩ = false := by
    have ho : w.ownsRow B 22 1 (.slice (some ⟨vb, 0, none⟩) (bl.length + 1) vc) (bl.length + 1) ((bl ++ [b]).map Blk.val) := by simpa using h.own
    exact ho.frozenAt k
  clear hnd
  go_enter Yba.func19, Yba.ntmps19
  go_wp2
  go_quiet (fail)
  go_wp2_with fail
  go_region_law ((refine step_append_any _ (by rfl) _ _ 22 22 (by rfl) B 5 i0 _ 1 1 Yba.underlying22 hi0 hz0 hz1 hz2 rfl (.slice (some ⟨b.g, 0, none⟩) M b.cap) M (bcells b.bytes) (by rfl) (by exact hob) (.slice (some ⟨lb, lo, none⟩) L lcap) L (bcells line) (by rfl) (Src.ofSlice _ Yba.underlying22 ⟨lb, lo, none⟩ L lcap (bcells line) hll (by exact hline) (bcells_one line)) h63 h47 hB ?_
                  intro v' w1 hown1 hgrow hat hfit
                  have hv := hfit b.g b.cap rfl hroom
                  subst hv
                  have e1 := (hgrow.cell_far ⟨p, 0, none⟩ lp np).trans hc0
                  have e2 := (hgrow.cell_far ⟨vb, k, none⟩ lv nv).trans hlast
                  have e3 := (hgrow.frozen_far ⟨vb, k, none⟩ lv nv).trans hvf))
  all_goals
    have T := put_at h HK.out HX.out.2 HX.out.1 hown1 (undrewN hgrow)
    obtain ⟨T1, T2, c1, f1⟩ := T
    go_wp2
    go_end0
    exact ⟨rfl, T1, T2⟩
end Go.Proofs.Ybulkacye
