import Derived.Test.YbulkacyeBuild
namespace Go.Proofs.Ybulkacye
open Go.RowKit
set_option linter.unusedVariables false

def linesOf (ss : List ByteArray) : List UInt8 := (ss.map (fun s => s.data.toList ++ [10])).flatten

theorem linesOf_take (ss : List ByteArray) (k : Nat) (h : k < ss.length) : linesOf (ss.take (k + 1)) = linesOf (ss.take k) ++ ((ss.getD k ByteArray.empty).data.toList ++ [10]) := by
  unfold linesOf
  rw [List.take_succ_eq_append_getElem h, List.map_append, List.flatten_append]
  simp [List.getD, h]

/-- The worlds of one round, up to the call of add. -/
theorem line_ready {wr w1 w2 w3 : World} {B p n m : Nat} {v : Value} {bl : List Blk} {o : Obj} {bs : List UInt8} (h : TextIs wr B p v bl n)
    (g1 : wr.grownBy w1 none) (g2 : w1.grownBy w2 (some wr.heap.size)) (g3 : (w2.alloc o).grownBy w3 (some wr.heap.size))
    (h3 : w3.ownsRow B 5 1 (.slice (some ⟨wr.heap.size, 0, none⟩) m m) m (bcells bs)) :
    TextIs w3 B p v bl n ∧ (∀ j u, (bcells bs)[j]? = some u → w3.cell? ((⟨wr.heap.size, 0, none⟩ : Addr).add j) = some u) ∧ wr.heap.size ∉ foot p v bl ∧ wr.heap.size < w3.heap.size ∧ Only wr w3 [] := by
  have o1 : Only wr w3 [] := by
    have a1 : Only wr w1 [] := (Only.refl wr []).grown g1 (by simp)
    have a2 : Only wr w2 [] := a1.grown g2 (fun k hk => by cases hk; exact .inr (Nat.le_refl _))
    exact (a2.alloc o).grown g3 (fun k hk => by cases hk; exact .inr (Nat.le_refl _))
  have hlt := h.lt
  refine ⟨h.congr (fun g hg => o1.block g (hlt g hg).2 (by simp)), h3.cells rfl, fun hm => by have := (hlt _ hm).2; omega, (h3.lt _ rfl).2, o1⟩

theorem Only.keepFoot {wr w3 w4 : World} {F : List Nat} {B : Nat} {w : World} (hb : Below B w wr) (o1 : Only wr w3 []) (o2 : Only w3 w4 F) (hF : ∀ x ∈ F, B ≤ x) (hB : B ≤ w.heap.size) : Below B w w4 :=
  hb.trans ((o1.below (Nat.le_trans hB hb.size) (by simp)).trans (o2.below (Nat.le_trans hB (Nat.le_trans hb.size o1.size)) hF))

theorem add_at (w : World) (B p : Nat) (v : Value) (bl : List Blk) (n : Nat) (h : TextIs w B p v bl n) (hcap : ∀ b ∈ bl, b.cap = 65536)
    (lb lo lcap m : Nat) (line : List UInt8) (hm : m = line.length) (hline : ∀ j u, (bcells line)[j]? = some u → w.cell? ((⟨lb, lo, none⟩ : Addr).add j) = some u) (hlb : lb ∉ foot p v bl) (hlw : lb < w.heap.size)
    (hL : m ≤ 65536) (hbl : bl.length ≤ 1000000000) (hn : n ≤ 1000000000) (hB : B ≤ w.heap.size) :
    Calls Yba.prog 19 #[.pointer (some ⟨p, 0, none⟩), .slice (some ⟨lb, lo, none⟩) m lcap] w fun e w' => e = .returned (.tuple #[]) ∧ ∃ v' bl',
      TextIs w' B p v' bl' (n + 1) ∧ flat bl' = flat bl ++ line ∧ (∀ b ∈ bl', b.cap = 65536) ∧ bl'.length ≤ bl.length + 1 ∧ 
      Only w w' (foot p v bl) ∧ (∀ x ∈ foot p v' bl', x ∈ foot p v bl ∨ w.heap.size ≤ x) := by
  subst hm
  exact add_any w B p v bl n h hcap lb lo lcap line hline hlb hlw hL hbl hn hB

set_option maxHeartbeats 400000 in
theorem build_any (ao : Option Addr) (cap : Nat) (ss : List ByteArray) (w : World) (hs : IsStrs w ao ss) (hlt : 0 < ss.length → ∀ b off, ao = some ⟨b, off, none⟩ → b < w.heap.size) (hl : ss.length ≤ 1024) (hsz : ∀ s ∈ ss, s.size ≤ 4096) :
    Calls Yba.prog 10 #[.slice ao ss.length cap] w fun e w' => ∃ v bl, e = .returned (.pointer (some ⟨w.heap.size, 0, none⟩)) ∧ TextIs w' w.heap.size w.heap.size v bl ss.length ∧
      flat bl = linesOf ss ∧ (∀ b ∈ bl, b.cap = 65536) ∧ bl.length ≤ ss.length ∧ Below w.heap.size w w' := by
  obtain ⟨i0, hi0, hz0, hz1, hz2⟩ := info_parts Yba.info5
  go_enter Yba.func10, Yba.ntmps10
  go_wp2
  go_loopw [11] (fun i wr => ∃ k : Nat, k ≤ ss.length ∧ i = .int .i64 k ∧ ∃ v bl, TextIs wr w.heap.size w.heap.size v bl k ∧ flat bl = linesOf (ss.take k) ∧ (∀ b ∈ bl, b.cap = 65536) ∧ bl.length ≤ k ∧ Below w.heap.size w wr)
    (fun i _ => ss.length - (intOf i).toNat)
  case atStart =>
    refine ⟨0, Nat.zero_le _, rfl, .slice none 0 0, [], ⟨?_, World.ownsRow_nil _ _ _ _, by simp, by simp [foot, Value.ownBlock], Nat.le_refl _⟩, by simp [flat, linesOf], by simp, by simp, (Below.refl _ _).alloc (Nat.le_refl _) _⟩
    exact heap_alloc_new w _
  case round =>
    obtain ⟨k, hk, rfl, v, bl, ht, hfl, hcap, hbl, hbel⟩ := hrel
    have HF : Hid (flat bl = linesOf (ss.take k)) := hfl
    clear hfl
    have hwz := hbel.size
    by_cases hkl : k < ss.length
    · obtain ⟨b, off, rfl, hc⟩ := hs k hkl
      have hck := (hbel.cell (p := ⟨b, off + k, none⟩) (hlt (by omega) b off rfl)).trans (hc k hkl)
      obtain ⟨s, hse⟩ : ∃ s, s = ss.getD k ByteArray.empty := ⟨_, rfl⟩
      have hsn := linesOf_take ss k hkl
      rw [← hse] at hck hsn
      have hmem : s ∈ ss := by rw [hse]; simp [List.getD, hkl]
      have hss := hsz s hmem
      have HT : Hid (linesOf (ss.take (k + 1)) = linesOf (ss.take k) ++ (s.data.toList ++ [10])) := hsn
      clear hsn hse hs hc
      have hbB : w.heap.size ≤ wr.heap.size := hwz
      have m2 : i0.bytes * (s.size + 1) ≤ 281474976710656 := by rw [hz2]; omega
      have m3 : s.size + 1 ≤ maxLen := by unfold maxLen; omega
      have a63 : 0 + s.size ≤ maxLen := by unfold maxLen; omega
      have a47 : (0 + s.size) * 1 ≤ 140737488355328 := by omega
      have b63 : s.size + 1 ≤ maxLen := by unfold maxLen; omega
      have b47 : (s.size + 1) * 1 ≤ 140737488355328 := by omega
      go_wp2_with (first
        | (at_make; refine wpList_make_own _ rfl _ _ 22 rfl w.heap.size 5 i0 _ 1 Yba.underlying22 hi0 hz0 hz1 .i64 .i64 _ (s.size + 1) rfl rfl (by omega) m2 m3 hbB ?_; intro w1 ho1 hg1)
        | (at_builtin; refine wpList_append_any _ rfl (.tmp 19) (.tmp 20) 22 9 rfl w.heap.size 5 i0 _ 1 1 Yba.underlying22 hi0 hz0 hz1 hz2 rfl (.slice (some ⟨wr.heap.size, 0, none⟩) 0 (s.size + 1)) 0 [] rfl ho1 (.string s) s.size (byteCells s) rfl (Src.ofString _ Yba.underlying9 s) a63 a47 (Nat.le_trans hbB hg1.size) ?_; intro v2 w2 ho2 hg2 _ hf2; have hv2 := hf2 wr.heap.size (s.size + 1) rfl (by omega); subst hv2; simp only [Nat.zero_add, List.nil_append] at ho2)
        | (at_builtin; refine wpList_append_any _ rfl (.tmp 22) (.tmp 23) 22 22 rfl w.heap.size 5 i0 _ 1 1 Yba.underlying22 hi0 hz0 hz1 hz2 rfl (.slice (some ⟨wr.heap.size, 0, none⟩) s.size (s.size + 1)) s.size (byteCells s) rfl (ho2.alloc _) (.slice (some ⟨w2.heap.size, 0, none⟩) 1 1) 1 [.int .u8 10] rfl (Src.ofSlice _ Yba.underlying22 ⟨w2.heap.size, 0, none⟩ 1 1 [.int .u8 10] rfl (cell_one_new _ _ _) (by simp [Value.oneCell'])) b63 b47 (by have := hg1.size; have := hg2.size; simp; omega) ?_; intro v3 w3 ho3 hg3 _ hf3; have hv3 := hf3 wr.heap.size (s.size + 1) rfl (by omega); subst hv3))
      have eb : bcells (s.data.toList ++ [10]) = byteCells s ++ [.int .u8 10] := by simp [bcells, byteCells]
      rw [← eb] at ho3
      obtain ⟨r1, r2, r3, r4, r5⟩ := line_ready ht hg1 hg2 hg3 ho3
      clear eb ho1 hg1 ho2 hg2 hf2 ho3 hg3 hf3
      refine (add_at w3 w.heap.size w.heap.size v bl k r1 hcap wr.heap.size 0 (s.size + 1) (s.size + 1) (s.data.toList ++ [10]) (by simp) r2 r3 r4 (by omega) (by omega) (by omega) (by have := r5.size; omega)).mono ?_
      rintro e w4 ⟨rfl, v4, bl4, q1, q2, q3, q4, q5, q6⟩
      have HQ : Hid (flat bl4 = flat bl ++ (s.data.toList ++ [10])) := q2
      have hbel4 : Below w.heap.size w w4 := Only.keepFoot hbel r5 q5 (fun x hx => (r1.lt x hx).1) (Nat.le_refl _)
      clear q2
      go_wp2
      go_roundw
      case rel => exact ⟨k + 1, by omega, by go_num, v4, bl4, q1, by rw [HQ.out, HF.out, HT.out], q3, by omega, hbel4⟩
      case measure => simp [intOf]; omega
    · go_wp2
      go_ret
      have he : ss.take k = ss := List.take_of_length_le (by omega)
      have hkk : k = ss.length := by omega
      subst hkk
      exact ⟨v, bl, rfl, ht, by rw [HF.out, he], hcap, hbl, hbel⟩
end Go.Proofs.Ybulkacye
