import Derived.Test.YbulkacyeAdd2
import Derived.Test.YbulkacyeFits
namespace Go.Proofs.Ybulkacye
open Go.RowKit
set_option linter.unusedVariables false

theorem own_le {w : World} {base : Nat} {e : TypeId} {size : Nat} {g n cap : Nat} {xs : List Value} (h : w.ownsRow base e size (.slice (some ⟨g, 0, none⟩) n cap) n xs) : n ≤ cap := by
  rcases h.2 with ⟨h, _⟩ | ⟨g', cap', cur, hv, _, _, hl, _⟩
  · cases h
  · cases hv; exact hl

theorem add_any (w : World) (B p : Nat) (v : Value) (bl : List Blk) (n : Nat) (h : TextIs w B p v bl n) (hcap : ∀ b ∈ bl, b.cap = 65536)
    (lb lo lcap : Nat) (line : List UInt8) (hline : ∀ j u, (bcells line)[j]? = some u → w.cell? ((⟨lb, lo, none⟩ : Addr).add j) = some u) (hlb : lb ∉ foot p v bl) (hlw : lb < w.heap.size)
    (hL : line.length ≤ 65536) (hbl : bl.length ≤ 1000000000) (hn : n ≤ 1000000000) (hB : B ≤ w.heap.size) :
    Calls Yba.prog 19 #[.pointer (some ⟨p, 0, none⟩), .slice (some ⟨lb, lo, none⟩) line.length lcap] w fun e w' => e = .returned (.tuple #[]) ∧ ∃ v' bl',
      TextIs w' B p v' bl' (n + 1) ∧ flat bl' = flat bl ++ line ∧ (∀ b ∈ bl', b.cap = 65536) ∧ bl'.length ≤ bl.length + 1 ∧ 
      Only w w' (foot p v bl) ∧ (∀ x ∈ foot p v' bl', x ∈ foot p v bl ∨ w.heap.size ≤ x) := by
  obtain ⟨ao, vc, rfl⟩ : ∃ ao vc, v = .slice ao bl.length vc := by
    rcases h.own.2 with ⟨rfl, h0⟩ | ⟨g, cap, cur, rfl, _⟩
    · exact ⟨none, 0, by rw [h0]⟩
    · exact ⟨_, _, rfl⟩
  rcases List.eq_nil_or_concat bl with h0 | ⟨bl0, b, h0⟩
  · refine (add_first w B p vc ao bl n h lb lo lcap line hline hlb hlw h0 hL hbl hn hB).mono fun e w' ⟨he, v', t1, t2, t3⟩ => ⟨he, v', _, t1, ?_, ?_, ?_, t2, t3⟩
    · simp [flat]
    · intro b hb
      simp at hb
      rcases hb with hb | rfl
      · exact hcap b hb
      · rfl
    · simp
  · rw [List.concat_eq_append] at h0
    have hbm : b ∈ bl := by rw [h0]; simp
    have hbc := hcap b hbm
    have hbl1 := own_le (h.each b hbm)
    by_cases hr : b.bytes.length + line.length ≤ b.cap
    · subst h0
      have hf := h.own.form (by simp)
      obtain ⟨g, cp, hv, _, _⟩ := hf
      cases hv
      have e : (bl0 ++ [b]).length = bl0.length + 1 := by simp
      rw [e] at h hbl
      refine (add_room w B p g vc b bl0 n h lb lo lcap line hline hr (by omega) (by omega) hn hB).mono fun e w' ⟨he, t1, t2⟩ => ⟨he, _, _, t1, ?_, ?_, ?_, ?_, ?_⟩
      · simp [flat]
      · intro b' hb'
        simp at hb'
        rcases hb' with hb' | rfl
        · exact hcap b' (by simp [hb'])
        · exact hbc
      · simp
      · simpa using t2
      · intro x hx
        left
        simpa [foot] using hx
    · refine (add_full w B p vc ao bl n h lb lo lcap line hline hlb hlw bl0 b h0 (by omega) (by omega) hL hbl hn hB).mono fun e w' ⟨he, v', t1, t2, t3⟩ => ⟨he, v', _, t1, ?_, ?_, ?_, t2, t3⟩
      · simp [flat]
      · intro b' hb'
        simp at hb'
        rcases hb' with hb' | rfl
        · exact hcap b' hb'
        · rfl
      · simp

end Go.Proofs.Ybulkacye
