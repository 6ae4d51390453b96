import Derived.Test.YbulkacyeBuild2
namespace Go.Proofs.Ybulkacye
open Go.RowKit
set_option linter.unusedVariables false

theorem flat_take (bl : List Blk) (k : Nat) (b : Blk) (h : bl[k]? = some b) : flat (bl.take (k + 1)) = flat (bl.take k) ++ b.bytes := by
  obtain ⟨hk, rfl⟩ := List.getElem?_eq_some_iff.1 h
  unfold flat
  rw [List.take_succ_eq_append_getElem hk, List.map_append, List.flatten_append]
  simp

theorem flat_take_le (bl : List Blk) (k : Nat) : (flat (bl.take k)).length ≤ (flat bl).length := by
  have : flat bl = flat (bl.take k) ++ flat (bl.drop k) := by rw [← flat_append, List.take_append_drop]
  rw [this]; simp

/-- What a round of AppendTo needs of its block. -/
theorem block_at {w wr : World} {B p n k vc : Nat} {F : List Nat} {ao : Option Addr} {bl : List Blk} (h : TextIs w B p (.slice ao bl.length vc) bl n) (ho : Only w wr F) (hF : ∀ x ∈ F, x ∉ foot p (.slice ao bl.length vc) bl) (hk : k < bl.length) :
    ∃ g b, ao = some ⟨g, 0, none⟩ ∧ bl[k]? = some b ∧ wr.cell? ⟨g, k, none⟩ = some (.slice (some ⟨b.g, 0, none⟩) b.bytes.length b.cap) ∧ 
      (∀ j u, (bcells b.bytes)[j]? = some u → wr.cell? ((⟨b.g, 0, none⟩ : Addr).add j) = some u) := by
  obtain ⟨g, cp, hv, _, _⟩ := h.own.form (by omega)
  cases hv
  have keep : ∀ x ∈ foot p (.slice (some ⟨g, 0, none⟩) bl.length vc) bl, wr.heap[x]? = w.heap[x]? := fun x hx => ho.block x (h.lt x hx).2 (fun hm => hF x hm hx)
  have h' := h.congr keep
  refine ⟨g, bl[k], rfl, by simp [hk], ?_, (h'.each bl[k] (by simp)).cells rfl⟩
  rw [h'.own.cellAt k (by omega)]
  simp [hk, Blk.val]

theorem appendTo_any (w : World) (B p : Nat) (v : Value) (bl : List Blk) (n : Nat) (h : TextIs w B p v bl n) (bv : Value) (pre : List UInt8) (hb : w.ownsRow B 5 1 bv pre.length (bcells pre)) (hd : ∀ x, bv.ownBlock = some x → x ∉ foot p v bl)
    (hbl : bl.length ≤ 1000000000) (hsz : pre.length + (flat bl).length ≤ 1000000000) (hB : B ≤ w.heap.size) :
    Calls Yba.prog 11 #[.pointer (some ⟨p, 0, none⟩), bv] w fun e w' => ∃ v', e = .returned v' ∧ w'.ownsRow B 5 1 v' (pre ++ flat bl).length (bcells (pre ++ flat bl)) ∧ Only w w' bv.ownBlock.toList ∧ (∀ x, v'.ownBlock = some x → bv.ownBlock = some x ∨ w.heap.size ≤ x) := by
  obtain ⟨ao, vc, rfl⟩ : ∃ ao vc, v = .slice ao bl.length vc := by
    rcases h.own.2 with ⟨rfl, h0⟩ | ⟨g, cap, cur, rfl, _⟩
    · exact ⟨none, 0, by rw [h0]⟩
    · exact ⟨_, _, rfl⟩
  obtain ⟨i0, hi0, hz0, hz1, hz2⟩ := info_parts Yba.info5
  have hc0 := h.cell0
  go_enter Yba.func11, Yba.ntmps11
  go_wp2
  go_loopw [1, 12] (fun u i wr => ∃ k : Nat, k ≤ bl.length ∧ i = .int .i64 k ∧ wr.ownsRow B 5 1 u (pre ++ flat (bl.take k)).length (bcells (pre ++ flat (bl.take k))) ∧ Only w wr bv.ownBlock.toList ∧ (∀ x, u.ownBlock = some x → bv.ownBlock = some x ∨ w.heap.size ≤ x))
    (fun _ i _ => bl.length - (intOf i).toNat)
  case atStart => exact ⟨0, Nat.zero_le _, rfl, by simpa [flat] using hb, Only.refl _ _, fun x hx => .inl hx⟩
  case round =>
    obtain ⟨k, hk, rfl, ho, hon, hx⟩ := hrel
    by_cases hkl : k < bl.length
    · obtain ⟨g, b, rfl, hbk, hck, hcs⟩ := block_at h hon (fun x hx => hd x (by simpa using hx)) hkl
      have hft := flat_take bl k b hbk
      have hle := flat_take_le bl (k + 1)
      obtain ⟨L, hL⟩ : ∃ L, L = (pre ++ flat (bl.take k)).length := ⟨_, rfl⟩
      rw [← hL] at ho
      have hLn : L + b.bytes.length ≤ 1000000000 := by rw [hft] at hle; simp at hL hle; omega
      have a63 : L + b.bytes.length ≤ maxLen := by unfold maxLen; omega
      have a47 : (L + b.bytes.length) * 1 ≤ 140737488355328 := by omega
      have hll : (bcells b.bytes).length = b.bytes.length * 1 := by rw [bcells_length]; omega
      have hBr : B ≤ wr.heap.size := Nat.le_trans hB hon.size
      have HF : Hid (flat (bl.take (k + 1)) = flat (bl.take k) ++ b.bytes) := hft
      have HL : Hid (L = (pre ++ flat (bl.take k)).length) := hL
      clear hft hle hL hbk
      go_wp2_with (at_builtin; refine wpList_append_any _ rfl (.tmp 16) (.tmp 17) 22 22 rfl B 5 i0 _ 1 1 Yba.underlying22 hi0 hz0 hz1 hz2 rfl _ L (bcells (pre ++ flat (bl.take k))) rfl ho (.slice (some ⟨b.g, 0, none⟩) b.bytes.length b.cap) b.bytes.length (bcells b.bytes) rfl (Src.ofSlice _ Yba.underlying22 ⟨b.g, 0, none⟩ b.bytes.length b.cap (bcells b.bytes) hll hcs (bcells_one _)) a63 a47 hBr ?_; intro v2 w2 ho2 hg2 hat2 _)
      go_roundw
      case rel =>
        refine ⟨k + 1, by omega, by go_num, ?_, ?_, ?_⟩
        · rw [HF.out, ← List.append_assoc, bcells_append, List.length_append, ← HL.out]; exact ho2
        · exact hon.grown hg2 (fun x hx' => by rcases hx x hx' with a | a; exact .inl (by simp [a]); exact .inr a)
        · intro x hx'
          rcases hat2 with e | ⟨e, _⟩
          · rw [e] at hx'; exact hx x hx'
          · rw [e] at hx'; cases hx'; exact .inr hon.size
      case measure => simp [intOf]; omega
    · go_wp2
      go_ret
      have he : bl.take k = bl := List.take_of_length_le (by omega)
      rw [he] at ho
      exact ⟨_, rfl, ho, hon, hx⟩
end Go.Proofs.Ybulkacye
