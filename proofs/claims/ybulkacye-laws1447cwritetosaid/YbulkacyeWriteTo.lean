import Derived.Test.YbulkacyeWrite
namespace Go.Proofs.Ybulkacye
open Go.RowKit
set_option linter.unusedVariables false

theorem method_write (a : Addr) (w : World) : (method 193 43 (.pointer (some a)) "Write").run Yba.prog w = .ok (41, .pointer (some a)) w := by kernel_rfl

set_option maxHeartbeats 400000 in
theorem writeTo_any (w : World) (B p : Nat) (v : Value) (bl : List Blk) (n : Nat) (h : TextIs w B p v bl n) (q : Nat) (bv : Value) (hw : WrIs w B q bv [] 0) (hd : ∀ x ∈ wfoot q bv, x ∉ foot p v bl)
    (hbl : bl.length ≤ 1000000) (hsz : (flat bl).length ≤ 1000000000) (hB : B ≤ w.heap.size) :
    Calls Yba.prog 14 #[.pointer (some ⟨p, 0, none⟩), .iface 43 (.pointer (some ⟨q, 0, none⟩))] w fun e w' => e = .returned (.tuple #[.int .i64 (flat bl).length, .nilIface]) ∧ ∃ bv' c, WrIs w' B q bv' (flat bl) c ∧ Only w w' (wfoot q bv) ∧
      (∀ x ∈ wfoot q bv', x ∈ wfoot q bv ∨ w.heap.size ≤ x) := by
  obtain ⟨ao, vc, rfl⟩ : ∃ ao vc, v = .slice ao bl.length vc := own_slice h.own
  have hc0 := h.cell0
  go_enter Yba.func14, Yba.ntmps14
  go_wp2
  go_loopw [6, 16] (fun t i wr => ∃ k : Nat, k ≤ bl.length ∧ i = .int .i64 k ∧ t = .int .i64 (flat (bl.take k)).length ∧ ∃ bv', WrIs wr B q bv' (flat (bl.take k)) k ∧ Only w wr (wfoot q bv) ∧ (∀ x ∈ wfoot q bv', x ∈ wfoot q bv ∨ w.heap.size ≤ x))
    (fun _ i _ => bl.length - (intOf i).toNat)
  case atStart => exact ⟨0, Nat.zero_le _, rfl, rfl, bv, hw, Only.refl _ _, fun x hx => .inl hx⟩
  case round =>
    obtain ⟨k, hk, rfl, rfl, bv', hwr, hon, hx⟩ := hrel
    by_cases hkl : k < bl.length
    · obtain ⟨g, b, rfl, hbk, hck, hcs⟩ := block_at h hon (fun x hx => hd x hx) hkl
      have hft := flat_take bl k b hbk
      have hle := flat_take_le bl (k + 1)
      have hmw := method_write
      obtain ⟨L, hL⟩ : ∃ L, L = (flat (bl.take k)).length := ⟨_, rfl⟩
      rw [← hL]
      have hLn : L + b.bytes.length ≤ 1000000000 := by rw [hft] at hle; simp at hle; omega
      have HF : Hid (flat (bl.take (k + 1)) = flat (bl.take k) ++ b.bytes) := hft
      have HL : Hid (L = (flat (bl.take k)).length) := hL
      have hBr : B ≤ wr.heap.size := Nat.le_trans hB hon.size
      clear hft hle hL hbk
      go_wp2_with (go_at_call 41; refine (write_any wr B q bv' _ k hwr b.g b.bytes.length b.cap b.bytes rfl hcs (by rw [← HL.out]; exact hLn) (by omega) hBr).mono ?_; rintro e w2 ⟨rfl, bv2, t1, t2, t3⟩)
      go_roundw
      case rel =>
        refine ⟨k + 1, by omega, by go_num, ?_, bv2, ?_, ?_, ?_⟩
        · rw [HF.out, List.length_append, ← HL.out]; go_num
        · rw [HF.out]; exact t1
        · exact hon.trans t2 hx
        · intro x hx'
          rcases t3 x hx' with a | a
          · exact hx x a
          · exact .inr (Nat.le_trans hon.size a)
      case measure => simp [intOf]; omega
    · go_wp2
      go_ret2
      have he : bl.take k = bl := List.take_of_length_le (by omega)
      rw [he] at hwr ⊢
      exact ⟨rfl, bv', k, hwr, hon, hx⟩
end Go.Proofs.Ybulkacye
