import Derived.Test.YbulkacyeAppendTo
namespace Go.Proofs.Ybulkacye
open Go.RowKit
set_option linter.unusedVariables false

theorem conv_own {w : World} {B : Nat} {v : Value} {l : List UInt8} (h : w.ownsRow B 5 1 v l.length (bcells l)) : (convert 22 9 v).run Yba.prog w = .ok (.string ⟨l.toArray⟩) w := by
  rcases h.2 with ⟨rfl, h0⟩ | ⟨g, cap, cur, rfl, _⟩
  · have : l = [] := List.eq_nil_of_length_eq_zero h0
    subst this
    exact run_convert_bytes_nil w 22 5 Yba.underlying22 Yba.underlying5 0 0 9 Yba.underlying9
  · have hc := h.cells (g := g) rfl
    have := run_convert_bytes_arg (P := Yba.prog) w 22 5 Yba.underlying22 Yba.underlying5 g 0 l.length cap (l.map fun b => (b.toNat : Int)) (by simp) (fun i hi => by
      have := hc i (.int .u8 (l[i].toNat : Int)) (by simp [bcells, hi])
      rw [Addr.add_lit] at this
      rw [this]
      simp [List.getD, hi]) 9 Yba.underlying9
    rw [this]
    congr 2
    simp [strOfNums]
    refine (List.map_congr_left (g := id) (fun b _ => ?_)).trans (List.map_id l)
    simp

set_option maxHeartbeats 400000 in
theorem equal_same (w : World) (B B' : Nat) (v1 v2 : Value) (l : List UInt8) (h1 : w.ownsRow B 5 1 v1 l.length (bcells l)) (h2 : w.ownsRow B' 5 1 v2 l.length (bcells l)) :
    Calls Yba.prog 12 #[v1, v2] w fun e w' => e = .returned (.bool true) ∧ w' = w := by
  have c1 := conv_own h1
  have c2 := conv_own h2
  go_enter Yba.func12, Yba.ntmps12
  go_wp2
  go_ret
  exact ⟨by simp, rfl⟩

set_option maxHeartbeats 400000 in
theorem lines_any (w : World) (B p : Nat) (v : Value) (bl : List Blk) (n : Nat) (h : TextIs w B p v bl n) :
    Calls Yba.prog 13 #[.pointer (some ⟨p, 0, none⟩)] w fun e w' => e = .returned (.int .i64 n) ∧ w' = w := by
  have c1 := h.cell1
  go_enter Yba.func13, Yba.ntmps13
  go_wp2
  go_ret
  exact ⟨rfl, rfl⟩
end Go.Proofs.Ybulkacye
