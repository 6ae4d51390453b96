import Derived.Test.YbulkacyeCom1
import Derived.BigQuiet
namespace Go.Proofs.Ybulkacye
open Go.RowKit Go.Maps Go.Proofs.Ybulkacye.Lcs
set_option linter.unusedVariables false
set_option linter.unusedSectionVars false
variable {v0 v1 v5 v6 v11 v12 v13 v18 v19 v22 v29 v30 v31 v57 v58 v59 v83 v84 v85 v115 v116 v117 : Value} {a : Act} {Q : Exit → Act → World → Prop} {w : World} {base bm gi gn : Nat} {ao bo : Option Addr} {ca cb : Nat} {A B ks : List ByteArray}

set_option maxRecDepth 20000 in
set_option maxHeartbeats 4000000 in
theorem co36 {S G ga gb k n x y xx yy cfa cfb fc na nb : Nat} (b1 : k < n) (b2 : n ≤ 1000) (b3 : x < na) (b4 : y < nb) (b5 : na ≤ 1000) (b6 : nb ≤ 1000) (hbox : w.cell? ⟨S, 2, none⟩ = some (.slice (some ⟨G, 0, none⟩) n fc)) (ca1 : w.cell? ⟨ga, x, none⟩ = some (.int .i64 (xx : Int))) (cb1 : w.cell? ⟨gb, y, none⟩ = some (.int .i64 (yy : Int)))
    (c1 : w.cell? ⟨G, k * 2, none⟩ = some (.int .i64 (x : Int))) (c2 : w.cell? ⟨G, k * 2 + 1, none⟩ = some (.int .i64 (y : Int))) (f1 : w.frozen? ⟨G, k * 2, none⟩ = false) (f2 : w.frozen? ⟨G, k * 2 + 1, none⟩ = false)
    (l1 : S < w.heap.size) (l2 : ga < w.heap.size) (l3 : gb < w.heap.size) (l4 : G < w.heap.size)
    (h : Fm v0 v1 v5 v6 v11 v12 (.slice (some ⟨gb, 0, none⟩) nb cfb) v18 (.slice (some ⟨ga, 0, none⟩) na cfa) (.pointer (some ⟨S, 0, none⟩)) v29 v30 v31 v57 v58 v59 v83 v84 v85 (.slice (some ⟨G, 0, none⟩) n fc) v116 (.int .i64 k) a) {R : Act → World → Prop} (hQ : ∀ a', Fm v0 v1 v5 v6 v11 v12 (.slice (some ⟨gb, 0, none⟩) nb cfb) v18 (.slice (some ⟨ga, 0, none⟩) na cfa) (.pointer (some ⟨S, 0, none⟩)) v29 v30 v31 v57 v58 v59 v83 v84 v85 (.slice (some ⟨G, 0, none⟩) n fc) v116 (.int .i64 k) a' → R a' (((w.setCell ⟨G, k * 2, none⟩ (.int .i64 (xx : Int))).setCell ⟨G, k * 2 + 1, none⟩ (.int .i64 (yy : Int))).alloc (.cells #[.int .i64 (x : Int), .int .i64 (y : Int)] 57)).drew) : Code.wp Yba.prog (pc18 [1, 1, 1, 1, 1, 1, 1, 1, 1, 1, 1, 0, 1, 0, 0, 1, 1, 0, 0]) (Exit.then R (fun _ _ _ => False)) a w := by
  obtain ⟨u, rfl⟩ := h.lay
  clear h
  conv => arg 2; whnf
  go_wp2
  go_region
  go_wp2
  exact ⟨rfl, rfl, rfl, rfl, rfl, rfl, rfl, rfl, rfl, rfl, rfl, rfl, rfl, rfl, rfl, rfl, rfl, rfl, rfl, rfl, rfl, rfl, rfl, rfl⟩

end Go.Proofs.Ybulkacye
