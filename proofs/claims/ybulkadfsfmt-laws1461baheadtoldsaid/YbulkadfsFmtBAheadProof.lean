import Derived.Test.YbulkadfsFmtRows
import Derived.Test.YbulkadfsFmtTie
import Derived.Test.YbulkadfsFmtCards
import Derived.Test.YbulkadfsFmtLawB
import Derived.ProofKit
import Derived.ChangeSlices
import Derived.ChangeSame
import Derived.ChangeMaps5
import Derived.JoinedOf
import Derived.Carry
import Derived.Stop.JoinedAt
import Derived.Stop.Texts
import Derived.Stop.JoinedTold
import Derived.SizedLaws
import Derived.SevenToldRow
import Derived.SevenTiedAt
import Derived.OpenShut
import Derived.Deep.Slices
import Derived.Deep.Strs
import Derived.Lib.LaidTab
import Derived.Lib.LaidIn
import Derived.MakeChecks
namespace Go.Proofs.YbulkadfsFmt
open Go.ChangeShapes Go.WideShapes Go.ChangeAt Go.RowKit Go.Kit Go.Deep
open Go.Extern.Stop Go.Stop Go.Extern
set_option linter.unusedVariables false

theorem Ybaf.own : ownKnob Ybaf.prog.godebug = none := by kernel_rfl
theorem Ybaf.laidOut : laidOutB Ybaf.pinned.checked.prog = true := by kernel_rfl
theorem Ybaf.cells33 : Ybaf.prog.cellsOf 33 = 2 := by kernel_rfl
theorem Ybaf.cells5 : Ybaf.prog.cellsOf 5 = 1 := by kernel_rfl
theorem Ybaf.gT : Ybaf.prog.globalNamed "math/bits.deBruijn64tab" = some 0 := by kernel_rfl

/-- One element of the argument. -/
theorem raw_open {H : Type} {enc : TypeId × Value → H} {W : World} {n : Nat} {x : DataW H × List MemPlace} {cs : List Value} (h : DataW.trod enc Ybaf.prog W 0 (fun _ => true) true n 33 cs = some x) :
    ∃ r : Raw, cs = [.int .u8 r.lv, .int .u8 r.rw] ∧ 0 ≤ r.lv ∧ r.lv ≤ 255 ∧ 0 ≤ r.rw ∧ r.rw ≤ 255 := by
  obtain ⟨y0, y1, m, rfl, hl, t0, t1⟩ := trod_struct2 Ybaf.underlying33 h
  rw [Ybaf.cells33] at hl
  match cs, hl with
  | [c0, c1], _ =>
    simp only [Ybaf.cells5, List.drop_zero, List.drop_succ_cons, List.take_succ_cons, List.take_zero] at t0 t1
    obtain ⟨b, e0, _, wb⟩ := DataW.trod_int Ybaf.underlying5 t0
    obtain ⟨l, e1, _, wl⟩ := DataW.trod_int Ybaf.underlying5 t1
    simp at e0 e1
    subst e0 e1
    have bb := bounds_u8 wb
    have bl := bounds_u8 wl
    exact ⟨⟨b, l⟩, rfl, bb.1, bb.2, bl.1, bl.2⟩

theorem Ybaf.gTType : (Ybaf.prog.globals[0]?).map (·.type) = some 62 := by kernel_rfl
theorem Ybaf.cells62 : Ybaf.prog.cellsOf 62 = 64 := by kernel_rfl

/-- What the row lists is the table of the shelf. -/
theorem laid_is : Rows.lawS1461BAheadRow.laid = [("math/bits.deBruijn64tab", Lib.tabData .u8 (Lib.deBruijn64tab.map fun n : Nat => (n : Int)))] := rfl

theorem tab_of {W : World} (hL : laidMet Ybaf.prog Rows.lawS1461BAheadRow.laid W) : TabAt W := by
  rw [laid_is] at hL
  have hT := Lib.tabIs_of_head Ybaf.gT Ybaf.gTType Ybaf.underlying62 Ybaf.underlying5 Ybaf.cells5 Ybaf.cells62 hL
  intro j hj
  have hlen : (Lib.deBruijn64tab.map fun n : Nat => (n : Int)).length = 64 := by rw [List.length_map]; rfl
  have := hT.cell Ybaf.gT j (by rw [hlen]; exact hj)
  rw [this]
  congr 2
  have hl2 : j < Lib.deBruijn64tab.length := by rw [List.length_map] at hlen; omega
  simp [List.getD, hl2]

set_option maxRecDepth 100000 in
theorem witness_row (os : Os) (H : Type) (enc : TypeId × Value → H) (F : Stop.Interp) :
    ∃ (w : World) (tape : Tape) (i : Input), w.os = os ∧ (w.forCall tape i).Shaped Ybaf.checked.prog ∧ i.vars = [] ∧ Input.okWide Ybaf.checked.prog (w.forCall tape i) .any w.heap.size 3 i ∧
      (OpenSpec.ofChange Rows.lawS1461BAheadSpec).preRow enc Ybaf.checked.prog Ybaf.f3 [] false Rows.lawS1461BAheadRow.laid (w.forCall tape i).memory i.args ∧ ({ modest := false } : Assume).holds Ybaf.checked.prog (lone (Frame.enter Ybaf.checked.prog 3 i.args .normal) [] (w.forCall tape i)) ∧ F.answers tape :=
  OpenSpec.witness_stopped_at (enc := enc) (C := Ybaf.checked) false
    { World.holding Ybaf.prog os ⟨#[], #[], []⟩ with heap := (World.holding Ybaf.prog os ⟨#[], #[], []⟩).heap.modify 0 fun
      | .cells _ t frozen => .cells (Lib.deBruijn64tab.map fun n : Nat => Value.int .u8 (n : Int)).toArray t frozen
      | o => o }
    #[.int .u64 0, .int .u8 0, .slice none 0 0] rfl (by kernel_rfl) (by kernel_rfl) (by kernel_rfl)
      (OpenSpec.preRow_of_B rfl 8 (by kernel_rfl) (by kernel_rfl) ((Go.MakeChecks.laidMetH_plain _ Rows.lawS1461BAheadRow.laid _ (by kernel_rfl)).mpr (LaidIn.of_run [0] 8 (by kernel_rfl) (by kernel_rfl) (by kernel_rfl) (by kernel_rfl)).met)) F

set_option maxRecDepth 100000 in
theorem ahead_lifted (os : Os) (started : os.Started) (H : Type) (enc : TypeId × Value → H) :
    ReturnsInTold none {} Ybaf.checked os 3 .any Input.okWide ((OpenSpec.ofChange Rows.lawS1461BAheadSpec).preRow enc Ybaf.prog Ybaf.f3 [] false Rows.lawS1461BAheadRow.laid) (fun F => ((OpenSpec.ofChange Rows.lawS1461BAheadSpec).at F).post enc Ybaf.prog Ybaf.f3 false true false false) (aloneAtReturn Ybaf.prog) nothingAlways := by
  refine returnsInTold_of_row (C := Ybaf.checked) (s := OpenSpec.ofChange Rows.lawS1461BAheadSpec) (by kernel_rfl) Ybaf.own started (by kernel_rfl) Ybaf.func3 (witness_row os H enc) ?_
  intro F W base args ds gs before _ hF hval0 hW _ _ hsz hL _
  have hval : ∀ (j : Nat) t v, Ybaf.f3.params[j]? = some t → args[j]? = some v → Value.okWide Ybaf.prog W .any base t v := hval0
  have hW' := hW
  obtain ⟨p, q, hA0, hV, rfl, _, _⟩ := hW
  have hA : DataW.TrodAll enc Ybaf.prog W 0 (fun _ => true) true Ybaf.f3.params.toList args.toList ds p := hA0
  rw [Ybaf.params3] at hA hval
  obtain ⟨v0, v1, v2, d0, d1, d2, p0, p1, p2, rfl, rfl, rfl, h0, h1, h2⟩ := trodAll_three hA
  obtain ⟨rfl, rfl⟩ := trodVars_none hV
  obtain ⟨x, rfl, rfl, rfl, wx⟩ := open_int Ybaf.underlying22 (hval 0 22 v0 rfl rfl) h0
  obtain ⟨t, rfl, rfl, rfl, wt⟩ := open_int Ybaf.underlying5 (hval 1 5 v1 rfl rfl) h1
  obtain ⟨a0, len, cap, rfl⟩ := okWide_slice Ybaf.underlying23 (hval 2 23 v2 rfl rfl)
  have h2k := h2
  obtain ⟨fuel, hf⟩ := h2
  clear hA0 hval0
  simp only [List.append_nil, List.nil_append] at hW'
  have hlt : ∀ y ∈ p2, y.block < W.heap.size := fun y hy => by simpa using hW'.lt y hy
  have hargs : ∀ (W' : World), Below W.heap.size W W' → DataW.Trod enc Ybaf.prog W' 0 (fun b => decide (b < W.heap.size)) true 23 (.slice a0 len cap) d2 p2 :=
    fun W' hn => Below.trod Ybaf.laidOut (by kernel_rfl) (of_decide_eq_true (by kernel_rfl)) h2k hn hlt
  obtain ⟨rs, e0, w0, m0⟩ : ∃ rs : List Raw, rs.length = len ∧ IsRaw W a0 rs ∧ len ≤ maxLen := by
    rcases open_slice Ybaf.underlying23 hf with ⟨hcs, _⟩ | ⟨a, len', cap', m, n, D, Pl, hcs, _, hl, hm, hmm, _, hx⟩
    · simp [Value.cells] at hcs
      obtain ⟨rfl, rfl, rfl⟩ := hcs
      exact ⟨[], rfl, fun k f hk => by simp at hk, by simp⟩
    · simp [Value.cells] at hcs
      obtain ⟨rfl, rfl, rfl⟩ := hcs
      simp at hmm
      have each : ∀ i, i < len → ∃ f : Raw, W.cell? (a.add (i * 2)) = some (.int .u8 f.lv) ∧ W.cell? ((a.add (i * 2)).add 1) = some (.int .u8 f.rw) ∧ 0 ≤ f.lv ∧ f.lv ≤ 255 ∧ 0 ≤ f.rw ∧ f.rw ≤ 255 := by
        intro i hi
        obtain ⟨cs', hc, ht⟩ := hx i (by omega)
        rw [Ybaf.cells33] at hc
        obtain ⟨f, rfl, h1, h2, h3, h4⟩ := raw_open ht
        obtain ⟨_, _, hcc⟩ := World.cells?_some hc
        refine ⟨f, ?_, ?_, h1, h2, h3, h4⟩
        · have := hcc 0 (by omega); simpa [Addr.add] using this
        · have := hcc 1 (by omega); simpa using this
      have inh : Inhabited Raw := ⟨⟨0, 0⟩⟩
      obtain ⟨f, hf⟩ := choose_lt (α := Raw) each
      refine ⟨(List.range len).map f, by simp, fun k x hk => ?_, by omega⟩
      have hkl : k < len := by
        have := (List.getElem?_eq_some_iff.1 hk).1
        simpa using this
      simp [hkl] at hk
      subst hk
      obtain ⟨g0, g1, g3, g4, g5, g6⟩ := hf k hkl
      obtain ⟨b, off, spot⟩ := a
      have hspot : spot = none := by
        have := World.cell?_spot (hf 0 (by omega)).1
        simpa [Addr.add] using this
      subst hspot
      simp only [Go.WideShapes.add_plain] at g0 g1
      exact ⟨b, off, rfl, World.block_lt_of_cell? W ⟨b, off + k * 2, none⟩ g0, g0, g1, g3, g4, g5, g6⟩
  subst e0
  have bx : 0 ≤ x ∧ x < 18446744073709551616 := by
    have := wx
    simp [Lit.wf, IntKind.min, IntKind.max, IntKind.signed, IntKind.bits] at this
    omega
  have bt := bounds_u8 wt
  refine (lawB_walk x t a0 cap rs W bx.1 bx.2 bt.1 bt.2 w0 m0 (tab_of hL)).mono fun e W' ⟨he, hnx⟩ => ?_
  subst he
  exact ⟨_, rfl, _, _, _, [], _, [], hW', trodAll_mk1 (shut_bool Ybaf.underlying4 _), trodAll_mk3 (shut_int Ybaf.underlying22 wx) (shut_int Ybaf.underlying5 wt) (hargs _ hnx), rfl, hnx.frame _, fun h => by cases h⟩

theorem Ybaf.stops : Ybaf.pinned.checked.prog.stops = ["fmt.Sprintf"] := by kernel_rfl
theorem Ybaf.stopKnobs : Ybaf.pinned.checked.prog.stopKnobs = [] := by kernel_rfl
theorem Ybaf.quiet (os : Os) : Stop.quiet Ybaf.pinned.checked.prog os := by
  intro k hk
  rw [Ybaf.stopKnobs] at hk
  cases hk

theorem ahead_proved : Rows.LawS1461BAheadToldSaid :=
  Claim7.holds_of_told_tied_any_at .later 3 Ybaf.f3 "fmt.Sprintf" [] [] _ _ _ _ _ (by kernel_rfl) rfl rfl rfl Ybaf.laidOut (by kernel_rfl) rfl ⟨rfl, rfl, rfl, rfl, rfl, rfl, rfl⟩ rfl rfl (by kernel_rfl) (by kernel_rfl) Ybaf.func3 (by kernel_rfl)
    (of_decide_eq_true (by kernel_rfl)) (of_decide_eq_true (by kernel_rfl)) Ybaf.stops.symm rfl Ybaf.stopKnobs.symm (by kernel_rfl)
    (by kernel_rfl) (by kernel_rfl) (by kernel_rfl) (by kernel_rfl) (by kernel_rfl) (by kernel_rfl) (by kernel_rfl) (by kernel_rfl) (by kernel_rfl) rfl (by kernel_rfl) rfl rfl
    rfl rfl
    rfl (by kernel_rfl) (by kernel_rfl) (by kernel_rfl) (by decide) (by kernel_rfl) lawS1461BAhead_row_tie
    (OpenClaim.moreEntering_of (by kernel_rfl) (by kernel_rfl) (by kernel_rfl) (by kernel_rfl) (by kernel_rfl) (by kernel_rfl) (by kernel_rfl) (by kernel_rfl) (by kernel_rfl) (by kernel_rfl))
    ⟨_, WideRow.started_initial, Ybaf.quiet _⟩
    (fun os started _ H enc _ => ahead_lifted os started H enc)

#print axioms ahead_proved
end Go.Proofs.YbulkadfsFmt
