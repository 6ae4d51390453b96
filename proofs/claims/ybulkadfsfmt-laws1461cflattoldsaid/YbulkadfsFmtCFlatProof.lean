import Derived.Test.YbulkadfsFmtRows
import Derived.Test.YbulkadfsFmtCards
import Derived.Test.YbulkadfsFmtFlat
import Derived.ProofKit
import Derived.ChangeSlices
import Derived.ChangeSame
import Derived.ChangeMaps5
import Derived.JoinedOf
import Derived.Carry
import Derived.Stop.JoinedAt
import Derived.Stop.Texts
import Derived.Stop.JoinedTold
import Derived.SizedLaws
import Derived.SevenToldRow
import Derived.OpenShut
import Derived.Deep.Slices
import Derived.Deep.Strs
namespace Go.Proofs.YbulkadfsFmt
open Go.ChangeShapes Go.WideShapes Go.ChangeAt Go.RowKit Go.Kit Go.Deep
open Go.Extern.Stop Go.Stop Go.Extern
set_option linter.unusedVariables false

theorem Ybaf.own : ownKnob Ybaf.prog.godebug = none := by kernel_rfl
theorem Ybaf.laidOut : laidOutB Ybaf.pinned.checked.prog = true := by kernel_rfl
theorem Ybaf.cells54 : Ybaf.prog.cellsOf 54 = 3 := by kernel_rfl
theorem Ybaf.cells9 : Ybaf.prog.cellsOf 9 = 1 := by kernel_rfl
theorem Ybaf.cells22 : Ybaf.prog.cellsOf 22 = 1 := by kernel_rfl
theorem Ybaf.cells5 : Ybaf.prog.cellsOf 5 = 1 := by kernel_rfl
theorem Ybaf.cells52 : Ybaf.prog.cellsOf 52 = 1 := by kernel_rfl

/-- One element of the argument. -/
theorem fam_open {H : Type} {enc : TypeId × Value → H} {W : World} {n : Nat} {x : DataW H × List MemPlace} {cs : List Value} (h : DataW.trod enc Ybaf.prog W 0 (fun _ => true) true n 54 cs = some x) :
    ∃ f : FamIn, cs = [.int .u64 f.bits, .int .u8 f.level, .slice f.ao f.cs.length f.cc] ∧ IsStrs W f.ao f.cs ∧ 0 ≤ f.level ∧ f.level ≤ 255 ∧ f.cs.length ≤ maxLen := by
  obtain ⟨y0, y1, y2, m, rfl, hl, t0, t1, t2⟩ := trod_struct3 Ybaf.underlying54 h
  rw [Ybaf.cells54] at hl
  match cs, hl with
  | [c0, c1, c2], _ =>
    simp only [Ybaf.cells22, Ybaf.cells5, Ybaf.cells52, List.drop_zero, List.drop_succ_cons, List.take_succ_cons, List.take_zero] at t0 t1 t2
    obtain ⟨b, e0, _, wb⟩ := DataW.trod_int Ybaf.underlying22 t0
    obtain ⟨l, e1, _, wl⟩ := DataW.trod_int Ybaf.underlying5 t1
    simp at e0 e1
    subst e0 e1
    have bl := bounds_u8 wl
    rcases open_strs Ybaf.underlying52 Ybaf.underlying9 Ybaf.cells9 t2 with ⟨e, _⟩ | ⟨a, len, cap, mm, Sx, e, _, h1, h2, h3, _, hx⟩
    · simp at e
      subst e
      exact ⟨⟨b, l, none, [], 0⟩, rfl, fun k hk => by simp at hk, bl.1, bl.2, by simp⟩
    · simp at e
      subst e
      refine ⟨⟨b, l, some a, (List.range len).map Sx, cap⟩, by simp, ?_, bl.1, bl.2, by simp; omega⟩
      intro k hk
      simp at hk
      simp at h3
      obtain ⟨bb, off, spot⟩ := a
      have hspot : spot = none := by simpa [Addr.add] using World.cell?_spot (hx 0 (by omega)).1
      subst hspot
      refine ⟨bb, off, rfl, fun i hi => ?_⟩
      simp at hi
      have := (hx i (by omega)).1
      rw [Go.WideShapes.add_plain] at this
      rw [this]
      simp [List.getD, hi]

set_option maxRecDepth 100000 in
theorem flat_lifted (os : Os) (started : os.Started) (H : Type) (enc : TypeId × Value → H) :
    ReturnsInTold none {} Ybaf.checked os 4 .any Input.okWide ((OpenSpec.ofChange Rows.lawS1461CFlatSpec).preRow enc Ybaf.prog Ybaf.f4 [] false []) (fun F => ((OpenSpec.ofChange Rows.lawS1461CFlatSpec).at F).post enc Ybaf.prog Ybaf.f4 false true false false) (aloneAtReturn Ybaf.prog) nothingAlways := by
  refine returnsInTold_of_row (C := Ybaf.checked) (s := OpenSpec.ofChange Rows.lawS1461CFlatSpec) (by kernel_rfl) Ybaf.own started (by kernel_rfl) Ybaf.func4
    (OpenSpec.witness_stopped (enc := enc) (C := Ybaf.checked) false ⟨#[], #[.slice none 0 0], []⟩ 8 (by kernel_rfl) (by kernel_rfl) (by kernel_rfl) (by kernel_rfl)) ?_
  intro F W base args ds gs before _ hF hval0 hW _ _ hsz _ _
  have hval : ∀ (j : Nat) t v, Ybaf.f4.params[j]? = some t → args[j]? = some v → Value.okWide Ybaf.prog W .any base t v := hval0
  have hW' := hW
  obtain ⟨p, q, hA0, hV, rfl, _, _⟩ := hW
  have hA : DataW.TrodAll enc Ybaf.prog W 0 (fun _ => true) true Ybaf.f4.params.toList args.toList ds p := hA0
  rw [Ybaf.params4] at hA hval
  obtain ⟨v0, d0, rfl, rfl, h0⟩ := trodAll_one hA
  obtain ⟨rfl, rfl⟩ := trodVars_none hV
  obtain ⟨a0, len, cap, rfl⟩ := okWide_slice Ybaf.underlying43 (hval 0 43 v0 rfl rfl)
  have h0k := h0
  obtain ⟨fuel, hf⟩ := h0
  clear hA0 hval0
  simp only [List.append_nil] at hW'
  have hlt : ∀ x ∈ p, x.block < W.heap.size := fun x hx => by simpa using hW'.lt x hx
  have hargs : ∀ (W' : World), Below W.heap.size W W' → DataW.Trod enc Ybaf.prog W' 0 (fun b => decide (b < W.heap.size)) true 43 (.slice a0 len cap) d0 p :=
    fun W' hn => Below.trod Ybaf.laidOut (by kernel_rfl) (of_decide_eq_true (by kernel_rfl)) h0k hn hlt
  obtain ⟨fi, e0, w0, m0⟩ : ∃ fi : List FamIn, fi.length = len ∧ IsFams W a0 fi ∧ len ≤ maxLen := by
    rcases open_slice Ybaf.underlying43 hf with ⟨hcs, _⟩ | ⟨a, len', cap', m, n, D, Pl, hcs, _, hl, hm, hmm, _, hx⟩
    · simp [Value.cells] at hcs
      obtain ⟨rfl, rfl, rfl⟩ := hcs
      exact ⟨[], rfl, fun k f hk => by simp at hk, by simp⟩
    · simp [Value.cells] at hcs
      obtain ⟨rfl, rfl, rfl⟩ := hcs
      simp at hmm
      have each : ∀ i, i < len → ∃ f : FamIn, W.cell? (a.add (i * 3)) = some (.int .u64 f.bits) ∧ W.cell? ((a.add (i * 3)).add 1) = some (.int .u8 f.level) ∧ W.cell? ((a.add (i * 3)).add 2) = some (.slice f.ao f.cs.length f.cc) ∧
          IsStrs W f.ao f.cs ∧ 0 ≤ f.level ∧ f.level ≤ 255 ∧ f.cs.length ≤ maxLen := by
        intro i hi
        obtain ⟨cs', hc, ht⟩ := hx i (by omega)
        rw [Ybaf.cells54] at hc
        obtain ⟨f, rfl, h1, h2, h3, h4⟩ := fam_open ht
        obtain ⟨_, _, hcc⟩ := World.cells?_some hc
        refine ⟨f, ?_, ?_, ?_, h1, h2, h3, h4⟩
        · have := hcc 0 (by omega); simpa [Addr.add] using this
        · have := hcc 1 (by omega); simpa using this
        · have := hcc 2 (by omega); simpa using this
      have inh : Inhabited FamIn := ⟨⟨0, 0, none, [], 0⟩⟩
      obtain ⟨f, hf⟩ := choose_lt (α := FamIn) each
      refine ⟨(List.range len).map f, by simp, fun k x hk => ?_, by omega⟩
      have hkl : k < len := by
        have := (List.getElem?_eq_some_iff.1 hk).1
        simpa using this
      simp [hkl] at hk
      subst hk
      obtain ⟨g0, g1, g2, g3, g4, g5, g6⟩ := hf k hkl
      obtain ⟨b, off, spot⟩ := a
      have hspot : spot = none := by
        have := World.cell?_spot (hf 0 (by omega)).1
        simpa [Addr.add] using this
      subst hspot
      simp only [Go.WideShapes.add_plain] at g0 g1 g2
      exact ⟨b, off, rfl, World.block_lt_of_cell? W ⟨b, off + k * 3, none⟩ g0, g0, g1, g2, g3, g4, g5, g6⟩
  subst e0
  refine (flat_walk a0 cap fi W w0 m0).mono fun e W' ⟨he, hnx⟩ => ?_
  subst he
  exact ⟨_, rfl, _, _, _, [], _, [], hW', trodAll_mk1 (shut_bool Ybaf.underlying4 _), trodAll_mk1 (hargs _ hnx), rfl, hnx.frame _, fun h => by cases h⟩

theorem Ybaf.stops : Ybaf.pinned.checked.prog.stops = ["fmt.Sprintf"] := by kernel_rfl
theorem Ybaf.stopKnobs : Ybaf.pinned.checked.prog.stopKnobs = [] := by kernel_rfl
theorem Ybaf.quiet (os : Os) : Stop.quiet Ybaf.pinned.checked.prog os := by
  intro k hk
  rw [Ybaf.stopKnobs] at hk
  cases hk

theorem flat_proved : Rows.LawS1461CFlatToldSaid :=
  Claim7.holds_of_told_any 4 Ybaf.f4 "fmt.Sprintf" [] [] _ _ _ (by kernel_rfl) rfl rfl rfl Ybaf.laidOut (by kernel_rfl) rfl ⟨rfl, rfl, rfl, rfl, rfl, rfl, rfl⟩ rfl rfl (by kernel_rfl) (by kernel_rfl) Ybaf.func4 (by kernel_rfl)
    (of_decide_eq_true (by kernel_rfl)) (of_decide_eq_true (by kernel_rfl)) Ybaf.stops.symm rfl Ybaf.stopKnobs.symm (by kernel_rfl)
    (by kernel_rfl) (by kernel_rfl) (by kernel_rfl) (by kernel_rfl) (by kernel_rfl) (by kernel_rfl) (by kernel_rfl) (by kernel_rfl) (by kernel_rfl) rfl (by kernel_rfl) rfl rfl
    rfl rfl
    rfl (by kernel_rfl) (by kernel_rfl) (by kernel_rfl) (by decide) (by kernel_rfl)
    (OpenClaim.moreEntering_of (by kernel_rfl) (by kernel_rfl) (by kernel_rfl) (by kernel_rfl) (by kernel_rfl) (by kernel_rfl) (by kernel_rfl) (by kernel_rfl) (by kernel_rfl) (by kernel_rfl))
    ⟨_, WideRow.started_initial, Ybaf.quiet _⟩
    (fun os started _ H enc _ => flat_lifted os started H enc)

#print axioms flat_proved
end Go.Proofs.YbulkadfsFmt
