import Derived.Test.YbulkadfsRows
import Derived.Test.YbulkadfsTally
import Derived.WalkKit
import Derived.ProofKit
import Derived.OpenShut
import Derived.ShutString
import Derived.ChangeOld
import Derived.Below
namespace Go.Proofs.Ybulkadfs.lawS1461ASeq
open Go.ChangeShapes Go.WideShapes Go.ChangeAt Go.RowKit
open Go.ChangeMaps (open_string shut_string)
set_option linter.unusedVariables false

theorem own : ownKnob Yba.prog.godebug = none := by kernel_rfl
theorem laidOut : laidOutB Yba.prog = true := by kernel_rfl

/-- WHAT THE WALK IS TOLD OF A SLICE OF INTEGERS THAT CAME IN: it is nil; or it leads to a row of 'cap' cells, the numbers 'zs' (the first 'len' are its elements, the rest its spare room), each fitting its kind. -/
def IsRow (k : IntKind) (w : World) (a : Option Addr) (len cap : Nat) (zs : List Int) : Prop :=
  (a = none ∧ len = 0 ∧ cap = 0 ∧ zs = []) ∨
  ∃ x, a = some x ∧ len ≤ cap ∧ cap ≤ maxLen ∧ zs.length = cap ∧ (∀ i, i < zs.length → w.cell? (x.add i) = some (.int k (zs.getD i 0))) ∧ ∀ n ∈ zs, (Lit.int k n).wf = true

/-! ### STEP 1: THE WALK: the Go text returns true, AND WRITES NOTHING THAT WAS THERE: 'Below w.heap.size w w'' (Derived/Below.lean: '.refl', '.alloc', '.drew', '.setCell' at a new block, '.trans'). Open each 'IsRow' by 'rcases' AHEAD of 'go_enter'; part every test ahead of the walk. -/
theorem walk (a0 : Option Addr) (len0 cap0 : Nat) (z0 : List Int) (w : World) (w0 : IsRow .i64 w a0 len0 cap0 z0) :
    Calls Yba.prog 4 #[.slice a0 len0 cap0] w fun e w' => e = .returned (.bool true) ∧ Below w.heap.size w w' := by
  unfold IsRow at w0
  by_cases h1 : 1024 < len0
  · have h1' : (1024 : Int) < (len0 : Int) := by omega
    have hlen : len0 ≤ 9223372036854775807 := by
      rcases w0 with ⟨_, rfl, _⟩ | ⟨x, _, hl, hm, _⟩
      · omega
      · unfold maxLen at hm; omega
    go_enter Yba.func4, Yba.ntmps4
    go_wp2
    go_ret
    exact ⟨rfl, Below.refl _ _⟩
  · have h1' : ¬ (1024 : Int) < (len0 : Int) := by omega
    have hcell : ∀ k, k < len0 → ∃ b off, a0 = some ⟨b, off, none⟩ ∧ w.cell? ⟨b, off + k, none⟩ = some (.int .i64 (z0.getD k 0)) := by
      intro k hk
      rcases w0 with ⟨_, rfl, _⟩ | ⟨x, rfl, hl, hm, hz, hc, hw⟩
      · omega
      · obtain ⟨b, off, rfl, hc'⟩ := ints_at hc (by omega)
        exact ⟨b, off, rfl, hc' k (by omega)⟩
    clear w0
    go_enter Yba.func4, Yba.ntmps4
    go_wp2
    go_loopw [4, 5, 6] (fun s m i wr => ∃ (k : Nat) (S M : Int), k ≤ len0 ∧ i = .int .i64 k ∧ s = .int .i64 S ∧ m = .int .i64 M ∧ TallyIs wr w.heap.size k S M ∧ Below w.heap.size w wr)
      (fun _ _ i _ => len0 - (intOf i).toNat)
    case atStart => exact ⟨0, 0, 0, Nat.zero_le _, rfl, rfl, rfl, heap_alloc_new w _, (Below.refl _ _).alloc (Nat.le_refl _) _⟩
    case round =>
      obtain ⟨k, S, M, hk, rfl, rfl, rfl, ht, hb⟩ := hrel
      by_cases hlt : k < len0
      · obtain ⟨b, off, rfl, hc⟩ := hcell k hlt
        have hck := hb.cell (p := ⟨b, off + k, none⟩) (World.block_lt_of_cell? w _ hc)
        rw [hc] at hck
        generalize z0.getD k 0 = x at hck hc
        have hckl : ∀ w1, Below w.heap.size w w1 → w1.cell? ⟨b, off + k, none⟩ = some (.int .i64 x) := fun w1 hb1 => (hb1.cell (p := ⟨b, off + k, none⟩) (World.block_lt_of_cell? w _ hc)).trans hc
        have hkk : wrap64 ((k : Int) + 1) = ((k + 1 : Nat) : Int) := by rw [IntWalk.wrap64_in _ ⟨by omega, by omega⟩]; omega
        have HK : Hid (wrap64 ((k : Int) + 1) = ((k + 1 : Nat) : Int)) := hkk
        have HC : Hid (∀ w1, Below w.heap.size w w1 → w1.cell? ⟨b, off + k, none⟩ = some (.int .i64 x)) := hckl
        clear hkk hckl hcell hc
        by_cases hm : M < x
        · have hmx : maxOf M x = x := by unfold maxOf; rw [if_pos hm]
          go_wp2_with fail
          refine (add_any wr w.heap.size k S M x ht w.heap.size (Nat.le_refl _)).mono ?_
          rintro e w1 ⟨rfl, ht1, hb1⟩
          rw [hmx, HK.out] at ht1
          have hb2 : Below w.heap.size w w1 := hb.trans hb1
          have hc1 := HC.out w1 hb2
          clear ht hb1 hck
          go_wp2
          go_roundw
          case rel => exact ⟨k + 1, wrap64 (S + x), x, by omega, by go_num, rfl, rfl, ht1, hb2⟩
          case measure => simp [intOf]; omega
        · have hmx : maxOf M x = M := by unfold maxOf; rw [if_neg hm]
          go_wp2_with fail
          refine (add_any wr w.heap.size k S M x ht w.heap.size (Nat.le_refl _)).mono ?_
          rintro e w1 ⟨rfl, ht1, hb1⟩
          rw [hmx, HK.out] at ht1
          have hb2 : Below w.heap.size w w1 := hb.trans hb1
          have hc1 := HC.out w1 hb2
          clear ht hb1 hck
          go_wp2
          go_roundw
          case rel => exact ⟨k + 1, wrap64 (S + x), M, by omega, by go_num, rfl, rfl, ht1, hb2⟩
          case measure => simp [intOf]; omega
      · have hke : k = len0 := by omega
        subst hke
        obtain ⟨c0, c1, c2, _⟩ := ht.cells
        go_wp2
        go_ret
        exact ⟨by simp, hb⟩

/-! ### THE ROW's STEP: WRITTEN OUT: LEAVE IT -/
set_option maxRecDepth 100000 in
theorem lifted (os : Os) (started : os.Started) (H : Type) (enc : TypeId × Value → H) :
    ReturnsInHanded {} Yba.checked os 4 .any (Rows.lawS1461ASeqSpec.pre6 enc Yba.prog Yba.f4 Rows.lawS1461ASeqRow.domain false) (Rows.lawS1461ASeqSpec.post enc Yba.prog Yba.f4 false true false false) := by
  refine returnsInHanded_of_change (C := Yba.checked) own started (by kernel_rfl) Yba.func4
    (ChangeSpec.witness6 (enc := enc) (C := Yba.checked) false ⟨#[], #[.slice none 0 0], []⟩ 8 (by kernel_rfl) (by kernel_rfl) (by kernel_rfl) (by kernel_rfl)) ?_
  intro W base args ds gs before hval0 hW hcnd _
  have hval : ∀ (j : Nat) t v, Yba.f4.params[j]? = some t → args[j]? = some v → Value.okWide Yba.prog W .any base t v := hval0
  have hW' := hW
  obtain ⟨p, q, hA0, hV, rfl, hfz, hnd⟩ := hW
  have hA : DataW.TrodAll enc Yba.prog W 0 (fun _ => true) true Yba.f4.params.toList args.toList ds p := hA0
  rw [Yba.params4] at hA hval
  obtain ⟨v0, vs0, d0, ds0, p0, q0, hargs, rfl, rfl, h0, r0⟩ := trodAll_cons hA
  obtain ⟨rfl, rfl, rfl⟩ := trodAll_nil r0
  obtain rfl : args = #[v0] := by cases args; simp_all
  obtain ⟨rfl, rfl⟩ := trodVars_none hV
  obtain ⟨a0, len0, cap0, rfl⟩ := okWide_slice Yba.underlying26 (hval 0 26 v0 rfl rfl)
  have k0 := h0
  have lt0 : ∀ x ∈ p0, x.block < W.heap.size := by obtain ⟨m, hm⟩ := k0; exact DataW.trod_lt m _ _ _ hm
  obtain ⟨z0, w0⟩ : ∃ zs, IsRow .i64 W a0 len0 cap0 zs := by
    obtain ⟨fuel, hf⟩ := h0
    rcases open_ints Yba.underlying26 Yba.underlying3 (by kernel_rfl) hf with ⟨hcs, _⟩ | ⟨x, l, c, zs, hcs, _, hl, hm, hz, _, hcell, hwz⟩
    · simp [Value.cells] at hcs
      obtain ⟨rfl, rfl, rfl⟩ := hcs
      exact ⟨[], .inl ⟨rfl, rfl, rfl, rfl⟩⟩
    · simp [Value.cells] at hcs
      obtain ⟨rfl, rfl, rfl⟩ := hcs
      exact ⟨zs, .inr ⟨_, rfl, hl, hm, by simpa using hz, hcell, hwz⟩⟩
  clear hA0 hval0
  refine (walk a0 len0 cap0 z0 W w0).mono fun e W' ⟨he, bel⟩ => ?_
  subst he
  exact ⟨_, rfl, _, _, _, [], _, [], hW', trodAll_mk1 (shut_bool Yba.underlying4 _), (trodAll_cons_mk (Below.trod laidOut (by kernel_rfl) (of_decide_eq_true (by kernel_rfl)) k0 bel lt0) trodAll_mk0), rfl, bel.frame _, fun h => by cases h⟩

theorem over : Rows.lawS1461ASeqRow.holds Yba.pinned (OpenSpec.ofChange Rows.lawS1461ASeqSpec) :=
  OpenClaim.holds_of_wide 4 Yba.f4 rfl rfl rfl rfl rfl rfl rfl ⟨rfl, rfl, rfl, rfl, rfl⟩ rfl rfl rfl rfl rfl (by kernel_rfl) Yba.func4 (by kernel_rfl)
    (of_decide_eq_true (by kernel_rfl)) (by unfold Func.isWrapper; first | (rw [if_pos (by decide +kernel)]; kernel_rfl) | (rw [if_neg (by decide +kernel)]; exact ⟨rfl, rfl⟩))
    (fun os started H enc _ => lifted os started H enc)

/-- ████ THE STATEMENT ████ -/
theorem proved : Rows.LawS1461ASeqSaid := over
end Go.Proofs.Ybulkadfs.lawS1461ASeq

namespace Go.Proofs.Ybulkadfs
theorem seq_proved : Rows.LawS1461ASeqSaid := lawS1461ASeq.proved
#print axioms seq_proved
end Go.Proofs.Ybulkadfs
