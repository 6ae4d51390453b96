import Derived.Test.YbulkadfsFmtThen
namespace Go.Proofs.YbulkadfsFmt
open Go.RowKit
set_option linter.unusedVariables false
attribute [local go_sem ↓] Go.wp_at_zero Go.wp_at_succ

structure PF where
  b : Int
  l : Int
  co : Option Addr
  kc : Nat

/-- The families of the law: each a tree node with one child. -/
def PFams (w : World) (ao : Option Addr) (ps : List PF) : Prop :=
  ∀ k f, ps[k]? = some f → ∃ g, ao = some ⟨g, 0, none⟩ ∧ g < w.heap.size ∧ w.cell? ⟨g, k * 5, none⟩ = some (.int .u64 f.b) ∧ w.cell? ⟨g, k * 5 + 1, none⟩ = some (.int .u8 f.l) ∧ w.cell? ⟨g, k * 5 + 2, none⟩ = some (.int .u8 0) ∧
    w.cell? ⟨g, k * 5 + 3, none⟩ = some (.int .u8 0) ∧ w.cell? ⟨g, k * 5 + 4, none⟩ = some (.slice f.co 1 f.kc) ∧ 0 ≤ f.l ∧ f.l ≤ 64
theorem PFams.below {w w' : World} {ao : Option Addr} {ps : List PF} (h : PFams w ao ps) (hb : Below w.heap.size w w') : PFams w' ao ps := fun k f hk => by
  obtain ⟨g, e, hg, c0, c1, c2, c3, c4, l0, l1⟩ := h k f hk
  exact ⟨g, e, Nat.lt_of_lt_of_le hg hb.size, cell_later hb c0, cell_later hb c1, cell_later hb c2, cell_later hb c3, cell_later hb c4, l0, l1⟩

def inside (ps : List PF) (tb tl : Int) : List PF := ps.filter (fun f => inB f.b f.l tb tl)
def zero8 : List Value := [.int .u64 0, .int .u8 0, .int .u8 0, .int .u8 0, .int .u64 0, .int .u8 0, .int .u8 0, .int .u8 0]
def pair8 (f g : PF) : List Value := [.int .u64 f.b, .int .u8 f.l, .int .u8 0, .int .u8 1, .int .u64 g.b, .int .u8 g.l, .int .u8 0, .int .u8 1]
/-- What extremesIn hands back. -/
def ExtIs (M : List PF) (E : List Value) : Prop := (M = [] ∧ E = zero8) ∨ ∃ f g, f ∈ M ∧ g ∈ M ∧ E = pair8 f g

theorem inside_take (ps : List PF) (tb tl : Int) (k : Nat) (f : PF) (h : ps[k]? = some f) : inside (ps.take (k + 1)) tb tl = inside (ps.take k) tb tl ++ (if inB f.b f.l tb tl then [f] else []) := by
  obtain ⟨hk, rfl⟩ := List.getElem?_eq_some_iff.1 h
  unfold inside
  rw [List.take_succ_eq_append_getElem hk, List.filter_append]
  congr 1
  simp [List.filter_cons]

structure EB (w : World) (n : Nat) (tb tl : Int) (E : List Value) (w' : World) : Prop where
  t : w'.heap[n]? = some (.cells #[.int .u64 tb, .int .u8 tl, .int .u8 0, .int .u8 0] 28 (0, 0))
  r : w'.heap[n + 1]? = some (.cells zero8.toArray 41 (0, 0))
  e : w'.heap[n + 2]? = some (.cells E.toArray 41 (0, 0))
  below : Below n w w'
theorem EB.step {w : World} {n : Nat} {tb tl : Int} {E : List Value} {W w' : World} (h : EB w n tb tl E W) (hb : Below W.heap.size W w') : EB w n tb tl E w' :=
  ⟨(hb.block _ (lt_of_block h.t)).trans h.t, (hb.block _ (lt_of_block h.r)).trans h.r, (hb.block _ (lt_of_block h.e)).trans h.e, h.below.trans (hb.mono (by have := lt_of_block h.t; omega))⟩

theorem cells4 {w : World} {b : Nat} {t : TypeId} {fr : Nat × Nat} {a0 a1 a2 a3 : Value} (h : w.heap[b]? = some (.cells #[a0, a1, a2, a3] t fr)) :
    w.cell? ⟨b, 0, none⟩ = some a0 ∧ w.cell? ⟨b, 1, none⟩ = some a1 ∧ w.cell? ⟨b, 2, none⟩ = some a2 ∧ w.cell? ⟨b, 3, none⟩ = some a3 :=
  ⟨box_cell h 0 rfl, box_cell h 1 rfl, box_cell h 2 rfl, box_cell h 3 rfl⟩
theorem cells5 {w : World} {b : Nat} {t : TypeId} {fr : Nat × Nat} {a0 a1 a2 a3 a4 : Value} (h : w.heap[b]? = some (.cells #[a0, a1, a2, a3, a4] t fr)) :
    w.cell? ⟨b, 0, none⟩ = some a0 ∧ w.cell? ⟨b, 1, none⟩ = some a1 ∧ w.cell? ⟨b, 2, none⟩ = some a2 ∧ w.cell? ⟨b, 3, none⟩ = some a3 ∧ w.cell? ⟨b, 4, none⟩ = some a4 :=
  ⟨box_cell h 0 rfl, box_cell h 1 rfl, box_cell h 2 rfl, box_cell h 3 rfl, box_cell h 4 rfl⟩

set_option maxHeartbeats 1000000 in
theorem in_any (w : World) (ao : Option Addr) (cap : Nat) (ps : List PF) (tb tl : Int) (hp : PFams w ao ps) (hl : ps.length ≤ 1024) (t0 : 0 ≤ tl) (t1 : tl ≤ 64) :
    Calls Ybaf.prog 11 #[.slice ao ps.length cap, .agg #[.int .u64 tb, .int .u8 tl, .int .u8 0, .int .u8 0]] w fun e w' => (∃ E, e = .returned (.agg E.toArray) ∧ ExtIs (inside ps tb tl) E) ∧ Below w.heap.size w w' := by
  have HLV : Hid (∀ f ∈ ps, 0 ≤ f.l ∧ f.l ≤ 64) := fun f hf => by
    obtain ⟨k, hk⟩ := List.getElem?_of_mem hf
    obtain ⟨g, _, _, _, _, _, _, _, l0, l1⟩ := hp k f hk
    exact ⟨l0, l1⟩
  go_enter Ybaf.func11, Ybaf.ntmps11
  go_wp2
  go_loopw [11] (fun i wr => ∃ (k : Nat) (E : List Value), k ≤ ps.length ∧ i = .int .i64 k ∧ ExtIs (inside (ps.take k) tb tl) E ∧ EB w w.heap.size tb tl E wr)
    (fun i _ => ps.length - (intOf i).toNat)
  case atStart =>
    refine ⟨0, zero8, Nat.zero_le _, rfl, .inl ⟨rfl, rfl⟩, ⟨?_, ?_, ?_, (((Below.refl _ _).alloc (Nat.le_refl _) _).alloc (by simp) _).alloc (by simp; omega) _⟩⟩
    · rw [Below.heap_alloc _ _ _ (by simp; omega), Below.heap_alloc _ _ _ (by simp)]; exact heap_alloc_new w _
    · rw [Below.heap_alloc _ _ _ (by simp)]
      have := heap_alloc_new (w.alloc (.cells #[.int .u64 tb, .int .u8 tl, .int .u8 0, .int .u8 0] 28)) (.cells zero8.toArray 41)
      rw [World.size_alloc] at this
      exact this
    · have := heap_alloc_new ((w.alloc (.cells #[.int .u64 tb, .int .u8 tl, .int .u8 0, .int .u8 0] 28)).alloc (.cells zero8.toArray 41)) (.cells zero8.toArray 41)
      rw [World.size_alloc, World.size_alloc] at this
      exact this
  case round =>
    obtain ⟨k, E, hk, rfl, hE, hB⟩ := hrel
    have hEH : Hid (ExtIs (inside (ps.take k) tb tl) E) := hE
    clear hE
    by_cases hkl : k < ps.length
    · obtain ⟨f, hf⟩ : ∃ f, ps[k]? = some f := ⟨ps[k], by simp [hkl]⟩
      obtain ⟨g, rfl, hg, c0, c1, c2, c3, c4, l0, l1⟩ := (hp.below hB.below) k f hf
      have HI : Hid (inside (ps.take (k + 1)) tb tl = inside (ps.take k) tb tl ++ (if inB f.b f.l tb tl then [f] else [])) := inside_take ps tb tl k f hf
      obtain ⟨z0, z1, z2, z3⟩ := cells4 hB.t
      have hlt := lt_of_block hB.t
      clear hf
      go_wp2_with fail
      refine (within_any f.b f.l tb tl _ l0 l1 t0 t1).mono ?_
      rintro e w2 ⟨rfl, hb2⟩
      have hcopy : w2.heap[wr.heap.size]? = some (.cells #[.int .u64 f.b, .int .u8 f.l, .int .u8 0, .int .u8 0, .slice f.co 1 f.kc] 37 (0, 0)) := by
        rw [hb2.block _ (by simp)]; exact heap_alloc_new wr _
      have hB2 : EB w w.heap.size tb tl E w2 := (hB.step ((Below.refl _ _).alloc (Nat.le_refl _) _)).step hb2
      clear hb2 hB z0 z1 z2 z3 c0 c1 c2 c3 c4
      cases hin : inB f.b f.l tb tl with
      | false =>
        go_wp2
        go_roundw
        case rel => exact ⟨k + 1, E, by omega, by go_num, by rw [HI.out, hin]; simpa using hEH.out, hB2⟩
        case measure => simp [intOf]; omega
      | true =>
        obtain ⟨y0, y1, y2, y3, y4⟩ := cells5 hcopy
        go_wp2_with fail
        refine (extremesOf1 f.b f.l w2).mono ?_
        rintro e w3 ⟨rfl, hb3⟩
        have hB3 := hB2.step hb3
        clear hB2 hb3 y0 y1 y2 y3 y4 hcopy
        rcases hEH.out with ⟨hM, rfl⟩ | ⟨f1, f2, hf1, hf2, rfl⟩
        · obtain ⟨q0, q1, q2, q3, q4, q5, q6, q7⟩ := cells8 (show w3.heap[w.heap.size + 2]? = some (.cells #[.int .u64 0, .int .u8 0, .int .u8 0, .int .u8 0, .int .u64 0, .int .u8 0, .int .u8 0, .int .u8 0] 41 (0, 0)) from hB3.e)
          have hlt3 := lt_of_block hB3.e
          go_wp2_with fail
          refine (known_any 0 0 0 0 0 0 0 0 _ (by omega)).mono ?_
          rintro e w4 ⟨rfl, hb4⟩
          have hown : w4.heap[w3.heap.size]? = some (.cells #[.int .u64 f.b, .int .u8 f.l, .int .u8 0, .int .u8 1, .int .u64 f.b, .int .u8 f.l, .int .u8 0, .int .u8 1] 41 (0, 0)) := by
            rw [hb4.block _ (by simp)]; exact heap_alloc_new w3 _
          have hB4 : EB w w.heap.size tb tl zero8 w4 := (hB3.step ((Below.refl _ _).alloc (Nat.le_refl _) _)).step hb4
          have hd : decide ((0 : Int) < 0) = false := rfl
          rw [hd]
          clear hb4 hB3 q0 q1 q2 q3 q4 q5 q6 q7
          obtain ⟨q0, q1, q2, q3, q4, q5, q6, q7⟩ := cells8 hown
          go_wp2_with (refine wpList_store_box rfl 41 (.tmp 5) (.tmp 31) rfl (w.heap.size + 1 + 1) 41 [] zero8 [] hB4.e 0 rfl #[.int .u64 f.b, .int .u8 f.l, .int .u8 0, .int .u8 1, .int .u64 f.b, .int .u8 f.l, .int .u8 0, .int .u8 1] rfl rfl rfl Ybaf.size41 (by simp [Value.oneCell']) ?_; intro w5 h5 o5)
          have hB5 : EB w w.heap.size tb tl (pair8 f f) w5 := ⟨(o5.block _ (lt_of_block hB4.t) (by simp; omega)).trans hB4.t, (o5.block _ (lt_of_block hB4.r) (by simp)).trans hB4.r, h5, hB4.below.trans (o5.below hB4.below.size (by simp; omega))⟩
          go_roundw
          case rel => exact ⟨k + 1, pair8 f f, by omega, by go_num, .inr ⟨f, f, by rw [HI.out, hin]; simp, by rw [HI.out, hin]; simp, rfl⟩, hB5⟩
          case measure => simp [intOf]; omega
        · obtain ⟨m1, m2⟩ : (0 ≤ f1.l ∧ f1.l ≤ 64) ∧ (0 ≤ f2.l ∧ f2.l ≤ 64) := ⟨HLV.out f1 (List.mem_of_mem_take (List.mem_filter.1 hf1).1), HLV.out f2 (List.mem_of_mem_take (List.mem_filter.1 hf2).1)⟩
          obtain ⟨q0, q1, q2, q3, q4, q5, q6, q7⟩ := cells8 (show w3.heap[w.heap.size + 2]? = some (.cells #[.int .u64 f1.b, .int .u8 f1.l, .int .u8 0, .int .u8 1, .int .u64 f2.b, .int .u8 f2.l, .int .u8 0, .int .u8 1] 41 (0, 0)) from hB3.e)
          have hlt3 := lt_of_block hB3.e
          go_wp2_with fail
          refine (known_any f1.b f1.l 0 1 f2.b f2.l 0 1 _ (by omega)).mono ?_
          rintro e w4 ⟨rfl, hb4⟩
          have hown : w4.heap[w3.heap.size]? = some (.cells #[.int .u64 f.b, .int .u8 f.l, .int .u8 0, .int .u8 1, .int .u64 f.b, .int .u8 f.l, .int .u8 0, .int .u8 1] 41 (0, 0)) := by
            rw [hb4.block _ (by simp)]; exact heap_alloc_new w3 _
          have hB4 : EB w w.heap.size tb tl (pair8 f1 f2) w4 := (hB3.step ((Below.refl _ _).alloc (Nat.le_refl _) _)).step hb4
          have hd : decide ((0 : Int) < 1) = true := rfl
          rw [hd]
          clear hb4 hB3 q0 q1 q2 q3 q4 q5 q6 q7
          obtain ⟨q0, q1, q2, q3, q4, q5, q6, q7⟩ := cells8 hown
          obtain ⟨s0, s1, s2, s3, s4, s5, s6, s7⟩ := cells8 (show w4.heap[w.heap.size + 2]? = some (.cells #[.int .u64 f1.b, .int .u8 f1.l, .int .u8 0, .int .u8 1, .int .u64 f2.b, .int .u8 f2.l, .int .u8 0, .int .u8 1] 41 (0, 0)) from hB4.e)
          go_wp2_with fail
          refine (then_any f1.b f1.l 0 1 f2.b f2.l 0 1 f.b f.l 0 1 f.b f.l 0 1 w4 (by omega) (by omega) (by omega) (by omega) (by omega) (by omega) (by omega) (by omega) (by omega) (by omega) (by omega) (by omega) (by omega) (by omega) (by omega) (by omega)).mono ?_
          rintro e w5 ⟨hex, hb5⟩
          obtain ⟨F1, F2, rfl, hF1, hF2⟩ : ∃ F1 F2 : PF, e = .returned (.agg (pair8 F1 F2).toArray) ∧ (F1 = f1 ∨ F1 = f) ∧ (F2 = f2 ∨ F2 = f) := by
            obtain ⟨b, l, i, c, b', l', i', c', h1, h2, rfl⟩ := hex
            rcases h1 with ⟨rfl, rfl, rfl, rfl⟩ | ⟨rfl, rfl, rfl, rfl⟩ <;> rcases h2 with ⟨rfl, rfl, rfl, rfl⟩ | ⟨rfl, rfl, rfl, rfl⟩
            · exact ⟨f1, f2, rfl, .inl rfl, .inl rfl⟩
            · exact ⟨f1, f, rfl, .inl rfl, .inr rfl⟩
            · exact ⟨f, f2, rfl, .inr rfl, .inl rfl⟩
            · exact ⟨f, f, rfl, .inr rfl, .inr rfl⟩
          have hB5 := hB4.step hb5
          clear hb5 hB4 q0 q1 q2 q3 q4 q5 q6 q7 s0 s1 s2 s3 s4 s5 s6 s7
          go_wp2_with (refine wpList_store_box rfl 41 (.tmp 5) (.tmp 30) rfl (w.heap.size + 1 + 1) 41 [] (pair8 f1 f2) [] hB5.e 0 rfl (pair8 F1 F2).toArray rfl rfl rfl Ybaf.size41 (by simp [pair8, Value.oneCell']) ?_; intro w6 h6 o6)
          have hB6 : EB w w.heap.size tb tl (pair8 F1 F2) w6 := ⟨(o6.block _ (lt_of_block hB5.t) (by simp; omega)).trans hB5.t, (o6.block _ (lt_of_block hB5.r) (by simp)).trans hB5.r, h6, hB5.below.trans (o6.below hB5.below.size (by simp; omega))⟩
          go_roundw
          case rel =>
            refine ⟨k + 1, pair8 F1 F2, by omega, by go_num, .inr ⟨F1, F2, ?_, ?_, rfl⟩, hB6⟩
            · rw [HI.out, hin]; rcases hF1 with rfl | rfl
              · simp [hf1]
              · simp
            · rw [HI.out, hin]; rcases hF2 with rfl | rfl
              · simp [hf2]
              · simp
          case measure => simp [intOf]; omega
    · have hke : ps.take k = ps := List.take_of_length_le (by omega)
      have hE := hEH.out
      rw [hke] at hE
      rcases hE with ⟨hM, rfl⟩ | ⟨f1, f2, hf1, hf2, rfl⟩
      · obtain ⟨q0, q1, q2, q3, q4, q5, q6, q7⟩ := cells8 (show wr.heap[w.heap.size + 2]? = some (.cells #[.int .u64 0, .int .u8 0, .int .u8 0, .int .u8 0, .int .u64 0, .int .u8 0, .int .u8 0, .int .u8 0] 41 (0, 0)) from hB.e)
        go_wp2_with (refine wpList_store_box rfl 41 (.tmp 4) (.tmp 33) rfl (w.heap.size + 1) 41 [] zero8 [] hB.r 0 rfl #[.int .u64 0, .int .u8 0, .int .u8 0, .int .u8 0, .int .u64 0, .int .u8 0, .int .u8 0, .int .u8 0] rfl rfl rfl Ybaf.size41 (by simp [Value.oneCell']) ?_; intro w5 h5 o5)
        obtain ⟨s0, s1, s2, s3, s4, s5, s6, s7⟩ := cells8 (show w5.heap[w.heap.size + 1]? = some (.cells #[.int .u64 0, .int .u8 0, .int .u8 0, .int .u8 0, .int .u64 0, .int .u8 0, .int .u8 0, .int .u8 0] 41 (0, 0)) from h5)
        exact bodyPost_ret (v := .agg #[.int .u64 0, .int .u8 0, .int .u8 0, .int .u8 0, .int .u64 0, .int .u8 0, .int .u8 0, .int .u8 0]) (by simp [results, Ybaf.results11, go_sem, s0, s1, s2, s3, s4, s5, s6, s7]) rfl ⟨⟨zero8, rfl, .inl ⟨by first | rfl | exact hM, rfl⟩⟩, hB.below.trans (o5.below hB.below.size (by simp))⟩
      · obtain ⟨q0, q1, q2, q3, q4, q5, q6, q7⟩ := cells8 (show wr.heap[w.heap.size + 2]? = some (.cells #[.int .u64 f1.b, .int .u8 f1.l, .int .u8 0, .int .u8 1, .int .u64 f2.b, .int .u8 f2.l, .int .u8 0, .int .u8 1] 41 (0, 0)) from hB.e)
        go_wp2_with (refine wpList_store_box rfl 41 (.tmp 4) (.tmp 33) rfl (w.heap.size + 1) 41 [] zero8 [] hB.r 0 rfl #[.int .u64 f1.b, .int .u8 f1.l, .int .u8 0, .int .u8 1, .int .u64 f2.b, .int .u8 f2.l, .int .u8 0, .int .u8 1] rfl rfl rfl Ybaf.size41 (by simp [Value.oneCell']) ?_; intro w5 h5 o5)
        obtain ⟨s0, s1, s2, s3, s4, s5, s6, s7⟩ := cells8 (show w5.heap[w.heap.size + 1]? = some (.cells #[.int .u64 f1.b, .int .u8 f1.l, .int .u8 0, .int .u8 1, .int .u64 f2.b, .int .u8 f2.l, .int .u8 0, .int .u8 1] 41 (0, 0)) from h5)
        exact bodyPost_ret (v := .agg #[.int .u64 f1.b, .int .u8 f1.l, .int .u8 0, .int .u8 1, .int .u64 f2.b, .int .u8 f2.l, .int .u8 0, .int .u8 1]) (by simp [results, Ybaf.results11, go_sem, s0, s1, s2, s3, s4, s5, s6, s7]) rfl ⟨⟨pair8 f1 f2, rfl, .inr ⟨f1, f2, hf1, hf2, rfl⟩⟩, hB.below.trans (o5.below hB.below.size (by simp))⟩
end Go.Proofs.YbulkadfsFmt
