import Derived.Test.YbulkadfsFmtBox
namespace Go.Proofs.YbulkadfsFmt
open Go.RowKit
set_option linter.unusedVariables false
attribute [local go_sem ↓] Go.wp_at_zero Go.wp_at_succ

theorem cells8 {w : World} {b : Nat} {t : TypeId} {fr : Nat × Nat} {a0 a1 a2 a3 a4 a5 a6 a7 : Value} (h : w.heap[b]? = some (.cells #[a0, a1, a2, a3, a4, a5, a6, a7] t fr)) :
    w.cell? ⟨b, 0, none⟩ = some a0 ∧ w.cell? ⟨b, 1, none⟩ = some a1 ∧ w.cell? ⟨b, 2, none⟩ = some a2 ∧ w.cell? ⟨b, 3, none⟩ = some a3 ∧ w.cell? ⟨b, 4, none⟩ = some a4 ∧ w.cell? ⟨b, 5, none⟩ = some a5 ∧ w.cell? ⟨b, 6, none⟩ = some a6 ∧ w.cell? ⟨b, 7, none⟩ = some a7 :=
  ⟨box_cell h 0 rfl, box_cell h 1 rfl, box_cell h 2 rfl, box_cell h 3 rfl, box_cell h 4 rfl, box_cell h 5 rfl, box_cell h 6 rfl, box_cell h 7 rfl⟩

/-- Three boxes of 'then', and the frame. -/
structure TB (w : World) (n m r : Nat) (E F R : Array Value) (w' : World) : Prop where
  e : w'.heap[n]? = some (.cells E 41 (0, 0))
  f : w'.heap[m]? = some (.cells F 41 (0, 0))
  r : w'.heap[r]? = some (.cells R 41 (0, 0))
  below : Below w.heap.size w w'
theorem TB.drew {w : World} {n m r : Nat} {E F R : Array Value} {w' : World} (h : TB w n m r E F R w') : TB w n m r E F R w'.drew := ⟨h.e, h.f, h.r, h.below.drew⟩
theorem TB.step {w : World} {n m r : Nat} {E F R : Array Value} {W w' : World} (h : TB w n m r E F R W) (hb : Below W.heap.size W w') : TB w n m r E F R w' :=
  ⟨(hb.block _ (lt_of_block h.e)).trans h.e, (hb.block _ (lt_of_block h.f)).trans h.f, (hb.block _ (lt_of_block h.r)).trans h.r, h.below.trans (hb.mono h.below.size)⟩

theorem Ybaf.size41 : (Ybaf.prog.info? 41).map (·.size) = some 8 := by kernel_rfl
theorem Ybaf.size28 : (Ybaf.prog.info? 28).map (·.size) = some 4 := by kernel_rfl

set_option maxHeartbeats 1000000 in
theorem then_any (b1 l1 i1 c1 b1' l1' i1' c1' b2 l2 i2 c2 b2' l2' i2' c2' : Int) (w : World) (hc1 : 0 < c1) (hc2 : 0 < c2) (u1 : c1 ≤ 255) (u2 : c2 ≤ 255) (v1 : 0 ≤ l1) (v2 : l1 ≤ 255) (v3 : 0 ≤ l2) (v4 : l2 ≤ 255)
    (x1 : 0 ≤ c1') (x2 : c1' ≤ 255) (x3 : 0 ≤ c2') (x4 : c2' ≤ 255) (y1 : 0 ≤ l1') (y2 : l1' ≤ 255) (y3 : 0 ≤ l2') (y4 : l2' ≤ 255) :
    Calls Ybaf.prog 17 #[.agg #[.int .u64 b1, .int .u8 l1, .int .u8 i1, .int .u8 c1, .int .u64 b1', .int .u8 l1', .int .u8 i1', .int .u8 c1'], .agg #[.int .u64 b2, .int .u8 l2, .int .u8 i2, .int .u8 c2, .int .u64 b2', .int .u8 l2', .int .u8 i2', .int .u8 c2']] w fun e w' =>
      (∃ b l i c b' l' i' c', ((b = b1 ∧ l = l1 ∧ i = i1 ∧ c = c1) ∨ (b = b2 ∧ l = l2 ∧ i = i2 ∧ c = c2)) ∧ ((b' = b1' ∧ l' = l1' ∧ i' = i1' ∧ c' = c1') ∨ (b' = b2' ∧ l' = l2' ∧ i' = i2' ∧ c' = c2')) ∧
        e = .returned (.agg #[.int .u64 b, .int .u8 l, .int .u8 i, .int .u8 c, .int .u64 b', .int .u8 l', .int .u8 i', .int .u8 c'])) ∧ Below w.heap.size w w' := by
  have k1 : decide (0 < c1) = true := by simpa using hc1
  have k2 : decide (0 < c2) = true := by simpa using hc2
  obtain ⟨n, hn⟩ : ∃ n, n = w.heap.size := ⟨_, rfl⟩
  go_enter Ybaf.func17, Ybaf.ntmps17
  go_wp2_with fail
  refine (known_any _ _ _ _ _ _ _ _ _ (by omega)).mono ?_
  rintro e w2 ⟨rfl, hb2⟩
  rw [k1]
  have e2 : w2.heap[w.heap.size]? = some (.cells #[.int .u64 b1, .int .u8 l1, .int .u8 i1, .int .u8 c1, .int .u64 b1', .int .u8 l1', .int .u8 i1', .int .u8 c1'] 41 (0, 0)) := by
    rw [hb2.block _ (by simp; omega), Below.heap_alloc _ _ _ (by simp; omega), Below.heap_alloc _ _ _ (by simp)]
    exact heap_alloc_new w _
  have f2 : w2.heap[w.heap.size + 1]? = some (.cells #[.int .u64 b2, .int .u8 l2, .int .u8 i2, .int .u8 c2, .int .u64 b2', .int .u8 l2', .int .u8 i2', .int .u8 c2'] 41 (0, 0)) := by
    rw [hb2.block _ (by simp), Below.heap_alloc _ _ _ (by simp)]
    have := heap_alloc_new (w.alloc (.cells #[.int .u64 b1, .int .u8 l1, .int .u8 i1, .int .u8 c1, .int .u64 b1', .int .u8 l1', .int .u8 i1', .int .u8 c1'] 41)) (.cells #[.int .u64 b2, .int .u8 l2, .int .u8 i2, .int .u8 c2, .int .u64 b2', .int .u8 l2', .int .u8 i2', .int .u8 c2'] 41)
    rw [World.size_alloc] at this
    exact this
  have r2 : w2.heap[w.heap.size + 2]? = some (.cells #[.int .u64 0, .int .u8 0, .int .u8 0, .int .u8 0, .int .u64 0, .int .u8 0, .int .u8 0, .int .u8 0] 41 (0, 0)) := by
    rw [hb2.block _ (by simp)]
    have := heap_alloc_new ((w.alloc (.cells #[.int .u64 b1, .int .u8 l1, .int .u8 i1, .int .u8 c1, .int .u64 b1', .int .u8 l1', .int .u8 i1', .int .u8 c1'] 41)).alloc (.cells #[.int .u64 b2, .int .u8 l2, .int .u8 i2, .int .u8 c2, .int .u64 b2', .int .u8 l2', .int .u8 i2', .int .u8 c2'] 41)) (.cells #[.int .u64 0, .int .u8 0, .int .u8 0, .int .u8 0, .int .u64 0, .int .u8 0, .int .u8 0, .int .u8 0] 41)
    rw [World.size_alloc, World.size_alloc] at this
    exact this
  have bw2 : Below w.heap.size w w2 := ((((Below.refl _ _).alloc (Nat.le_refl _) _).alloc (by simp) _).alloc (by simp; omega) _).trans (hb2.mono (by simp; omega))
  clear hb2
  obtain ⟨p0, p1, p2, p3, p4, p5, p6, p7⟩ := cells8 f2
  go_wp2_with fail
  refine (known_any _ _ _ _ _ _ _ _ _ (by omega)).mono ?_
  rintro e w3 ⟨rfl, hb3⟩
  rw [k2]
  have T2 : TB w w.heap.size (w.heap.size + 1) (w.heap.size + 1 + 1) _ _ _ w2 := ⟨e2, f2, r2, bw2⟩
  have T3 := T2.step hb3
  clear p0 p1 p2 p3 p4 p5 p6 p7 hb3 e2 f2 r2 bw2 T2
  go_wp2_with fail
  go_region_held3 (fun w' => w'.cell? ⟨w.heap.size, 0, none⟩ = some (.int .u64 b1) ∧ w'.cell? ⟨w.heap.size, 1, none⟩ = some (.int .u8 l1) ∧ w'.cell? ⟨w.heap.size, 2, none⟩ = some (.int .u8 i1) ∧ w'.cell? ⟨w.heap.size, 3, none⟩ = some (.int .u8 c1) ∧
      w'.cell? ⟨w.heap.size + 1, 0, none⟩ = some (.int .u64 b2) ∧ w'.cell? ⟨w.heap.size + 1, 1, none⟩ = some (.int .u8 l2) ∧ w'.cell? ⟨w.heap.size + 1, 2, none⟩ = some (.int .u8 i2) ∧ w'.cell? ⟨w.heap.size + 1, 3, none⟩ = some (.int .u8 c2) ∧
      TB w w.heap.size (w.heap.size + 1) (w.heap.size + 1 + 1) #[.int .u64 b1, .int .u8 l1, .int .u8 i1, .int .u8 c1, .int .u64 b1', .int .u8 l1', .int .u8 i1', .int .u8 c1'] #[.int .u64 b2, .int .u8 l2, .int .u8 i2, .int .u8 c2, .int .u64 b2', .int .u8 l2', .int .u8 i2', .int .u8 c2'] #[.int .u64 0, .int .u8 0, .int .u8 0, .int .u8 0, .int .u64 0, .int .u8 0, .int .u8 0, .int .u8 0] w')
    ((go_split_ands
      refine (fun T => ⟨box_cell T.e 0 rfl, box_cell T.e 1 rfl, box_cell T.e 2 rfl, box_cell T.e 3 rfl, box_cell T.f 0 rfl, box_cell T.f 1 rfl, box_cell T.f 2 rfl, box_cell T.f 3 rfl, T⟩ : TB w w.heap.size (w.heap.size + 1) (w.heap.size + 1 + 1) _ _ _ _ → _) ?_
      first | exact T3.drew | exact TB.step (by assumption) hb))
    (first | (go_at_call_of 22 (Value.agg #[Value.int .u64 b1, .int .u8 l1, .int .u8 i1, .int .u8 c1]); go_split_ands; refine (crowd_any b1 l1 i1 c1 _).mono ?_; rintro e w' ⟨rfl, hb⟩; have T := TB.step (by assumption) hb) | (go_at_call 22; go_split_ands; refine (crowd_any b2 l2 i2 c2 _).mono ?_; rintro e w' ⟨rfl, hb⟩; have T := TB.step (by assumption) hb) | (go_at_call 23; go_split_ands; refine (compare_any l2 c2 l1 c1 _ v3 v1 v2 v4 (by omega) u2 (by omega) u1).mono ?_; rintro e w' ⟨⟨rr, rr0, rr1, rfl⟩, hb⟩; have T := TB.step (by assumption) hb))
  obtain ⟨w4, hw4⟩ : ∃ w4, w4 = w' := ⟨_, rfl⟩
  subst hw4
  have T4 : TB w w.heap.size (w.heap.size + 1) (w.heap.size + 1 + 1) #[.int .u64 b1, .int .u8 l1, .int .u8 i1, .int .u8 c1, .int .u64 b1', .int .u8 l1', .int .u8 i1', .int .u8 c1'] #[.int .u64 b2, .int .u8 l2, .int .u8 i2, .int .u8 c2, .int .u64 b2', .int .u8 l2', .int .u8 i2', .int .u8 c2'] #[.int .u64 0, .int .u8 0, .int .u8 0, .int .u8 0, .int .u64 0, .int .u8 0, .int .u8 0, .int .u8 0] w4 := T
  clear T hb T3
  have hmid : ∃ (b l i c : Int), ((b = b1 ∧ l = l1 ∧ i = i1 ∧ c = c1) ∨ (b = b2 ∧ l = l2 ∧ i = i2 ∧ c = c2)) := ⟨_, _, _, _, .inl ⟨rfl, rfl, rfl, rfl⟩⟩
  clear hmid
  by_cases hr : rr < 0
  · obtain ⟨p0, p1, p2, p3, _⟩ := cells8 T4.f
    go_wp2_with (refine wpList_store_box rfl 28 (.tmp 24) (.tmp 23) rfl w.heap.size 41 [] [.int .u64 b1, .int .u8 l1, .int .u8 i1, .int .u8 c1] [.int .u64 b1', .int .u8 l1', .int .u8 i1', .int .u8 c1'] T4.e 0 rfl #[.int .u64 b2, .int .u8 l2, .int .u8 i2, .int .u8 c2] rfl rfl rfl Ybaf.size28 (by simp [Value.oneCell']) ?_; intro w5 h5 o5)
    have T5 : TB w w.heap.size (w.heap.size + 1) (w.heap.size + 1 + 1) #[.int .u64 b2, .int .u8 l2, .int .u8 i2, .int .u8 c2, .int .u64 b1', .int .u8 l1', .int .u8 i1', .int .u8 c1'] #[.int .u64 b2, .int .u8 l2, .int .u8 i2, .int .u8 c2, .int .u64 b2', .int .u8 l2', .int .u8 i2', .int .u8 c2'] #[.int .u64 0, .int .u8 0, .int .u8 0, .int .u8 0, .int .u64 0, .int .u8 0, .int .u8 0, .int .u8 0] w5 :=
      ⟨h5, (o5.block _ (lt_of_block T4.f) (by simp)).trans T4.f, (o5.block _ (lt_of_block T4.r) (by simp; omega)).trans T4.r, T4.below.trans (o5.below T4.below.size (by simp))⟩
    clear T4 h5 o5 p0 p1 p2 p3
    go_region_held3 (fun w' => w'.cell? ⟨w.heap.size, 4, none⟩ = some (.int .u64 b1') ∧ w'.cell? ⟨w.heap.size, 5, none⟩ = some (.int .u8 l1') ∧ w'.cell? ⟨w.heap.size, 6, none⟩ = some (.int .u8 i1') ∧ w'.cell? ⟨w.heap.size, 7, none⟩ = some (.int .u8 c1') ∧
        w'.cell? ⟨w.heap.size + 1, 4, none⟩ = some (.int .u64 b2') ∧ w'.cell? ⟨w.heap.size + 1, 5, none⟩ = some (.int .u8 l2') ∧ w'.cell? ⟨w.heap.size + 1, 6, none⟩ = some (.int .u8 i2') ∧ w'.cell? ⟨w.heap.size + 1, 7, none⟩ = some (.int .u8 c2') ∧
        TB w w.heap.size (w.heap.size + 1) (w.heap.size + 1 + 1) #[.int .u64 b2, .int .u8 l2, .int .u8 i2, .int .u8 c2, .int .u64 b1', .int .u8 l1', .int .u8 i1', .int .u8 c1'] #[.int .u64 b2, .int .u8 l2, .int .u8 i2, .int .u8 c2, .int .u64 b2', .int .u8 l2', .int .u8 i2', .int .u8 c2'] #[.int .u64 0, .int .u8 0, .int .u8 0, .int .u8 0, .int .u64 0, .int .u8 0, .int .u8 0, .int .u8 0] w')
      ((go_split_ands
        refine (fun T => ⟨box_cell T.e 4 rfl, box_cell T.e 5 rfl, box_cell T.e 6 rfl, box_cell T.e 7 rfl, box_cell T.f 4 rfl, box_cell T.f 5 rfl, box_cell T.f 6 rfl, box_cell T.f 7 rfl, T⟩ : TB w w.heap.size (w.heap.size + 1) (w.heap.size + 1 + 1) _ _ _ _ → _) ?_
        first | exact T5.drew | exact TB.step (by assumption) hb))
      (first | (go_at_call_of 22 (Value.agg #[Value.int .u64 b1', .int .u8 l1', .int .u8 i1', .int .u8 c1']); go_split_ands; refine (crowd_any b1' l1' i1' c1' _).mono ?_; rintro e w' ⟨rfl, hb⟩; have T := TB.step (by assumption) hb) | (go_at_call 22; go_split_ands; refine (crowd_any b2' l2' i2' c2' _).mono ?_; rintro e w' ⟨rfl, hb⟩; have T := TB.step (by assumption) hb) | (go_at_call 23; go_split_ands; refine (compare_any l2' c2' l1' c1' _ y3 y1 y2 y4 x3 x4 x1 x2).mono ?_; rintro e w' ⟨⟨ss, ss0, ss1, rfl⟩, hb⟩; have T := TB.step (by assumption) hb))
    obtain ⟨w6, hw6⟩ : ∃ w6, w6 = w' := ⟨_, rfl⟩
    subst hw6
    have T6 : TB w w.heap.size (w.heap.size + 1) (w.heap.size + 1 + 1) #[.int .u64 b2, .int .u8 l2, .int .u8 i2, .int .u8 c2, .int .u64 b1', .int .u8 l1', .int .u8 i1', .int .u8 c1'] #[.int .u64 b2, .int .u8 l2, .int .u8 i2, .int .u8 c2, .int .u64 b2', .int .u8 l2', .int .u8 i2', .int .u8 c2'] #[.int .u64 0, .int .u8 0, .int .u8 0, .int .u8 0, .int .u64 0, .int .u8 0, .int .u8 0, .int .u8 0] w6 := T
    clear T hb T5
    by_cases hs : 0 < ss
    · obtain ⟨_, _, _, _, q4, q5, q6, q7⟩ := cells8 T6.f
      go_wp2_with (first | (refine wpList_store_box rfl 28 (.tmp 35) (.tmp 34) rfl w.heap.size 41 [.int .u64 b2, .int .u8 l2, .int .u8 i2, .int .u8 c2] [.int .u64 b1', .int .u8 l1', .int .u8 i1', .int .u8 c1'] [] T6.e 4 rfl #[.int .u64 b2', .int .u8 l2', .int .u8 i2', .int .u8 c2'] rfl rfl rfl Ybaf.size28 (by simp [Value.oneCell']) ?_; intro w7 h7 o7; clear q4 q5 q6 q7; obtain ⟨q0, q1, q2, q3, q4, q5, q6, q7⟩ := cells8 (show w7.heap[w.heap.size]? = some (.cells #[.int .u64 b2, .int .u8 l2, .int .u8 i2, .int .u8 c2, .int .u64 b2', .int .u8 l2', .int .u8 i2', .int .u8 c2'] 41 (0, 0)) from h7); have r7 := (o7.block _ (lt_of_block T6.r) (by simp; omega)).trans T6.r; have bw7 := T6.below.trans (o7.below T6.below.size (by simp))) | (refine wpList_store_box rfl 41 (.tmp 4) (.tmp 36) rfl (w.heap.size + 1 + 1) 41 [] [.int .u64 0, .int .u8 0, .int .u8 0, .int .u8 0, .int .u64 0, .int .u8 0, .int .u8 0, .int .u8 0] [] r7 0 rfl #[.int .u64 b2, .int .u8 l2, .int .u8 i2, .int .u8 c2, .int .u64 b2', .int .u8 l2', .int .u8 i2', .int .u8 c2'] rfl rfl rfl Ybaf.size41 (by simp [Value.oneCell']) ?_; intro w8 h8 o8))
      obtain ⟨t0, t1, t2, t3, t4, t5, t6, t7⟩ := cells8 (show w8.heap[w.heap.size + 1 + 1]? = some (.cells #[.int .u64 b2, .int .u8 l2, .int .u8 i2, .int .u8 c2, .int .u64 b2', .int .u8 l2', .int .u8 i2', .int .u8 c2'] 41 (0, 0)) from h8)
      exact bodyPost_ret (v := .agg #[.int .u64 b2, .int .u8 l2, .int .u8 i2, .int .u8 c2, .int .u64 b2', .int .u8 l2', .int .u8 i2', .int .u8 c2']) (by simp [results, Ybaf.results17, go_sem, t0, t1, t2, t3, t4, t5, t6, t7]) rfl ⟨⟨_, _, _, _, .inr ⟨rfl, rfl, rfl, rfl⟩, _, _, _, _, .inr ⟨rfl, rfl, rfl, rfl⟩, rfl⟩, bw7.trans (o8.below bw7.size (by simp; omega))⟩
    · obtain ⟨q0, q1, q2, q3, q4, q5, q6, q7⟩ := cells8 T6.e
      go_wp2_with (refine wpList_store_box rfl 41 (.tmp 4) (.tmp 36) rfl (w.heap.size + 1 + 1) 41 [] [.int .u64 0, .int .u8 0, .int .u8 0, .int .u8 0, .int .u64 0, .int .u8 0, .int .u8 0, .int .u8 0] [] T6.r 0 rfl #[.int .u64 b2, .int .u8 l2, .int .u8 i2, .int .u8 c2, .int .u64 b1', .int .u8 l1', .int .u8 i1', .int .u8 c1'] rfl rfl rfl Ybaf.size41 (by simp [Value.oneCell']) ?_; intro w8 h8 o8)
      obtain ⟨t0, t1, t2, t3, t4, t5, t6, t7⟩ := cells8 (show w8.heap[w.heap.size + 1 + 1]? = some (.cells #[.int .u64 b2, .int .u8 l2, .int .u8 i2, .int .u8 c2, .int .u64 b1', .int .u8 l1', .int .u8 i1', .int .u8 c1'] 41 (0, 0)) from h8)
      exact bodyPost_ret (v := .agg #[.int .u64 b2, .int .u8 l2, .int .u8 i2, .int .u8 c2, .int .u64 b1', .int .u8 l1', .int .u8 i1', .int .u8 c1']) (by simp [results, Ybaf.results17, go_sem, t0, t1, t2, t3, t4, t5, t6, t7]) rfl ⟨⟨_, _, _, _, .inr ⟨rfl, rfl, rfl, rfl⟩, _, _, _, _, .inl ⟨rfl, rfl, rfl, rfl⟩, rfl⟩, T6.below.trans (o8.below T6.below.size (by simp; omega))⟩
  · have T5 := T4
    clear T4
    go_wp2_with fail
    go_region_held3 (fun w' => w'.cell? ⟨w.heap.size, 4, none⟩ = some (.int .u64 b1') ∧ w'.cell? ⟨w.heap.size, 5, none⟩ = some (.int .u8 l1') ∧ w'.cell? ⟨w.heap.size, 6, none⟩ = some (.int .u8 i1') ∧ w'.cell? ⟨w.heap.size, 7, none⟩ = some (.int .u8 c1') ∧
        w'.cell? ⟨w.heap.size + 1, 4, none⟩ = some (.int .u64 b2') ∧ w'.cell? ⟨w.heap.size + 1, 5, none⟩ = some (.int .u8 l2') ∧ w'.cell? ⟨w.heap.size + 1, 6, none⟩ = some (.int .u8 i2') ∧ w'.cell? ⟨w.heap.size + 1, 7, none⟩ = some (.int .u8 c2') ∧
        TB w w.heap.size (w.heap.size + 1) (w.heap.size + 1 + 1) #[.int .u64 b1, .int .u8 l1, .int .u8 i1, .int .u8 c1, .int .u64 b1', .int .u8 l1', .int .u8 i1', .int .u8 c1'] #[.int .u64 b2, .int .u8 l2, .int .u8 i2, .int .u8 c2, .int .u64 b2', .int .u8 l2', .int .u8 i2', .int .u8 c2'] #[.int .u64 0, .int .u8 0, .int .u8 0, .int .u8 0, .int .u64 0, .int .u8 0, .int .u8 0, .int .u8 0] w')
      ((go_split_ands
        refine (fun T => ⟨box_cell T.e 4 rfl, box_cell T.e 5 rfl, box_cell T.e 6 rfl, box_cell T.e 7 rfl, box_cell T.f 4 rfl, box_cell T.f 5 rfl, box_cell T.f 6 rfl, box_cell T.f 7 rfl, T⟩ : TB w w.heap.size (w.heap.size + 1) (w.heap.size + 1 + 1) _ _ _ _ → _) ?_
        first | exact T5.drew | exact TB.step (by assumption) hb))
      (first | (go_at_call_of 22 (Value.agg #[Value.int .u64 b1', .int .u8 l1', .int .u8 i1', .int .u8 c1']); go_split_ands; refine (crowd_any b1' l1' i1' c1' _).mono ?_; rintro e w' ⟨rfl, hb⟩; have T := TB.step (by assumption) hb) | (go_at_call 22; go_split_ands; refine (crowd_any b2' l2' i2' c2' _).mono ?_; rintro e w' ⟨rfl, hb⟩; have T := TB.step (by assumption) hb) | (go_at_call 23; go_split_ands; refine (compare_any l2' c2' l1' c1' _ y3 y1 y2 y4 x3 x4 x1 x2).mono ?_; rintro e w' ⟨⟨ss, ss0, ss1, rfl⟩, hb⟩; have T := TB.step (by assumption) hb))
    obtain ⟨w6, hw6⟩ : ∃ w6, w6 = w' := ⟨_, rfl⟩
    subst hw6
    have T6 : TB w w.heap.size (w.heap.size + 1) (w.heap.size + 1 + 1) #[.int .u64 b1, .int .u8 l1, .int .u8 i1, .int .u8 c1, .int .u64 b1', .int .u8 l1', .int .u8 i1', .int .u8 c1'] #[.int .u64 b2, .int .u8 l2, .int .u8 i2, .int .u8 c2, .int .u64 b2', .int .u8 l2', .int .u8 i2', .int .u8 c2'] #[.int .u64 0, .int .u8 0, .int .u8 0, .int .u8 0, .int .u64 0, .int .u8 0, .int .u8 0, .int .u8 0] w6 := T
    clear T hb T5
    by_cases hs : 0 < ss
    · obtain ⟨_, _, _, _, q4, q5, q6, q7⟩ := cells8 T6.f
      go_wp2_with (first | (refine wpList_store_box rfl 28 (.tmp 35) (.tmp 34) rfl w.heap.size 41 [.int .u64 b1, .int .u8 l1, .int .u8 i1, .int .u8 c1] [.int .u64 b1', .int .u8 l1', .int .u8 i1', .int .u8 c1'] [] T6.e 4 rfl #[.int .u64 b2', .int .u8 l2', .int .u8 i2', .int .u8 c2'] rfl rfl rfl Ybaf.size28 (by simp [Value.oneCell']) ?_; intro w7 h7 o7; clear q4 q5 q6 q7; obtain ⟨q0, q1, q2, q3, q4, q5, q6, q7⟩ := cells8 (show w7.heap[w.heap.size]? = some (.cells #[.int .u64 b1, .int .u8 l1, .int .u8 i1, .int .u8 c1, .int .u64 b2', .int .u8 l2', .int .u8 i2', .int .u8 c2'] 41 (0, 0)) from h7); have r7 := (o7.block _ (lt_of_block T6.r) (by simp; omega)).trans T6.r; have bw7 := T6.below.trans (o7.below T6.below.size (by simp))) | (refine wpList_store_box rfl 41 (.tmp 4) (.tmp 36) rfl (w.heap.size + 1 + 1) 41 [] [.int .u64 0, .int .u8 0, .int .u8 0, .int .u8 0, .int .u64 0, .int .u8 0, .int .u8 0, .int .u8 0] [] r7 0 rfl #[.int .u64 b1, .int .u8 l1, .int .u8 i1, .int .u8 c1, .int .u64 b2', .int .u8 l2', .int .u8 i2', .int .u8 c2'] rfl rfl rfl Ybaf.size41 (by simp [Value.oneCell']) ?_; intro w8 h8 o8))
      obtain ⟨t0, t1, t2, t3, t4, t5, t6, t7⟩ := cells8 (show w8.heap[w.heap.size + 1 + 1]? = some (.cells #[.int .u64 b1, .int .u8 l1, .int .u8 i1, .int .u8 c1, .int .u64 b2', .int .u8 l2', .int .u8 i2', .int .u8 c2'] 41 (0, 0)) from h8)
      exact bodyPost_ret (v := .agg #[.int .u64 b1, .int .u8 l1, .int .u8 i1, .int .u8 c1, .int .u64 b2', .int .u8 l2', .int .u8 i2', .int .u8 c2']) (by simp [results, Ybaf.results17, go_sem, t0, t1, t2, t3, t4, t5, t6, t7]) rfl ⟨⟨_, _, _, _, .inl ⟨rfl, rfl, rfl, rfl⟩, _, _, _, _, .inr ⟨rfl, rfl, rfl, rfl⟩, rfl⟩, bw7.trans (o8.below bw7.size (by simp; omega))⟩
    · obtain ⟨q0, q1, q2, q3, q4, q5, q6, q7⟩ := cells8 T6.e
      go_wp2_with (refine wpList_store_box rfl 41 (.tmp 4) (.tmp 36) rfl (w.heap.size + 1 + 1) 41 [] [.int .u64 0, .int .u8 0, .int .u8 0, .int .u8 0, .int .u64 0, .int .u8 0, .int .u8 0, .int .u8 0] [] T6.r 0 rfl #[.int .u64 b1, .int .u8 l1, .int .u8 i1, .int .u8 c1, .int .u64 b1', .int .u8 l1', .int .u8 i1', .int .u8 c1'] rfl rfl rfl Ybaf.size41 (by simp [Value.oneCell']) ?_; intro w8 h8 o8)
      obtain ⟨t0, t1, t2, t3, t4, t5, t6, t7⟩ := cells8 (show w8.heap[w.heap.size + 1 + 1]? = some (.cells #[.int .u64 b1, .int .u8 l1, .int .u8 i1, .int .u8 c1, .int .u64 b1', .int .u8 l1', .int .u8 i1', .int .u8 c1'] 41 (0, 0)) from h8)
      exact bodyPost_ret (v := .agg #[.int .u64 b1, .int .u8 l1, .int .u8 i1, .int .u8 c1, .int .u64 b1', .int .u8 l1', .int .u8 i1', .int .u8 c1']) (by simp [results, Ybaf.results17, go_sem, t0, t1, t2, t3, t4, t5, t6, t7]) rfl ⟨⟨_, _, _, _, .inl ⟨rfl, rfl, rfl, rfl⟩, _, _, _, _, .inl ⟨rfl, rfl, rfl, rfl⟩, rfl⟩, T6.below.trans (o8.below T6.below.size (by simp; omega))⟩
end Go.Proofs.YbulkadfsFmt
