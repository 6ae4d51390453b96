import Derived.Test.YbulkadfsFmtTop
namespace Go.Proofs.YbulkadfsFmt
open Go.RowKit
set_option linter.unusedVariables false
attribute [local go_sem ↓] Go.wp_at_zero Go.wp_at_succ

theorem Ybaf.info41 : (Ybaf.prog.info? 41).map (fun i => (i.zero, i.size, i.bytes)) = some (some (.agg zero8.toArray), 8, 32) := by kernel_rfl

/-- The second half of the subtree at depth j that begins where b does: its bits, as the program reckons them. -/
def sideOf (b : Int) (j : Nat) : Int := bits BinOp.or IntKind.u64 b (IntKind.u64.wrap (2 ^ (63 - j)))

theorem run_store41 {w : World} {b o : Nat} {E : List Value} (h : w.there b o 8) (hl : E.length = 8) (h1 : ∀ v ∈ E, v.oneCell' = true) :
    (Instr.storeAt 41 (.pointer (some ⟨b, o, none⟩)) (.agg E.toArray)).run Ybaf.prog w = .ok () (w.setCells b o E) := by
  have := run_storeAt_mid (P := Ybaf.prog) w b o 41 E.toArray (by simpa [hl] using h) (by rw [Ybaf.size41]; simp [hl]) (all_oneCell_toArray h1)
  simpa using this
theorem run_cells41 {w : World} {b o : Nat} {E : List Value} (h : w.there b o 8) (hl : E.length = 8) (h1 : ∀ v ∈ E, v.oneCell' = true) :
    (storeCells ⟨b, o, none⟩ E).run Ybaf.prog w = .ok () (w.setCells b o E) := by
  have := run_storeCells_cells (P := Ybaf.prog) b o E 0 w (fun j hj => by simpa using (h j (by omega)).1) (fun j hj => by simpa using (h j (by omega)).2) h1
  simpa using this

theorem ExtIs.len {M : List PF} {E : List Value} (h : ExtIs M E) : E.length = 8 := by
  rcases h with ⟨_, rfl⟩ | ⟨_, _, _, _, rfl⟩ <;> rfl
theorem ExtIs.one {M : List PF} {E : List Value} (h : ExtIs M E) : ∀ v ∈ E, v.oneCell' = true := by
  rcases h with ⟨_, rfl⟩ | ⟨_, _, _, _, rfl⟩
  · intro v hv; simp [zero8] at hv; rcases hv with rfl | rfl | rfl | rfl <;> rfl
  · intro v hv; simp [pair8] at hv; rcases hv with rfl | rfl | rfl | rfl | rfl | rfl | rfl | rfl <;> rfl

/-- The state of aheadOf: the box of t, the row. -/
structure AB (w : World) (n G L : Nat) (tb : Int) (Es : List (List Value)) (w' : World) : Prop where
  t : w'.heap[n]? = some (.cells #[.int .u64 tb, .int .u8 L, .int .u8 0, .int .u8 0] 28 (0, 0))
  row : w'.heap[G]? = some (.cells Es.flatten.toArray 41 (0, 0))
  below : Below n w w'
  nG : n < G
theorem AB.drew {w : World} {n G L : Nat} {tb : Int} {Es : List (List Value)} {w' : World} (h : AB w n G L tb Es w') : AB w n G L tb Es w'.drew := ⟨h.t, h.row, h.below.drew, h.nG⟩
theorem AB.step {w : World} {n G L : Nat} {tb : Int} {Es : List (List Value)} {W w' : World} (h : AB w n G L tb Es W) (hb : Below W.heap.size W w') : AB w n G L tb Es w' :=
  ⟨(hb.block _ (lt_of_block h.t)).trans h.t, (hb.block _ (lt_of_block h.row)).trans h.row, h.below.trans (hb.mono (by have := lt_of_block h.t; omega)), h.nG⟩

theorem flatten_len8 (Es : List (List Value)) (h : ∀ E ∈ Es, E.length = 8) : Es.flatten.length = Es.length * 8 := by
  induction Es with
  | nil => rfl
  | cons E l ih =>
    rw [List.flatten_cons, List.length_append, h E (by simp), ih (fun x hx => h x (by simp [hx]))]
    simp; omega
theorem flatten_split (Es : List (List Value)) (j : Nat) (hj : j < Es.length) : Es.flatten = (Es.take j).flatten ++ Es[j] ++ (Es.drop (j + 1)).flatten := by
  have e : Es = Es.take j ++ (Es[j] :: Es.drop (j + 1)) := by simp
  have e2 : Es.flatten = (Es.take j ++ (Es[j] :: Es.drop (j + 1))).flatten := by rw [← e]
  rw [e2, List.flatten_append, List.flatten_cons, List.append_assoc]
theorem AB.there {w : World} {n G L : Nat} {tb : Int} {Es : List (List Value)} {w' : World} (h : AB w n G L tb Es w') (h8 : ∀ E ∈ Es, E.length = 8) {j : Nat} (hj : j < Es.length) : w'.there G (j * 8) 8 := fun i hi => by
  have hl := flatten_len8 Es h8
  refine ⟨?_, by simp [World.frozen?, h.row]⟩
  simp only [World.cell?, h.row]
  have : j * 8 + i < Es.flatten.length := by omega
  simp only [Option.isSome_none, Bool.false_eq_true, if_false, List.getElem?_toArray]
  rw [List.getElem?_eq_getElem this]
  rfl
theorem AB.store {w : World} {n G L : Nat} {tb : Int} {Es : List (List Value)} {W : World} (h : AB w n G L tb Es W) (h8 : ∀ E ∈ Es, E.length = 8) {j : Nat} (hj : j < Es.length) {E : List Value} (hE : E.length = 8) :
    AB w n G L tb (Es.set j E) (W.setCells G (j * 8) E) := by
  have hs := flatten_split Es j hj
  have hl : (Es.take j).flatten.length = j * 8 := by
    rw [flatten_len8 _ (fun x hx => h8 x (List.mem_of_mem_take hx))]; simp; omega
  have h8j : Es[j].length = 8 := h8 _ (by simp)
  have hr := heap_setCells E W (Es.take j).flatten Es[j] (Es.drop (j + 1)).flatten (by rw [← hs]; exact h.row) (by omega)
  rw [hl] at hr
  have o := only_setCells (b := G) E (j * 8) W
  refine ⟨(o.block _ (lt_of_block h.t) (by have := h.nG; simp; omega)).trans h.t, ?_, h.below.trans (o.below (by have := lt_of_block h.t; omega) (by have := h.nG; simp; omega)), h.nG⟩
  rw [hr]
  congr 2
  rw [flatten_split (Es.set j E) j (by simpa using hj), List.getElem_set_self]
  rw [List.take_set_of_le (Nat.le_refl _), List.drop_set_of_lt (by omega)]

/-- What the list of extremes says. -/
def AheadIs (ps : List PF) (tb : Nat) (L : Nat) (lim : Nat) (Es : List (List Value)) : Prop :=
  Es.length = L ∧ ∀ j E, Es[j]? = some E → if j < topOf tb ∨ lim ≤ j then E = zero8 else ExtIs (inside ps (sideOf tb j) (j + 1)) E
theorem AheadIs.len8 {ps : List PF} {tb L lim : Nat} {Es : List (List Value)} (h : AheadIs ps tb L lim Es) : ∀ E ∈ Es, E.length = 8 := fun E hE => by
  obtain ⟨j, hj⟩ := List.getElem?_of_mem hE
  have := h.2 j E hj
  split at this
  · rw [this]; rfl
  · exact this.len

theorem made_zero8 (L : Nat) : (madeCells (Value.agg zero8.toArray).cells (L * 8)).toList = (List.replicate L zero8).flatten := by
  show ((Array.range (L * 8)).map (fun i => zero8.toArray[i % zero8.toArray.size]!)).toList = _
  rw [Array.toList_map, Array.toList_range]
  induction L with
  | zero => rfl
  | succ L ih =>
    rw [Nat.succ_mul, List.range_add, List.map_append, ih, List.replicate_succ', List.flatten_append]
    congr 1
    rw [List.map_map]
    have e : ∀ i, ((fun i => zero8.toArray[i % zero8.toArray.size]!) ∘ (fun x => L * 8 + x)) i = zero8.toArray[(L * 8 + i) % 8]! := fun i => rfl
    have h8 : ∀ i, i < 8 → (L * 8 + i) % 8 = i := fun i hi => by omega
    simp only [List.range, List.range.loop, List.map_cons, List.map_nil, e, h8 0 (by omega), h8 1 (by omega), h8 2 (by omega), h8 3 (by omega), h8 4 (by omega), h8 5 (by omega), h8 6 (by omega), h8 7 (by omega)]
    rfl

theorem make41 (L : Nat) (hL : L ≤ 64) : ∃ R : Array Value, R = (List.replicate L zero8).flatten.toArray ∧ ∀ W : World, (Instr.makeSlice 38 (.int .u8 L) (.int .u8 L)).run Ybaf.prog W = .ok (.slice (some ⟨W.heap.size, 0, none⟩) L L) (W.alloc (.cells R 41)) := by
  obtain ⟨i0, hi0, hz0, hz1, hz2⟩ := info_parts Ybaf.info41
  refine ⟨_, rfl, fun W => ?_⟩
  have hr := run_make (P := Ybaf.prog) W 38 41 i0 _ Ybaf.underlying38 hi0 hz0 .u8 .u8 L L (by omega) (Int.le_refl _) (by rw [hz2]; omega) (by omega)
  rw [hz1] at hr
  simp only [Int.toNat_natCast] at hr
  rw [hr]
  have := made_zero8 L
  rw [← this]

theorem field28 (a b c d : Value) (w : World) : (Instr.field 28 (.agg #[a, b, c, d]) 1).run Ybaf.prog w = (.ok b w : Result Value) := by kernel_rfl

theorem ahead_start (ps : List PF) (tb L : Nat) : AheadIs ps tb L (topOf tb) (List.replicate L zero8) := by
  refine ⟨by simp, fun j E hj => ?_⟩
  rw [if_pos (by omega)]
  have := List.mem_of_getElem? hj
  simp at this
  exact this.2
theorem AheadIs.set {ps : List PF} {tb L k : Nat} {Es : List (List Value)} (h : AheadIs ps tb L k Es) (hk : topOf tb ≤ k) {E : List Value} (hE : ExtIs (inside ps (sideOf tb k) (k + 1)) E) : AheadIs ps tb L (k + 1) (Es.set k E) := by
  refine ⟨by simp [h.1], fun j E' hj => ?_⟩
  rw [List.getElem?_set] at hj
  by_cases e : k = j
  · subst e
    rw [if_pos rfl] at hj
    split at hj
    · cases hj
      rw [if_neg (by omega)]
      exact hE
    · cases hj
  · rw [if_neg e] at hj
    have := h.2 j E' hj
    by_cases h1 : j < topOf tb ∨ k + 1 ≤ j
    · rw [if_pos h1]; rw [if_pos (by omega)] at this; exact this
    · rw [if_neg h1]; rw [if_neg (by omega)] at this; exact this

set_option maxHeartbeats 1000000 in
theorem ahead_any (w : World) (ao : Option Addr) (cap : Nat) (ps : List PF) (tb L : Nat) (hp : PFams w ao ps) (hl : ps.length ≤ 1024) (htb : tb < 18446744073709551616) (hL : L ≤ 64) (hT : TabAt w) :
    Calls Ybaf.prog 7 #[.agg #[.int .u64 tb, .int .u8 L, .int .u8 0, .int .u8 0], .slice ao ps.length cap] w fun e w' => (∃ G Es, e = .returned (.slice (some ⟨G, 0, none⟩) L L) ∧ w'.heap[G]? = some (.cells Es.flatten.toArray 41 (0, 0)) ∧ AheadIs ps tb L L Es) ∧ Below w.heap.size w w' := by
  obtain ⟨R, hR, hmk0⟩ := make41 L hL
  have hmk := hmk0
  have htop := topOf_le tb
  clear hmk0
  go_enter Ybaf.func7, Ybaf.ntmps7
  go_wp2_with fail
  refine (top_any tb L _ htb (hT.below (((Below.refl _ _).alloc (Nat.le_refl _) _).alloc (by simp) _))).mono ?_
  rintro e w2 ⟨rfl, hb2⟩
  have hA2 : AB w w.heap.size (w.heap.size + 1) L tb (List.replicate L zero8) w2 := by
    refine AB.step ⟨?_, ?_, ((Below.refl _ _).alloc (Nat.le_refl _) _).alloc (by simp) _, by omega⟩ hb2
    · rw [Below.heap_alloc _ _ _ (by simp)]; exact heap_alloc_new w _
    · have := heap_alloc_new (w.alloc (.cells #[.int .u64 tb, .int .u8 L, .int .u8 0, .int .u8 0] 28)) (.cells R 41)
      rw [World.size_alloc, hR] at this
      exact this
  clear hb2 hR hmk
  have hfl := fun (b l : Int) (w : World) => field28 (.int .u64 b) (.int .u8 l) (.int .u8 0) (.int .u8 0) w
  go_wp2
  go_loopw [6] (fun i wr => ∃ (k : Nat) (Es : List (List Value)), topOf tb ≤ k ∧ (k ≤ L ∨ k = topOf tb) ∧ i = .int .i64 k ∧ AheadIs ps tb L k Es ∧ AB w w.heap.size (w.heap.size + 1) L tb Es wr)
    (fun i _ => L - (intOf i).toNat)
  case atStart => exact ⟨topOf tb, _, Nat.le_refl _, .inr rfl, rfl, ahead_start ps tb L, hA2⟩
  case round =>
    obtain ⟨k, Es, hk, hk2, rfl, hE, hA⟩ := hrel
    obtain ⟨z0, z1, z2, z3⟩ := cells4 hA.t
    have HE : Hid (AheadIs ps tb L k Es) := hE
    clear hE hA2
    have hk64 : k ≤ 64 := by omega
    by_cases hkl : k < L
    · have wi1 : IntKind.i64.wrap (63 - (k : Int)) = 63 - (k : Int) := by rw [IntKind.wrap_i64]; omega
      have wi2 : IntKind.i64.wrap ((k : Int) + 1) = (k : Int) + 1 := by rw [IntKind.wrap_i64]; omega
      have wi3 : IntKind.u8.wrap ((k : Int) + 1) = (k : Int) + 1 := by rw [IntKind.wrap_u8]; omega
      have i0k : (0 : Int) ≤ (k : Int) := by omega
      have i1k : (k : Int) < (L : Int) := by omega
      have i2k : (0 : Int) ≤ 63 - (k : Int) := by omega
      have hEl : k < Es.length := by rw [HE.out.1]; exact hkl
      have hth := hA.there HE.out.len8 hEl
      go_wp2
      go_region_held3 (fun w' => w'.cell? ⟨w.heap.size, 0, none⟩ = some (.int .u64 tb) ∧ w'.there (w.heap.size + 1) (k * 8) 8) 
        ((first | exact ⟨z0, hth⟩ | exact ⟨(hb.cell (p := ⟨w.heap.size, 0, none⟩) (lt_of_block hA.t)).trans z0, T.there HE.out.len8 hEl⟩ | exact ⟨(World.cell?_setCells_out _ _ _ _ ⟨w.heap.size, 0, none⟩ (fun e _ => by simp at e)).trans ((hb.cell (p := ⟨w.heap.size, 0, none⟩) (lt_of_block hA.t)).trans z0), World.there_setCells (T.there HE.out.len8 hEl) _ _ _⟩))
        (first | (go_at_call 11; refine (in_any wr.drew ao cap ps (bits BinOp.or IntKind.u64 tb (IntKind.u64.wrap (2 ^ (63 - k)))) ((k : Int) + 1) (hp.below hA.drew.below) hl (by omega) (by omega)).mono ?_; rintro e w' ⟨⟨E, rfl, hEx⟩, hb⟩; have T := hA.drew.step hb; have hE8 := hEx.len; have hsc := run_cells41 (T.there HE.out.len8 hEl) hEx.len hEx.one))
      have T2 := T.store HE.out.len8 hEl hE8
      have A2 := HE.out.set hk (E := E) hEx
      clear T hsc hth hb
      go_wp2
      go_roundw
      case rel => exact ⟨k + 1, Es.set k E, by omega, .inl (by omega), by go_num, A2, T2⟩
      case measure => simp [intOf]; omega
    · have HA : Hid (AheadIs ps tb L L Es) := by
        refine ⟨HE.out.1, fun j E hj => ?_⟩
        have hjl : j < L := by rw [← HE.out.1]; exact (List.getElem?_eq_some_iff.1 hj).1
        have := HE.out.2 j E hj
        by_cases h1 : j < topOf tb
        · rw [if_pos (.inl h1)] at this ⊢; exact this
        · rw [if_neg (by omega)] at this ⊢; exact this
      go_wp2
      go_ret
      exact ⟨⟨_, Es, rfl, hA.row, HA.out⟩, hA.below⟩
end Go.Proofs.YbulkadfsFmt
