import Derived.Test.YbulkadfsFmtBits
import Derived.Deep.Cut
namespace Go.Proofs.YbulkadfsFmt
open Go.RowKit
set_option linter.unusedVariables false
attribute [local go_sem ↓] Go.wp_at_zero Go.wp_at_succ

theorem Ybaf.info37 : (Ybaf.prog.info? 37).map (fun i => (i.zero, i.size, i.bytes)) = some (some (.agg #[.int .u64 0, .int .u8 0, .int .u8 0, .int .u8 0, .slice none 0 0]), 5, 40) := by kernel_rfl
theorem Ybaf.info22 : (Ybaf.prog.info? 22).map (fun i => (i.zero, i.size, i.bytes)) = some (some (.int .u64 0), 1, 8) := by kernel_rfl
theorem Ybaf.info3 : (Ybaf.prog.info? 3).map (fun i => (i.zero, i.size, i.bytes)) = some (some (.int .i64 0), 1, 8) := by kernel_rfl

theorem Ybaf.size37 : (Ybaf.prog.info? 37).map (·.size) = some 5 := by kernel_rfl

structure Raw where
  lv : Int
  rw : Int
def IsRaw (w : World) (a : Option Addr) (rs : List Raw) : Prop :=
  ∀ k r, rs[k]? = some r → ∃ b off, a = some ⟨b, off, none⟩ ∧ b < w.heap.size ∧ w.cell? ⟨b, off + k * 2, none⟩ = some (.int .u8 r.lv) ∧ w.cell? ⟨b, off + k * 2 + 1, none⟩ = some (.int .u8 r.rw) ∧ 0 ≤ r.lv ∧ r.lv ≤ 255 ∧ 0 ≤ r.rw ∧ r.rw ≤ 255

theorem bit_test (b k : Nat) (hb : b < 18446744073709551616) : (bits BinOp.and IntKind.u64 ((b : Int) / 2 ^ (63 - k)) 1 == 1) = decide (b / 2 ^ (63 - k) % 2 = 1) := by
  have e : ((b : Int) / 2 ^ (63 - k)) = ((b / 2 ^ (63 - k) : Nat) : Int) := by simp
  have hle : b / 2 ^ (63 - k) ≤ b := Nat.div_le_self _ _
  rw [e]
  generalize b / 2 ^ (63 - k) = q at hle
  rw [and_one_u64 _ (by omega) (by omega), Bool.eq_iff_iff]
  simp
  omega

theorem tl_yes (b k : Nat) (h : b / 2 ^ (63 - k) % 2 = 1) : tl b (k + 1) = k + 1 := by
  show (if b / 2 ^ (63 - k) % 2 = 1 then k + 1 else tl b k) = _
  rw [if_pos h]
theorem tl_no (b k : Nat) (h : ¬ b / 2 ^ (63 - k) % 2 = 1) : tl b (k + 1) = tl b k := by
  show (if b / 2 ^ (63 - k) % 2 = 1 then k + 1 else tl b k) = _
  rw [if_neg h]

def zero5 : List Value := [.int .u64 0, .int .u8 0, .int .u8 0, .int .u8 0, .slice none 0 0]

theorem made_gen (Z : List Value) (m : Nat) (hm : Z.length = m) (hp : 0 < m) (v : Value) (hv : v.cells = Z.toArray) (n : Nat) : (madeCells v.cells (n * m)).toList = (List.replicate n Z).flatten := by
  subst hm
  rw [hv]
  show ((Array.range (n * Z.length)).map (fun i => Z.toArray[i % Z.toArray.size]!)).toList = _
  rw [Array.toList_map, Array.toList_range]
  induction n with
  | zero => simp
  | succ n ih =>
    rw [Nat.succ_mul, List.range_add, List.map_append, ih, List.replicate_succ', List.flatten_append, List.map_map]
    congr 1
    simp only [List.flatten_singleton]
    apply List.ext_getElem
    · simp
    · intro i h1 h2
      simp at h1
      have hmod : (n * Z.length + i) % Z.length = i := by rw [Nat.mul_comm, Nat.mul_add_mod]; exact Nat.mod_eq_of_lt h2
      simp [hmod, h2]

theorem make_gen (t e : TypeId) (z : Value) (Z : List Value) (m by_ : Nat) (hu : Ybaf.prog.underlying t = some (.slice e)) (hi : (Ybaf.prog.info? e).map (fun i => (i.zero, i.size, i.bytes)) = some (some z, m, by_)) (hz : z.cells = Z.toArray) (hm : Z.length = m) (hp : 0 < m) (n : Nat) (hb : by_ * n ≤ 281474976710656) (hn : n ≤ 1024) :
    ∃ R : Array Value, R = (List.replicate n Z).flatten.toArray ∧ ∀ W : World, (Instr.makeSlice t (.int .i64 n) (.int .i64 n)).run Ybaf.prog W = .ok (.slice (some ⟨W.heap.size, 0, none⟩) n n) (W.alloc (.cells R e)) := by
  obtain ⟨i0, hi0, hz0, hz1, hz2⟩ := info_parts hi
  refine ⟨_, rfl, fun W => ?_⟩
  have hb' : (i0.bytes : Int) * (n : Int) ≤ 281474976710656 := by rw [hz2, ← Int.natCast_mul]; omega
  have hr := run_make (P := Ybaf.prog) W t e i0 _ hu hi0 hz0 .i64 .i64 n n (by omega) (Int.le_refl _) hb' (by omega)
  rw [hz1] at hr
  simp only [Int.toNat_natCast] at hr
  rw [hr]
  have := made_gen Z m hm hp z hz n
  rw [← this]

def PF.cells (f : PF) : List Value := [.int .u64 f.b, .int .u8 f.l, .int .u8 0, .int .u8 0, .slice f.co 1 f.kc]

/-- The law's own memory: the box of t, the three rows, of which the first entries are filled. -/
structure LB (w : World) (n G1 G2 G3 N L : Nat) (tb : Int) (ps : List PF) (w' : World) : Prop where
  t : w'.heap[n]? = some (.cells #[.int .u64 tb, .int .u8 L, .int .u8 0, .int .u8 0] 28 (0, 0))
  f : w'.heap[G1]? = some (.cells (ps.flatMap PF.cells ++ (List.replicate (N - ps.length) zero5).flatten).toArray 37 (0, 0))
  p : w'.heap[G2]? = some (.cells (ps.map (fun (f : PF) => Value.int .u64 f.b) ++ List.replicate (N - ps.length) (Value.int .u64 0)).toArray 22 (0, 0))
  q : w'.heap[G3]? = some (.cells (ps.map (fun (f : PF) => Value.int .i64 f.l) ++ List.replicate (N - ps.length) (Value.int .i64 0)).toArray 3 (0, 0))
  below : Below n w w'
  each : ∀ f ∈ ps, 0 ≤ f.l ∧ f.l ≤ 64
theorem LB.step {w : World} {n G1 G2 G3 N L : Nat} {tb : Int} {ps : List PF} {W w' : World} (h : LB w n G1 G2 G3 N L tb ps W) (hb : Below W.heap.size W w') : LB w n G1 G2 G3 N L tb ps w' :=
  ⟨(hb.block _ (lt_of_block h.t)).trans h.t, (hb.block _ (lt_of_block h.f)).trans h.f, (hb.block _ (lt_of_block h.p)).trans h.p, (hb.block _ (lt_of_block h.q)).trans h.q, h.below.trans (hb.mono (by have := lt_of_block h.t; omega)), h.each⟩

theorem flatMap_len5 (ps : List PF) : (ps.flatMap PF.cells).length = ps.length * 5 := by
  induction ps with
  | nil => rfl
  | cons f l ih => rw [List.flatMap_cons, List.length_append, ih]; simp [PF.cells]; omega
theorem rep_one (n : Nat) (v : Value) : (List.replicate n [v]).flatten = List.replicate n v := by
  induction n with
  | zero => rfl
  | succ n ih => rw [List.replicate_succ, List.flatten_cons, ih]; rfl

/-- One more entry in each of the three rows. -/
theorem LB.push {w : World} {n G1 G2 G3 N L k : Nat} {tb : Int} {ps : List PF} {W w1 : World} (h : LB w n G1 G2 G3 N L tb ps W) (hpl : ps.length = k) (hk : k < N) (g01 : n < G1) (g12 : G1 < G2) (g23 : G2 < G3) (o : Obj) (o2 : Obj) (f : PF) (hl0 : 0 ≤ f.l) (hl1 : f.l ≤ 64)
    (h1 : w1.heap[G1]? = some (.cells (ps.flatMap PF.cells ++ f.cells ++ (List.replicate (N - k - 1) zero5).flatten).toArray 37 (0, 0)))
    (on : Only ((((W.setCell ⟨G2, k, none⟩ (.int .u64 f.b)).setCell ⟨G3, k, none⟩ (.int .i64 f.l)).alloc o).alloc o2) w1 [G1]) : LB w n G1 G2 G3 N L tb (ps ++ [f]) w1 := by
  subst hpl
  have lt := lt_of_block h.t
  have l1 := lt_of_block h.f
  have l2 := lt_of_block h.p
  have l3 := lt_of_block h.q
  have hz : N - ps.length = (N - ps.length - 1) + 1 := by omega
  have sz0 : ((W.setCell ⟨G2, ps.length, none⟩ (.int .u64 f.b)).setCell ⟨G3, ps.length, none⟩ (.int .i64 f.l)).heap.size = W.heap.size := by simp [World.setCell]
  have sz : ((((W.setCell ⟨G2, ps.length, none⟩ (.int .u64 f.b)).setCell ⟨G3, ps.length, none⟩ (.int .i64 f.l)).alloc o).alloc o2).heap.size = W.heap.size + 2 := by rw [World.size_alloc, World.size_alloc, sz0]
  have back : ∀ q, q < W.heap.size → q ≠ G1 → w1.heap[q]? = ((W.setCell ⟨G2, ps.length, none⟩ (.int .u64 f.b)).setCell ⟨G3, ps.length, none⟩ (.int .i64 f.l)).heap[q]? := fun q hq a => by
    rw [on.block q (by rw [sz]; omega) (by simpa using a), Below.heap_alloc _ _ _ (by rw [World.size_alloc, sz0]; omega), Below.heap_alloc _ _ _ (by rw [sz0]; omega)]
  have keep : ∀ q, q < W.heap.size → q ≠ G1 → q ≠ G2 → q ≠ G3 → w1.heap[q]? = W.heap[q]? := fun q hq a b c => by
    rw [back q hq a, Below.heap_setCell _ _ _ _ c, Below.heap_setCell _ _ _ _ b]
  refine ⟨by rw [keep n lt (by omega) (by omega) (by omega)]; exact h.t, ?_, ?_, ?_, ?_, ?_⟩
  · rw [h1]; simp [List.flatMap_append, PF.cells, Nat.sub_sub]
  · rw [back G2 l2 (by omega), Below.heap_setCell _ _ _ _ (by simp; omega), blk_setCell_same h.p]
    congr 2
    rw [hz, List.replicate_succ]
    simp [Nat.sub_sub]
  · rw [back G3 l3 (by omega)]
    have e : (W.setCell ⟨G2, ps.length, none⟩ (.int .u64 f.b)).heap[G3]? = some (.cells (ps.map (fun (f : PF) => Value.int .i64 f.l) ++ List.replicate (N - ps.length) (Value.int .i64 0)).toArray 3 (0, 0)) := by
      rw [Below.heap_setCell _ _ _ _ (by simp; omega)]; exact h.q
    rw [blk_setCell_same e]
    congr 2
    rw [hz, List.replicate_succ]
    simp [Nat.sub_sub]
  · refine h.below.trans ⟨on.os, on.tape, on.output, by have := on.size; rw [sz] at this; omega, fun q hq => keep q (by omega) (by omega) (by omega) (by omega)⟩
  · intro x hx
    simp at hx
    rcases hx with hx | rfl
    · exact h.each x hx
    · exact ⟨hl0, hl1⟩

theorem LB.rowF1 {w : World} {n G1 G2 G3 N L k : Nat} {tb : Int} {ps : List PF} {W : World} (h : LB w n G1 G2 G3 N L tb ps W) (hpl : ps.length = k) (hk : k < N) (g12 : G1 < G2) (g23 : G2 < G3) (a b : Value) (o : Obj) :
    (((W.setCell ⟨G2, k, none⟩ a).setCell ⟨G3, k, none⟩ b).alloc o).heap[G1]? = some (.cells (ps.flatMap PF.cells ++ zero5 ++ (List.replicate (N - k - 1) zero5).flatten).toArray 37 (0, 0)) := by
  subst hpl
  have l1 := lt_of_block h.f
  have sz0 : ((W.setCell ⟨G2, ps.length, none⟩ a).setCell ⟨G3, ps.length, none⟩ b).heap.size = W.heap.size := by simp [World.setCell]
  have hz : N - ps.length = (N - ps.length - 1) + 1 := by omega
  rw [Below.heap_alloc _ _ _ (by rw [sz0]; omega), Below.heap_setCell _ _ _ _ (by simp; omega), Below.heap_setCell _ _ _ _ (by simp; omega), h.f]
  congr 2
  rw [hz, List.replicate_succ, List.flatten_cons]
  simp

theorem next_at {α : Type} (xs : List α) (n : Nat) (z : α) (h : xs.length < n) : (xs ++ List.replicate (n - xs.length) z).toArray[xs.length]? = some z := by
  rw [List.getElem?_toArray, List.getElem?_append_right (Nat.le_refl _), Nat.sub_self, List.getElem?_replicate, if_pos (by omega)]
theorem LB.next {w : World} {n G1 G2 G3 N L k : Nat} {tb : Int} {ps : List PF} {w' : World} (h : LB w n G1 G2 G3 N L tb ps w') (hk : ps.length = k) (hkl : k < N) :
    w'.cell? ⟨G2, k, none⟩ = some (.int .u64 0) ∧ w'.cell? ⟨G3, k, none⟩ = some (.int .i64 0) ∧ w'.frozen? ⟨G2, k, none⟩ = false ∧ w'.frozen? ⟨G3, k, none⟩ = false := by
  subst hk
  have e2 := next_at (ps.map (fun (f : PF) => Value.int .u64 f.b)) N (Value.int .u64 0) (by simpa using hkl)
  have e3 := next_at (ps.map (fun (f : PF) => Value.int .i64 f.l)) N (Value.int .i64 0) (by simpa using hkl)
  rw [List.length_map] at e2 e3
  exact ⟨box_cell h.p _ e2, box_cell h.q _ e3, by simp [World.frozen?, h.p], by simp [World.frozen?, h.q]⟩

theorem cell5 (ps : List PF) (post : List Value) (k : Nat) (f : PF) (hf : ps[k]? = some f) (j : Nat) (u : Value) (hu : f.cells[j]? = some u) : (ps.flatMap PF.cells ++ post).toArray[k * 5 + j]? = some u := by
  rw [List.getElem?_toArray]
  have hj : j < 5 := by
    have := (List.getElem?_eq_some_iff.1 hu).1
    simpa [PF.cells] using this
  induction ps generalizing k with
  | nil => simp at hf
  | cons g l ih =>
    cases k with
    | zero =>
      simp at hf
      subst hf
      rw [List.flatMap_cons, List.append_assoc, List.getElem?_append_left (by simp [PF.cells]; omega)]
      simpa using hu
    | succ k =>
      rw [List.flatMap_cons, List.append_assoc, List.getElem?_append_right (by simp [PF.cells]; omega)]
      have e : (k + 1) * 5 + j - g.cells.length = k * 5 + j := by simp [PF.cells]; omega
      rw [e]
      exact ih k (by simpa using hf)

theorem LB.fams {w : World} {n G1 G2 G3 N L : Nat} {tb : Int} {ps : List PF} {w' : World} (h : LB w n G1 G2 G3 N L tb ps w') (hk : ps.length = N) : PFams w' (some ⟨G1, 0, none⟩) ps := fun k f hf => by
  have c : ∀ j u, f.cells[j]? = some u → w'.cell? ⟨G1, k * 5 + j, none⟩ = some u := fun j u hu => box_cell h.f _ (cell5 ps _ k f hf j u hu)
  exact ⟨G1, rfl, lt_of_block h.f, c 0 _ rfl, c 1 _ rfl, c 2 _ rfl, c 3 _ rfl, c 4 _ rfl, h.each f (List.mem_of_getElem? hf)⟩
theorem LB.row2 {w : World} {n G1 G2 G3 N L : Nat} {tb : Int} {ps : List PF} {w' : World} (h : LB w n G1 G2 G3 N L tb ps w') (hk : ps.length = N) : w'.heap[G2]? = some (.cells (ps.map (fun (f : PF) => Value.int .u64 f.b)).toArray 22 (0, 0)) := by
  rw [h.p, hk]; simp
theorem LB.row3 {w : World} {n G1 G2 G3 N L : Nat} {tb : Int} {ps : List PF} {w' : World} (h : LB w n G1 G2 G3 N L tb ps w') (hk : ps.length = N) : w'.heap[G3]? = some (.cells (ps.map (fun (f : PF) => Value.int .i64 f.l)).toArray 3 (0, 0)) := by
  rw [h.q, hk]; simp

/-- The law's memory in its last loop: the answer's row and the two rows of parents. -/
structure L3 (w : World) (n Ga G2 G3 : Nat) (ps : List PF) (Es : List (List Value)) (w' : World) : Prop where
  a : w'.heap[Ga]? = some (.cells Es.flatten.toArray 41 (0, 0))
  p : w'.heap[G2]? = some (.cells (ps.map (fun (f : PF) => Value.int .u64 f.b)).toArray 22 (0, 0))
  q : w'.heap[G3]? = some (.cells (ps.map (fun (f : PF) => Value.int .i64 f.l)).toArray 3 (0, 0))
  below : Below n w w'
theorem L3.step {w : World} {n Ga G2 G3 : Nat} {ps : List PF} {Es : List (List Value)} {W w' : World} (h : L3 w n Ga G2 G3 ps Es W) (hn : n ≤ W.heap.size) (hb : Below W.heap.size W w') : L3 w n Ga G2 G3 ps Es w' :=
  ⟨(hb.block _ (lt_of_block h.a)).trans h.a, (hb.block _ (lt_of_block h.p)).trans h.p, (hb.block _ (lt_of_block h.q)).trans h.q, h.below.trans (hb.mono hn)⟩

theorem row_at (Es : List (List Value)) (h8 : ∀ E ∈ Es, E.length = 8) (j : Nat) (E : List Value) (hE : Es[j]? = some E) (i : Nat) (u : Value) (hu : E[i]? = some u) : Es.flatten.toArray[j * 8 + i]? = some u := by
  obtain ⟨hj, rfl⟩ := List.getElem?_eq_some_iff.1 hE
  have hi := (List.getElem?_eq_some_iff.1 hu).1
  have hl : (Es.take j).flatten.length = j * 8 := by
    rw [flatten_len8 _ (fun E hE => h8 E (List.mem_of_mem_take hE)), List.length_take, Nat.min_eq_left (by omega)]
  rw [List.getElem?_toArray, flatten_split Es j hj, List.append_assoc, List.getElem?_append_right (by omega), List.getElem?_append_left (by omega), hl, Nat.add_sub_cancel_left]
  exact hu

def GotIs (ps : List PF) (tb j : Nat) (E : List Value) : Prop := (j < topOf tb → E = zero8) ∧ (¬ j < topOf tb → ExtIs (inside ps (sideOf tb j) (j + 1)) E)
theorem L3.got {w : World} {n Ga G2 G3 : Nat} {ps : List PF} {Es : List (List Value)} {w' : World} (h : L3 w n Ga G2 G3 ps Es w') {tb L : Nat} (hA : AheadIs ps tb L L Es) {j : Nat} (hj : j < L) :
    ∃ b1 l1 i1 c1 b2 l2 i2 c2 : Int, Hid (GotIs ps tb j [.int .u64 b1, .int .u8 l1, .int .u8 i1, .int .u8 c1, .int .u64 b2, .int .u8 l2, .int .u8 i2, .int .u8 c2]) ∧
      w'.cell? ⟨Ga, j * 8, none⟩ = some (.int .u64 b1) ∧ w'.cell? ⟨Ga, j * 8 + 1, none⟩ = some (.int .u8 l1) ∧ w'.cell? ⟨Ga, j * 8 + 2, none⟩ = some (.int .u8 i1) ∧ w'.cell? ⟨Ga, j * 8 + 3, none⟩ = some (.int .u8 c1) ∧
      w'.cell? ⟨Ga, j * 8 + 4, none⟩ = some (.int .u64 b2) ∧ w'.cell? ⟨Ga, j * 8 + 5, none⟩ = some (.int .u8 l2) ∧ w'.cell? ⟨Ga, j * 8 + 6, none⟩ = some (.int .u8 i2) ∧ w'.cell? ⟨Ga, j * 8 + 7, none⟩ = some (.int .u8 c2) := by
  have hlen : j < Es.length := by rw [hA.1]; exact hj
  have hE : Es[j]? = some Es[j] := by simp
  have hc := hA.2 j _ hE
  have key : ∀ b1 l1 i1 c1 b2 l2 i2 c2 : Int, Es[j] = [.int .u64 b1, .int .u8 l1, .int .u8 i1, .int .u8 c1, .int .u64 b2, .int .u8 l2, .int .u8 i2, .int .u8 c2] →
      w'.cell? ⟨Ga, j * 8, none⟩ = some (.int .u64 b1) ∧ w'.cell? ⟨Ga, j * 8 + 1, none⟩ = some (.int .u8 l1) ∧ w'.cell? ⟨Ga, j * 8 + 2, none⟩ = some (.int .u8 i1) ∧ w'.cell? ⟨Ga, j * 8 + 3, none⟩ = some (.int .u8 c1) ∧
      w'.cell? ⟨Ga, j * 8 + 4, none⟩ = some (.int .u64 b2) ∧ w'.cell? ⟨Ga, j * 8 + 5, none⟩ = some (.int .u8 l2) ∧ w'.cell? ⟨Ga, j * 8 + 6, none⟩ = some (.int .u8 i2) ∧ w'.cell? ⟨Ga, j * 8 + 7, none⟩ = some (.int .u8 c2) := by
    intro b1 l1 i1 c1 b2 l2 i2 c2 e
    have c : ∀ i u, [Value.int .u64 b1, .int .u8 l1, .int .u8 i1, .int .u8 c1, .int .u64 b2, .int .u8 l2, .int .u8 i2, .int .u8 c2][i]? = some u → w'.cell? ⟨Ga, j * 8 + i, none⟩ = some u := fun i u hu => box_cell h.a _ (row_at Es hA.len8 j Es[j] hE i u (by rw [e]; exact hu))
    exact ⟨c 0 _ rfl, c 1 _ rfl, c 2 _ rfl, c 3 _ rfl, c 4 _ rfl, c 5 _ rfl, c 6 _ rfl, c 7 _ rfl⟩
  by_cases hz : Es[j] = zero8
  · refine ⟨0, 0, 0, 0, 0, 0, 0, 0, ⟨fun _ => rfl, fun hn => ?_⟩, key _ _ _ _ _ _ _ _ hz⟩
    rw [if_neg (by omega), hz] at hc
    exact hc
  · split at hc
    · exact absurd hc hz
    · rename_i hn
      rcases hc with ⟨_, hc⟩ | ⟨f, g, hf, hg, hc⟩
      · exact absurd hc hz
      · refine ⟨f.b, f.l, 0, 1, g.b, g.l, 0, 1, ⟨fun hlt => absurd (Or.inl hlt) hn, fun _ => Or.inr ⟨f, g, hf, hg, rfl⟩⟩, key _ _ _ _ _ _ _ _ hc⟩

theorem L3.rows {w : World} {n Ga G2 G3 : Nat} {ps : List PF} {Es : List (List Value)} {w' : World} (h : L3 w n Ga G2 G3 ps Es w') {i : Nat} {f : PF} (hf : ps[i]? = some f) :
    w'.cell? ⟨G2, i, none⟩ = some (.int .u64 f.b) ∧ w'.cell? ⟨G3, i, none⟩ = some (.int .i64 f.l) :=
  ⟨box_cell h.p i (by simp [hf]), box_cell h.q i (by simp [hf])⟩

/-- In the inner loop: the copy of the answer and the box of the last match. -/
structure L4 (w : World) (n Ga G2 G3 : Nat) (ps : List PF) (Es : List (List Value)) (g : Nat) (got : Array Value) (ob ol oi oc : Int) (w' : World) : Prop where
  l3 : L3 w n Ga G2 G3 ps Es w'
  r : w'.heap[g]? = some (.cells got 41 (0, 0))
  o : w'.heap[g + 1]? = some (.cells #[.int .u64 ob, .int .u8 ol, .int .u8 oi, .int .u8 oc] 28 (0, 0))
  ga : Ga < g
  g2 : G2 < g
  g3 : G3 < g

def hasId (M : List PF) (b l i c : Int) : Bool := M.any (fun f => decide (b = f.b ∧ l = f.l ∧ i = 0 ∧ c = 1))
def OneIs (M : List PF) (b l i c : Int) : Prop := M = [] ∨ ∃ f ∈ M, b = f.b ∧ l = f.l ∧ i = 0 ∧ c = 1

theorem hasId_push (M : List PF) (f : PF) (b l i c : Int) : hasId (M ++ [f]) b l i c = (hasId M b l i c || decide (b = f.b ∧ l = f.l ∧ i = 0 ∧ c = 1)) := by
  unfold hasId
  rw [List.any_append]
  simp
theorem hasId_self {M : List PF} {f : PF} (h : f ∈ M) : hasId M f.b f.l 0 1 = true := by
  unfold hasId
  rw [List.any_eq_true]
  exact ⟨f, h, by simp⟩
theorem L4.step {w : World} {n Ga G2 G3 : Nat} {ps : List PF} {Es : List (List Value)} {g : Nat} {got : Array Value} {ob ol oi oc : Int} {W w' : World} (h : L4 w n Ga G2 G3 ps Es g got ob ol oi oc W) (hn : g + 1 < W.heap.size) (hb : Below W.heap.size W w') (hng : n ≤ g := by omega) : L4 w n Ga G2 G3 ps Es g got ob ol oi oc w' :=
  ⟨h.l3.step (by omega) hb, (hb.block _ (by omega)).trans h.r, (hb.block _ hn).trans h.o, h.ga, h.g2, h.g3⟩
theorem L4.set {w : World} {n Ga G2 G3 : Nat} {ps : List PF} {Es : List (List Value)} {g : Nat} {got : Array Value} {ob ol oi oc : Int} {W w' : World} (h : L4 w n Ga G2 G3 ps Es g got ob ol oi oc W) (hng : n ≤ g) {b l i c : Int}
    (h1 : w'.heap[g + 1]? = some (.cells #[.int .u64 b, .int .u8 l, .int .u8 i, .int .u8 c] 28 (0, 0))) (on : Only W w' [g + 1]) : L4 w n Ga G2 G3 ps Es g got b l i c w' := by
  have hga := h.ga
  have hg2 := h.g2
  have hg3 := h.g3
  exact ⟨⟨(on.block _ (lt_of_block h.l3.a) (by simp; omega)).trans h.l3.a, (on.block _ (lt_of_block h.l3.p) (by simp; omega)).trans h.l3.p, (on.block _ (lt_of_block h.l3.q) (by simp; omega)).trans h.l3.q, h.l3.below.trans (on.below (by have := lt_of_block h.r; omega) (by simp; omega))⟩,
    (on.block _ (lt_of_block h.r) (by simp)).trans h.r, h1, hga, hg2, hg3⟩

/-- What holds in each round of the inner loop. -/
def IR (w : World) (Ga G2 G3 : Nat) (ps : List PF) (Es : List (List Value)) (g k : Nat) (lo : Int) (j : Nat) (b1 l1 i1 c1 b2 l2 i2 c2 : Int) (n okl oks iv : Value) (wr : World) : Prop :=
  ∃ (i : Nat) (ob ol oi oc : Int), i ≤ k ∧ n = .int .i64 ((inside (ps.take i) lo (j + 1)).length : Nat) ∧ okl = .bool (hasId (inside (ps.take i) lo (j + 1)) b1 l1 i1 c1) ∧ oks = .bool (hasId (inside (ps.take i) lo (j + 1)) b2 l2 i2 c2) ∧ iv = .int .i64 i ∧ OneIs (inside (ps.take i) lo (j + 1)) ob ol oi oc ∧
    L4 w w.heap.size Ga G2 G3 ps Es g #[.int .u64 b1, .int .u8 l1, .int .u8 i1, .int .u8 c1, .int .u64 b2, .int .u8 l2, .int .u8 i2, .int .u8 c2] ob ol oi oc wr

theorem IR.skip {w : World} {Ga G2 G3 : Nat} {ps : List PF} {Es : List (List Value)} {g k : Nat} {lo : Int} {j : Nat} {b1 l1 i1 c1 b2 l2 i2 c2 : Int} {wr : World} {i m : Nat} {ob ol oi oc : Int} {M : List PF} {B1 B2 : Bool}
    (hik : i < k) (e : inside (ps.take (i + 1)) lo (j + 1) = inside (ps.take i) lo (j + 1)) (HM0 : M = inside (ps.take i) lo (j + 1) ∧ m = M.length ∧ B1 = hasId M b1 l1 i1 c1 ∧ B2 = hasId M b2 l2 i2 c2) (ho : OneIs M ob ol oi oc)
    (h4 : L4 w w.heap.size Ga G2 G3 ps Es g #[.int .u64 b1, .int .u8 l1, .int .u8 i1, .int .u8 c1, .int .u64 b2, .int .u8 l2, .int .u8 i2, .int .u8 c2] ob ol oi oc wr) :
    IR w Ga G2 G3 ps Es g k lo j b1 l1 i1 c1 b2 l2 i2 c2 (.int .i64 m) (.bool B1) (.bool B2) (.int .i64 (i + 1)) wr := by
  obtain ⟨hM, hm, hB1, hB2'⟩ := HM0
  exact ⟨i + 1, ob, ol, oi, oc, by omega, by rw [e, ← hM, hm], by rw [e, ← hM, hB1], by rw [e, ← hM, hB2'], by go_num, by rw [e, ← hM]; exact ho, h4⟩

theorem IR.take {w : World} {Ga G2 G3 : Nat} {ps : List PF} {Es : List (List Value)} {g k : Nat} {lo : Int} {j : Nat} {b1 l1 i1 c1 b2 l2 i2 c2 : Int} {wr : World} {i m : Nat} {M : List PF} {B1 B2 C1 C2 : Bool} {f : PF} {pb : Int} {pl : Nat}
    (hik : i < k) (e : inside (ps.take (i + 1)) lo (j + 1) = inside (ps.take i) lo (j + 1) ++ [f]) (HM0 : M = inside (ps.take i) lo (j + 1) ∧ m = M.length ∧ B1 = hasId M b1 l1 i1 c1 ∧ B2 = hasId M b2 l2 i2 c2)
    (hfb : f.b = pb) (hfl : f.l = pl) (e1 : C1 = (B1 || decide (b1 = pb ∧ l1 = pl ∧ i1 = 0 ∧ c1 = 1))) (e2 : C2 = (B2 || decide (b2 = pb ∧ l2 = pl ∧ i2 = 0 ∧ c2 = 1)))
    (h4 : L4 w w.heap.size Ga G2 G3 ps Es g #[.int .u64 b1, .int .u8 l1, .int .u8 i1, .int .u8 c1, .int .u64 b2, .int .u8 l2, .int .u8 i2, .int .u8 c2] pb pl 0 1 wr) :
    IR w Ga G2 G3 ps Es g k lo j b1 l1 i1 c1 b2 l2 i2 c2 (.int .i64 (m + 1)) (.bool C1) (.bool C2) (.int .i64 (i + 1)) wr := by
  obtain ⟨hM, hm, hB1, hB2'⟩ := HM0
  rw [← hM] at e
  exact ⟨i + 1, pb, pl, 0, 1, by omega, by rw [e, List.length_append, ← hm]; go_num, by rw [e, hasId_push, ← hB1, hfb, hfl, e1], by rw [e, hasId_push, ← hB2', hfb, hfl, e2], by go_num, Or.inr ⟨f, by rw [e]; simp, hfb.symm, hfl.symm, rfl, rfl⟩, h4⟩

set_option maxRecDepth 20000 in
set_option maxHeartbeats 8000000 in
theorem lawB_walk (x tl0 : Int) (a : Option Addr) (cap : Nat) (rs : List Raw) (w : World) (hx0 : 0 ≤ x) (hx1 : x < 18446744073709551616) (ht0 : 0 ≤ tl0) (ht1 : tl0 ≤ 255) (hr : IsRaw w a rs) (hrl : rs.length ≤ maxLen) (hT : TabAt w) :
    Calls Ybaf.prog 3 #[.int .u64 x, .int .u8 tl0, .slice a rs.length cap] w fun e w' => e = .returned (.bool true) ∧ Below w.heap.size w w' := by
  unfold maxLen at hrl
  by_cases hbig : 1024 < rs.length
  · have hbig' : (1024 : Int) < (rs.length : Int) := by omega
    go_enter Ybaf.func3, Ybaf.ntmps3
    go_wp2
    go_ret
    exact ⟨rfl, Below.refl _ _⟩
  · have hbig' : ¬ (1024 : Int) < (rs.length : Int) := by omega
    obtain ⟨L, hL, hL64⟩ : ∃ L : Nat, tl0 % 65 = (L : Int) ∧ L ≤ 64 := ⟨(tl0 % 65).toNat, by omega, by omega⟩
    go_enter Ybaf.func3, Ybaf.ntmps3
    go_wp2_with fail
    refine (rev_any x w hx0 hx1).mono ?_
    rintro e w1 ⟨⟨r, rfl, r0, r1⟩, hw1⟩
    obtain rfl := hw1.symm
    clear hw1
    go_wp2_with fail
    refine (mask_any L w (by omega) (by omega)).mono ?_
    rintro e w1 ⟨⟨mk, rfl⟩, hw1⟩
    obtain rfl := hw1.symm
    clear hw1
    obtain ⟨tb, htb, htb1⟩ : ∃ tb : Nat, bits BinOp.and IntKind.u64 r mk = (tb : Int) ∧ tb < 18446744073709551616 := ⟨(bits BinOp.and IntKind.u64 r mk).toNat, by have := and_range r mk; omega, by have := and_range r mk; omega⟩
    go_wp2
    go_loop [9, 10] (fun t i => ∃ k : Nat, k ≤ 64 ∧ i = .int .i64 k ∧ t = .int .i64 (tl tb k)) (fun _ i => 64 - (intOf i).toNat)
    case atStart => exact ⟨0, by omega, rfl, rfl⟩
    case round =>
      obtain ⟨k, hk, rfl, rfl⟩ := hrel
      have hkl := tl_le tb k
      by_cases hlt : k < 64
      · go_wp2
        · have hbt : decide (tb / 2 ^ (63 - k) % 2 = 1) = true := by rw [← bit_test tb k htb1]; assumption
          go_round
          case rel => exact ⟨k + 1, by omega, by go_num, by rw [tl_yes tb k (by simpa using hbt)]; go_num⟩
          case measure => simp [intOf]; omega
        · have hbt : decide (tb / 2 ^ (63 - k) % 2 = 1) = false := by rw [← bit_test tb k htb1]; assumption
          go_round
          case rel => exact ⟨k + 1, by omega, by go_num, by rw [tl_no tb k (by simpa using hbt)]⟩
          case measure => simp [intOf]; omega
      · have hke : k = 64 := by omega
        subst hke
        have htop := tl_top tb htb1
        have htop64 := topOf_le tb
        rw [htop]
        clear htop hkl
        obtain ⟨N, hN⟩ : ∃ N, N = rs.length := ⟨_, rfl⟩
        rw [← hN] at hbig hbig' hrl
        rw [← hN]
        obtain ⟨R1, hR1, hm1⟩ := make_gen 29 37 _ zero5 5 40 Ybaf.underlying29 Ybaf.info37 rfl rfl (by omega) N (by omega) (by omega)
        obtain ⟨R2, hR2, hm2⟩ := make_gen 30 22 _ [.int .u64 0] 1 8 Ybaf.underlying30 Ybaf.info22 rfl rfl (by omega) N (by omega) (by omega)
        obtain ⟨R3, hR3, hm3⟩ := make_gen 31 3 _ [.int .i64 0] 1 8 Ybaf.underlying31 Ybaf.info3 rfl rfl (by omega) N (by omega) (by omega)
        have HN : Hid (N = rs.length ∧ R1 = (List.replicate N zero5).flatten.toArray ∧ R2 = (List.replicate N [Value.int .u64 0]).flatten.toArray ∧ R3 = (List.replicate N [Value.int .i64 0]).flatten.toArray) := ⟨hN, hR1, hR2, hR3⟩
        clear hN hR1 hR2 hR3
        go_wp2
        generalize hw2 : World.alloc _ _ = w2
        have hB2 : LB w w.heap.size (w.heap.size + 1) (w.heap.size + 1 + 1) (w.heap.size + 1 + 1 + 1) N L tb [] w2 := by
          rw [← hw2]
          refine ⟨?_, ?_, ?_, ?_, ((((Below.refl _ _).alloc (Nat.le_refl _) _).alloc (by simp) _).alloc (by simp; omega) _).alloc (by simp; omega) _, by simp⟩
          · rw [Below.heap_alloc _ _ _ (by simp; omega), Below.heap_alloc _ _ _ (by simp; omega), Below.heap_alloc _ _ _ (by simp)]; exact heap_alloc_new w _
          · rw [Below.heap_alloc _ _ _ (by simp), Below.heap_alloc _ _ _ (by simp)]
            have := heap_alloc_new (w.alloc (.cells #[.int .u64 tb, .int .u8 L, .int .u8 0, .int .u8 0] 28)) (.cells R1 37)
            rw [World.size_alloc, HN.out.2.1] at this
            rw [HN.out.2.1]
            simpa using this
          · rw [Below.heap_alloc _ _ _ (by simp)]
            have := heap_alloc_new ((w.alloc (.cells #[.int .u64 tb, .int .u8 L, .int .u8 0, .int .u8 0] 28)).alloc (.cells R1 37)) (.cells R2 22)
            rw [World.size_alloc, World.size_alloc] at this
            rw [this, HN.out.2.2.1, rep_one]
            simp
          · have := heap_alloc_new (((w.alloc (.cells #[.int .u64 tb, .int .u8 L, .int .u8 0, .int .u8 0] 28)).alloc (.cells R1 37)).alloc (.cells R2 22)) (.cells R3 3)
            rw [World.size_alloc, World.size_alloc, World.size_alloc] at this
            rw [this, HN.out.2.2.2, rep_one]
            simp
        clear hw2 hm1 hm2 hm3
        obtain ⟨G3, hG3⟩ : ∃ G, G = w.heap.size + 1 + 1 + 1 := ⟨_, rfl⟩
        obtain ⟨G2, hG2⟩ : ∃ G, G = w.heap.size + 1 + 1 := ⟨_, rfl⟩
        obtain ⟨G1, hG1⟩ : ∃ G, G = w.heap.size + 1 := ⟨_, rfl⟩
        rw [← hG3] at hB2 ⊢
        rw [← hG2] at hB2 ⊢
        rw [← hG1] at hB2 ⊢
        have g01 : w.heap.size < G1 := by omega
        have g12 : G1 < G2 := by omega
        have g23 : G2 < G3 := by omega
        clear hG1 hG2 hG3
        go_loopw [71] (fun i wr => ∃ (k : Nat) (ps : List PF), k ≤ N ∧ i = .int .i64 k ∧ ps.length = k ∧ LB w w.heap.size G1 G2 G3 N L tb ps wr)
          (fun i _ => N - (intOf i).toNat)
        case atStart => exact ⟨0, [], Nat.zero_le _, rfl, rfl, hB2⟩
        case round =>
          obtain ⟨k, ps, hk, rfl, hpl, hB⟩ := hrel
          have lt0 := lt_of_block hB.t
          have lt1 := lt_of_block hB.f
          have lt2 := lt_of_block hB.p
          have lt3 := lt_of_block hB.q
          by_cases hkl : k < N
          · obtain ⟨rr, hrr⟩ : ∃ rr, rs[k]? = some rr := ⟨rs[k]'(by rw [← HN.out.1]; exact hkl), by simp⟩
            obtain ⟨b, off, rfl, hbw, c0, c1, v0, v1, v2, v3⟩ := hr k rr hrr
            have d0 := (hB.below.cell (p := ⟨b, off + k * 2, none⟩) hbw).trans c0
            have d1 := (hB.below.cell (p := ⟨b, off + k * 2 + 1, none⟩) hbw).trans c1
            obtain ⟨pl, hpl65, hpl64⟩ : ∃ pl : Nat, rr.lv % 65 = (pl : Int) ∧ pl ≤ 64 := ⟨(rr.lv % 65).toNat, by omega, by omega⟩
            clear c0 c1 hrr
            go_wp2_with fail
            refine (rev_any rr.rw _ v2 (by omega)).mono ?_
            rintro e w3 ⟨⟨r', rfl, r'0, r'1⟩, hw3⟩
            subst hw3
            go_wp2_with fail
            refine (mask_any pl _ (by omega) (by omega)).mono ?_
            rintro e w3 ⟨⟨mk2, rfl⟩, hw3⟩
            subst hw3
            obtain ⟨e2, e3, z2, z3⟩ := hB.next hpl hkl
            generalize bits BinOp.or IntKind.u64 (tb : Int) _ = orv
            have hpo : (ps.flatMap PF.cells).length = k * 5 := by rw [flatMap_len5, hpl]
            go_upto_region 22 with fail
            generalize bits BinOp.and IntKind.u64 orv mk2 = pb
            have hF5 := hB.rowF1 hpl hkl g12 g23 (.int .u64 pb) (.int .i64 pl) (.cells #[.int .u8 rr.lv, .int .u8 rr.rw] 33)
            have sz5 : (((wr.setCell ⟨G2, k, none⟩ (.int .u64 pb)).setCell ⟨G3, k, none⟩ (.int .i64 pl)).alloc (.cells #[.int .u8 rr.lv, .int .u8 rr.rw] 33)).heap.size = wr.heap.size + 1 := by rw [World.size_alloc]; simp [World.setCell]
            generalize hw5 : World.alloc _ _ = w5 at hF5 sz5 ⊢
            have lt5 := lt_of_block hF5
            have SZ5 : Hid (w5.heap.size = wr.heap.size + 1) := sz5
            clear e2 e3 z2 z3 d0 d1 sz5
            go_wp2_with (refine wpList_store_box rfl 37 (.tmp 108) (.tmp 107) rfl G1 37 (ps.flatMap PF.cells) zero5 ((List.replicate (N-k-1) zero5).flatten) ((Below.heap_alloc w5 _ G1 lt5).trans hF5) (k*5) hpo #[.int .u64 pb, .int .u8 pl, .int .u8 0, .int .u8 0, .slice (some ⟨w5.heap.size,0,none⟩) 1 1] rfl rfl rfl Ybaf.size37 (by simp [Value.oneCell']) ?_; intro w4 h4 o4)
            go_roundw
            case rel =>
              rw [← hw5] at o4
              exact ⟨k + 1, ps ++ [⟨pb, pl, some ⟨w5.heap.size, 0, none⟩, 1⟩], by omega, by go_num, by rw [List.length_append, hpl]; rfl, hB.push hpl hkl g01 g12 g23 _ _ ⟨pb, pl, some ⟨w5.heap.size, 0, none⟩, 1⟩ (by simp) (by simp; omega) h4 o4⟩
            case measure => simp [intOf]; omega
          · have hkN : k = N := by omega
            subst hkN
            have hpf := hB.fams hpl
            obtain ⟨t0, t1, t2, t3⟩ := cells4 hB.t
            have hcall := ahead_any wr (some ⟨G1, 0, none⟩) k ps tb L hpf (by omega) htb1 hL64 (hT.below hB.below)
            rw [hpl] at hcall
            go_wp2_with fail
            refine hcall.mono ?_
            rintro e w3 ⟨⟨Ga, Es, rfl, hA, hAI⟩, hb3⟩
            have hB3 : L3 w w.heap.size Ga G2 G3 ps Es w3 := ⟨hA, (hb3.block _ lt2).trans (hB.row2 hpl), (hb3.block _ lt3).trans (hB.row3 hpl), hB.below.trans (hb3.mono (by omega))⟩
            have HE : Hid (∀ f ∈ ps, 0 ≤ f.l ∧ f.l ≤ 64) := hB.each
            clear hcall hpf t0 t1 t2 t3 hB hb3 hA lt0 lt1 lt2 lt3
            have HAI : Hid (AheadIs ps tb L L Es) := hAI
            clear hAI
            go_wp2_with fail
            go_loopw [20] (fun j wr => ∃ (q : Nat), q ≤ L ∧ j = .int .i64 q ∧ L3 w w.heap.size Ga G2 G3 ps Es wr) (fun j _ => L - (intOf j).toNat)
            case atStart => exact ⟨0, Nat.zero_le _, rfl, hB3⟩
            case round =>
              clear hB3
              obtain ⟨j, hj, rfl, h3⟩ := hrel
              have sz3 := h3.below.size
              by_cases hjl : j < L
              · obtain ⟨b1, l1, i1, c1, b2, l2, i2, c2, HE8, q0, q1, q2, q3, q4, q5, q6, q7⟩ := h3.got HAI.out hjl
                by_cases hjt : j < topOf tb
                · have hz := HE8.out.1 hjt
                  simp only [zero8, List.cons.injEq, Value.int.injEq, true_and, and_true] at hz
                  obtain ⟨rfl, rfl, rfl, rfl, rfl, rfl, rfl, rfl⟩ := hz
                  go_wp2_with fail
                  go_roundw
                  case rel => exact ⟨j + 1, by omega, by go_num, h3.step sz3 ((Below.refl _ _).alloc (Nat.le_refl _) _)⟩
                  case measure => simp [intOf]; omega
                · go_wp2_with fail
                  rw [show bits BinOp.or IntKind.u64 (tb : Int) (IntKind.u64.wrap (2 ^ (63 - j))) = sideOf tb j from rfl, hi_eq _ (j + 1) (by omega)]
                  obtain ⟨lo, hlo⟩ : ∃ lo, lo = sideOf tb j := ⟨_, rfl⟩
                  obtain ⟨hi, hhi⟩ : ∃ hi, hi = hiOf lo ((j + 1 : Nat) : Int) := ⟨_, rfl⟩
                  rw [← hlo, ← hhi]
                  have HLH : Hid (lo = sideOf tb j ∧ hi = hiOf lo ((j + 1 : Nat) : Int)) := ⟨hlo, hhi⟩
                  clear hlo hhi q0 q1 q2 q3 q4 q5 q6 q7
                  generalize hw4 : World.alloc _ _ = w4
                  obtain ⟨wo, hwo⟩ : ∃ wo, wo = wr := ⟨_, rfl⟩
                  subst hwo
                  have h4 : L4 w w.heap.size Ga G2 G3 ps Es wo.heap.size #[.int .u64 b1, .int .u8 l1, .int .u8 i1, .int .u8 c1, .int .u64 b2, .int .u8 l2, .int .u8 i2, .int .u8 c2] 0 0 0 0 w4 := by
                    rw [← hw4]
                    refine ⟨h3.step sz3 (((Below.refl _ _).alloc (Nat.le_refl _) _).alloc (by simp) _), ?_, ?_, lt_of_block h3.a, lt_of_block h3.p, lt_of_block h3.q⟩
                    · rw [Below.heap_alloc _ _ _ (by simp)]; exact heap_alloc_new _ _
                    · have := heap_alloc_new (wo.alloc (.cells #[.int .u64 b1, .int .u8 l1, .int .u8 i1, .int .u8 c1, .int .u64 b2, .int .u8 l2, .int .u8 i2, .int .u8 c2] 41)) (.cells #[.int .u64 0, .int .u8 0, .int .u8 0, .int .u8 0] 28)
                      rw [World.size_alloc] at this
                      exact this
                  clear hw4
                  go_loopw [24, 25, 26, 146] (fun n okl oks iv wr => IR w Ga G2 G3 ps Es wo.heap.size k lo j b1 l1 i1 c1 b2 l2 i2 c2 n okl oks iv wr)
                    (fun _ _ _ iv _ => k - (intOf iv).toNat)
                  case atStart => unfold IR; exact ⟨0, 0, 0, 0, 0, Nat.zero_le _, rfl, rfl, rfl, rfl, Or.inl rfl, h4⟩
                  case round =>
                    clear h4
                    unfold IR at hrel
                    obtain ⟨i, ob, ol, oi, oc, hi', rfl, rfl, rfl, rfl, hone, h4⟩ := hrel
                    have sz4 := h4.l3.below.size
                    have hml : (inside (ps.take i) lo (j + 1)).length ≤ 1024 := by
                      have := List.length_filter_le (fun f : PF => inB f.b f.l lo (j + 1)) (ps.take i)
                      rw [List.length_take] at this
                      unfold inside
                      omega
                    obtain ⟨M, hM⟩ : ∃ M, M = inside (ps.take i) lo (j + 1) := ⟨_, rfl⟩
                    rw [← hM] at hone hml
                    rw [← hM]
                    obtain ⟨m, hm⟩ : ∃ m, m = M.length := ⟨_, rfl⟩
                    obtain ⟨B1, hB1⟩ : ∃ B, B = hasId M b1 l1 i1 c1 := ⟨_, rfl⟩
                    obtain ⟨B2, hB2'⟩ : ∃ B, B = hasId M b2 l2 i2 c2 := ⟨_, rfl⟩
                    rw [← hm] at hml
                    rw [← hm, ← hB1, ← hB2']
                    have HM0 : Hid (M = inside (ps.take i) lo (j + 1) ∧ m = M.length ∧ B1 = hasId M b1 l1 i1 c1 ∧ B2 = hasId M b2 l2 i2 c2) := ⟨hM, hm, hB1, hB2'⟩
                    clear hM hm hB1 hB2'
                    have HONE : Hid (OneIs M ob ol oi oc) := hone
                    clear hone
                    by_cases hik : i < k
                    · obtain ⟨f, hf⟩ : ∃ f, ps[i]? = some f := ⟨ps[i]'(by omega), by simp⟩
                      have hfl := HE.out f (List.mem_of_getElem? hf)
                      obtain ⟨pb, pl, hpb, hpl', hpl64⟩ : ∃ (pb : Int) (pl : Nat), f.b = pb ∧ f.l = (pl : Int) ∧ pl ≤ 64 := ⟨f.b, f.l.toNat, rfl, by omega, by omega⟩
                      obtain ⟨e2, e3⟩ := h4.l3.rows hf
                      rw [hpb] at e2
                      rw [hpl'] at e3
                      have HM := inside_take ps lo (j + 1) i f hf
                      rw [hpb, hpl'] at HM
                      have HM' : Hid _ := HM
                      clear HM
                      have HF : Hid (ps[i]? = some f ∧ f.b = pb ∧ f.l = pl) := ⟨hf, hpb, hpl'⟩
                      clear hf hfl hpb hpl'
                      have wpl : IntKind.u8.wrap (pl : Int) = pl := by rw [IntKind.wrap_u8]; omega
                      have i0 : (0 : Int) ≤ (i : Int) := by omega
                      have i1k : (i : Int) < (k : Int) := by omega
                      obtain ⟨ph, hph⟩ : ∃ ph, IntKind.u64.wrap (pb + 18446744073709551615 / 2 ^ pl) = ph := ⟨_, rfl⟩
                      have HP : Hid (ph = hiOf pb pl) := by rw [← hph]; exact hi_eq pb pl hpl64
                      by_cases hc1 : pb < lo
                      · go_wp2_with fail
                        go_roundw
                        case rel =>
                          have e : inside (ps.take (i + 1)) lo (j + 1) = inside (ps.take i) lo (j + 1) := by
                            rw [HM'.out, if_neg (by unfold inB; simp; omega), List.append_nil]
                          exact IR.skip hik e HM0.out HONE.out h4
                        case measure => simp [intOf]; omega
                      · by_cases hc2 : hi < ph
                        · go_wp2_with fail
                          go_roundw
                          case rel =>
                            have e : inside (ps.take (i + 1)) lo (j + 1) = inside (ps.take i) lo (j + 1) := by
                              have h1 := HP.out
                              have h2 := HLH.out.2
                              rw [h1, h2] at hc2
                              rw [HM'.out, if_neg (by unfold inB; simp; intro _; exact hc2), List.append_nil]
                            exact IR.skip hik e HM0.out HONE.out h4
                          case measure => simp [intOf]; omega
                        · have hin : inB f.b f.l lo (j + 1) = true := by
                            have h1 := HP.out
                            have h2 := HLH.out.2
                            rw [h1, h2] at hc2
                            have h3 : lo ≤ pb := by omega
                            have h4 : hiOf pb pl ≤ hiOf lo ((j + 1 : Nat) : Int) := by omega
                            rw [HF.out.2.1, HF.out.2.2]
                            unfold inB
                            simp
                            exact ⟨h3, h4⟩
                          have HMM : Hid (inside (ps.take (i + 1)) lo (j + 1) = inside (ps.take i) lo (j + 1) ++ [f]) := by
                            show _ = _
                            rw [HM'.out]
                            rw [HF.out.2.1, HF.out.2.2] at hin
                            rw [if_pos hin]
                          have hX := HE8.out.2 hjt
                          rw [← HLH.out.1] at hX
                          have hmem : f ∈ inside ps lo (j + 1) := List.mem_filter.2 ⟨List.mem_of_getElem? HF.out.1, hin⟩
                          obtain ⟨rfl, rfl, rfl, rfl⟩ : (0 : Int) = i1 ∧ (1 : Int) = c1 ∧ (0 : Int) = i2 ∧ (1 : Int) = c2 := by
                            rcases hX with ⟨h0, _⟩ | ⟨f', g', _, _, hE⟩
                            · rw [h0] at hmem; simp at hmem
                            · simp only [pair8, List.cons.injEq, Value.int.injEq, true_and, and_true] at hE
                              omega
                          clear HM' hX hmem hin HE8
                          have nz2 := World.new_ne wr ⟨G2, i, none⟩ e2
                          have nz3 := World.new_ne wr ⟨G3, i, none⟩ e3
                          go_upto_region 45 with fail
                          go_region_held3 (fun w' => w'.cell? ⟨G2, i, none⟩ = some (.int .u64 pb) ∧ w'.cell? ⟨G3, i, none⟩ = some (.int .i64 pl)) (go_keep) (fail)
                          generalize hw5 : World.drew _ = w5
                          have b5 : Below wr.heap.size wr w5 := by rw [← hw5]; exact ((Below.refl _ _).alloc (Nat.le_refl _) _).drew
                          have h5 := h4.step (lt_of_block h4.o) b5
                          have n5 : w5.heap[wr.heap.size]? = some (.cells #[.int .u64 pb, .int .u8 pl, .int .u8 0, .int .u8 1] 28 (0, 0)) := by rw [← hw5]; exact heap_alloc_new _ _
                          obtain ⟨d0, d1, d2, d3⟩ := cells4 n5
                          clear e2 e3 nz2 nz3 hw5
                          have lt5 := lt_of_block h4.o
                          have t1 : (pb = b1 ∧ (pl : Int) = l1) ∨ b1 ≠ pb ∨ (pb = b1 ∧ l1 ≠ pl) := by omega
                          have t2 : (pb = b2 ∧ (pl : Int) = l2) ∨ b2 ≠ pb ∨ (pb = b2 ∧ l2 ≠ pl) := by omega
                          rcases t1 with ⟨c1, c2⟩ | c1 | ⟨c1, c2⟩ <;> rcases t2 with ⟨c3, c4⟩ | c3 | ⟨c3, c4⟩ <;> (try subst c1) <;> (try subst c2) <;> (try subst c3) <;> (try subst c4)
                          all_goals
                            go_wp2_with (refine wpList_store_box rfl 28 (.tmp 27) (.tmp 181) rfl (wo.heap.size + 1) 28 [] [.int .u64 ob, .int .u8 ol, .int .u8 oi, .int .u8 oc] [] h5.o 0 rfl #[.int .u64 pb, .int .u8 pl, .int .u8 0, .int .u8 1] rfl rfl rfl Ybaf.size28 (by simp [Value.oneCell']) ?_; intro w6 h6 o6; have n6 := (o6.block _ (lt_of_block n5) (by simp; omega)).trans n5; have h6' := h5.set (b := pb) (l := pl) (i := 0) (c := 1) sz3 h6 o6; clear d0 d1 d2 d3 h4 h5 n5 o6 b5 h6; obtain ⟨d0, d1, d2, d3⟩ := cells4 n6; obtain ⟨q0, q1, q2, q3, q4, q5, q6, q7⟩ := cells8 h6'.r)
                            go_roundw
                            case rel =>
                              exact IR.take hik HMM.out HM0.out HF.out.2.1 HF.out.2.2 (by simp [*]) (by simp [*]) h6'
                            case measure => simp [intOf]; omega
                    · have hie : i = k := by omega
                      subst hie
                      obtain ⟨q0, q1, q2, q3, q4, q5, q6, q7⟩ := cells8 h4.r
                      obtain ⟨d0, d1, d2, d3⟩ := cells4 h4.o
                      obtain ⟨hM, hm, hB1, hB2'⟩ := HM0.out
                      have hX := HE8.out.2 hjt
                      rw [← HLH.out.1] at hX
                      rw [List.take_of_length_le (by omega)] at hM
                      rw [← hM] at hX
                      have hO := HONE.out
                      clear HM0 HONE HE8 hM
                      rcases M with _ | ⟨f, _ | ⟨g, M'⟩⟩
                      · simp at hm
                        subst hm
                        clear hB1 hB2'
                        rcases hX with ⟨_, hX⟩ | ⟨f, g, hf, hg, hX⟩
                        · simp only [zero8, List.cons.injEq, Value.int.injEq, true_and, and_true] at hX
                          obtain ⟨rfl, rfl, rfl, rfl, rfl, rfl, rfl, rfl⟩ := hX
                          go_wp2_with fail
                          go_roundw
                          case rel => exact ⟨j + 1, by omega, by go_num, h4.l3⟩
                          case measure => simp [intOf]; omega
                        · simp at hf
                      · simp at hm
                        subst hm
                        clear hB1 hB2'
                        rcases hX with ⟨hX, _⟩ | ⟨f', g', hf, hg, hX⟩
                        · simp at hX
                        · rw [List.mem_singleton] at hf hg
                          subst hf
                          subst hg
                          rcases hO with hO | ⟨f', hf, hO⟩
                          · simp at hO
                          · rw [List.mem_singleton] at hf
                            subst hf
                            obtain ⟨rfl, rfl, rfl, rfl⟩ := hO
                            simp only [pair8, List.cons.injEq, Value.int.injEq, true_and, and_true] at hX
                            obtain ⟨rfl, rfl, rfl, rfl, rfl, rfl, rfl, rfl⟩ := hX
                            go_wp2_with fail
                            go_roundw
                            case rel => exact ⟨j + 1, by omega, by go_num, h4.l3⟩
                            case measure => simp [intOf]; omega
                      · have hm2 : 2 ≤ m := by rw [hm]; simp
                        clear hm
                        rcases hX with ⟨hX, _⟩ | ⟨f', g', hf, hg, hX⟩
                        · simp at hX
                        · simp only [pair8, List.cons.injEq, Value.int.injEq, true_and, and_true] at hX
                          obtain ⟨rfl, rfl, rfl, rfl, rfl, rfl, rfl, rfl⟩ := hX
                          rw [hasId_self hf] at hB1
                          rw [hasId_self hg] at hB2'
                          subst hB1
                          subst hB2'
                          clear hO hf hg
                          go_wp2_with fail
                          go_roundw
                          case rel => exact ⟨j + 1, by omega, by go_num, h4.l3⟩
                          case measure => simp [intOf]; omega
              · go_wp2_with fail
                go_ret
                exact ⟨rfl, h3.below⟩
end Go.Proofs.YbulkadfsFmt
