import Derived.Test.YbulkacyeFr
import Derived.Test.YbulkacyeRead2
import Derived.Test.YbulkacyeLine
import Derived.Test.YbulkacyeCmp2
import Derived.Test.YbulkacyeMem
import Derived.Lib.ConvBytes
namespace Go.Proofs.Ybulkacye
open Go.RowKit
set_option linter.unusedVariables false
set_option linter.unusedSectionVars false
variable {v0 v1 v7 v8 v10 v11 v12 v13 v18 v19 v20 v43 v44 v45 : Value} {a : Act} {Q : Exit → Act → World → Prop} {w : World} {base : Nat} {ao bo : Option Addr} {ca cb : Nat} {bs ns : List UInt8}

/-- The frame of function 7 by its variables. -/
structure Fb (v0 v1 v7 v8 v10 v11 v12 v13 v18 v19 v20 v43 v44 v45 : Value) (a : Act) : Prop where
  sz : a.tmps.size = 59
  df : a.defers = []
  e0 : a.tmps.getD 0 undef = v0
  e1 : a.tmps.getD 1 undef = v1
  e7 : a.tmps.getD 7 undef = v7
  e8 : a.tmps.getD 8 undef = v8
  e10 : a.tmps.getD 10 undef = v10
  e11 : a.tmps.getD 11 undef = v11
  e12 : a.tmps.getD 12 undef = v12
  e13 : a.tmps.getD 13 undef = v13
  e18 : a.tmps.getD 18 undef = v18
  e19 : a.tmps.getD 19 undef = v19
  e20 : a.tmps.getD 20 undef = v20
  e43 : a.tmps.getD 43 undef = v43
  e44 : a.tmps.getD 44 undef = v44
  e45 : a.tmps.getD 45 undef = v45

set_option maxRecDepth 100000 in
theorem Fb_range (g : Nat → Value) : (List.range 59).map g = (g 0 :: g 1 :: g 2 :: g 3 :: g 4 :: g 5 :: g 6 :: g 7 :: g 8 :: g 9 :: g 10 :: g 11 :: g 12 :: g 13 :: g 14 :: g 15 :: g 16 :: g 17 :: g 18 :: g 19 :: g 20 :: g 21 :: g 22 :: g 23 :: g 24 :: g 25 :: g 26 :: g 27 :: g 28 :: g 29 :: g 30 :: g 31 :: g 32 :: g 33 :: g 34 :: g 35 :: g 36 :: g 37 :: g 38 :: g 39 :: g 40 :: g 41 :: g 42 :: g 43 :: g 44 :: g 45 :: g 46 :: g 47 :: g 48 :: g 49 :: g 50 :: g 51 :: g 52 :: g 53 :: g 54 :: g 55 :: g 56 :: g 57 :: g 58 :: []) := by
  kernel_rfl

set_option maxRecDepth 100000 in
theorem Fb.lay {v0 v1 v7 v8 v10 v11 v12 v13 v18 v19 v20 v43 v44 v45 : Value} {a : Act} (h : Fb v0 v1 v7 v8 v10 v11 v12 v13 v18 v19 v20 v43 v44 v45 a) : ∃ u : Nat → Value, a = ⟨List.toArray (v0 :: v1 :: u 2 :: u 3 :: u 4 :: u 5 :: u 6 :: v7 :: v8 :: u 9 :: v10 :: v11 :: v12 :: v13 :: u 14 :: u 15 :: u 16 :: u 17 :: v18 :: v19 :: v20 :: u 21 :: u 22 :: u 23 :: u 24 :: u 25 :: u 26 :: u 27 :: u 28 :: u 29 :: u 30 :: u 31 :: u 32 :: u 33 :: u 34 :: u 35 :: u 36 :: u 37 :: u 38 :: u 39 :: u 40 :: u 41 :: u 42 :: v43 :: v44 :: v45 :: u 46 :: u 47 :: u 48 :: u 49 :: u 50 :: u 51 :: u 52 :: u 53 :: u 54 :: u 55 :: u 56 :: u 57 :: u 58 :: []), []⟩ := by
  obtain ⟨⟨l⟩, df⟩ := a
  obtain ⟨sz, hd, e0, e1, e7, e8, e10, e11, e12, e13, e18, e19, e20, e43, e44, e45⟩ := h
  have hd' : df = [] := hd
  have hl : l = (l.getD 0 undef :: l.getD 1 undef :: l.getD 2 undef :: l.getD 3 undef :: l.getD 4 undef :: l.getD 5 undef :: l.getD 6 undef :: l.getD 7 undef :: l.getD 8 undef :: l.getD 9 undef :: l.getD 10 undef :: l.getD 11 undef :: l.getD 12 undef :: l.getD 13 undef :: l.getD 14 undef :: l.getD 15 undef :: l.getD 16 undef :: l.getD 17 undef :: l.getD 18 undef :: l.getD 19 undef :: l.getD 20 undef :: l.getD 21 undef :: l.getD 22 undef :: l.getD 23 undef :: l.getD 24 undef :: l.getD 25 undef :: l.getD 26 undef :: l.getD 27 undef :: l.getD 28 undef :: l.getD 29 undef :: l.getD 30 undef :: l.getD 31 undef :: l.getD 32 undef :: l.getD 33 undef :: l.getD 34 undef :: l.getD 35 undef :: l.getD 36 undef :: l.getD 37 undef :: l.getD 38 undef :: l.getD 39 undef :: l.getD 40 undef :: l.getD 41 undef :: l.getD 42 undef :: l.getD 43 undef :: l.getD 44 undef :: l.getD 45 undef :: l.getD 46 undef :: l.getD 47 undef :: l.getD 48 undef :: l.getD 49 undef :: l.getD 50 undef :: l.getD 51 undef :: l.getD 52 undef :: l.getD 53 undef :: l.getD 54 undef :: l.getD 55 undef :: l.getD 56 undef :: l.getD 57 undef :: l.getD 58 undef :: []) := (list_eta l 59 sz).trans (Fb_range _)
  have e0' : l.getD 0 undef = v0 := by rw [← e0]; simp [List.getD, Array.getD_eq_getD_getElem?]
  have e1' : l.getD 1 undef = v1 := by rw [← e1]; simp [List.getD, Array.getD_eq_getD_getElem?]
  have e7' : l.getD 7 undef = v7 := by rw [← e7]; simp [List.getD, Array.getD_eq_getD_getElem?]
  have e8' : l.getD 8 undef = v8 := by rw [← e8]; simp [List.getD, Array.getD_eq_getD_getElem?]
  have e10' : l.getD 10 undef = v10 := by rw [← e10]; simp [List.getD, Array.getD_eq_getD_getElem?]
  have e11' : l.getD 11 undef = v11 := by rw [← e11]; simp [List.getD, Array.getD_eq_getD_getElem?]
  have e12' : l.getD 12 undef = v12 := by rw [← e12]; simp [List.getD, Array.getD_eq_getD_getElem?]
  have e13' : l.getD 13 undef = v13 := by rw [← e13]; simp [List.getD, Array.getD_eq_getD_getElem?]
  have e18' : l.getD 18 undef = v18 := by rw [← e18]; simp [List.getD, Array.getD_eq_getD_getElem?]
  have e19' : l.getD 19 undef = v19 := by rw [← e19]; simp [List.getD, Array.getD_eq_getD_getElem?]
  have e20' : l.getD 20 undef = v20 := by rw [← e20]; simp [List.getD, Array.getD_eq_getD_getElem?]
  have e43' : l.getD 43 undef = v43 := by rw [← e43]; simp [List.getD, Array.getD_eq_getD_getElem?]
  have e44' : l.getD 44 undef = v44 := by rw [← e44]; simp [List.getD, Array.getD_eq_getD_getElem?]
  have e45' : l.getD 45 undef = v45 := by rw [← e45]; simp [List.getD, Array.getD_eq_getD_getElem?]
  refine ⟨fun i => l.getD i undef, ?_⟩
  rw [hd', ← e0', ← e1', ← e7', ← e8', ← e10', ← e11', ← e12', ← e13', ← e18', ← e19', ← e20', ← e43', ← e44', ← e45']
  exact congrArg (fun x => (⟨⟨x⟩, []⟩ : Act)) hl
noncomputable def pc7 (l : List Nat) : Code := sub l (Yba.f7.body.getD .skip)
/-- A slice of bytes below base. -/
def Byts (base : Nat) (w : World) (ao : Option Addr) (l : List UInt8) : Prop :=
  ∀ (i : Nat) (b : UInt8), l[i]? = some b → ∃ g off, ao = some ⟨g, off, none⟩ ∧ g < base ∧ w.cell? ⟨g, off + i, none⟩ = some (.int .u8 (b.toNat : Int))
theorem Byts.below {base : Nat} {w w' : World} {ao : Option Addr} {l : List UInt8} (h : Byts base w ao l) (hb : Below base w w') : Byts base w' ao l := by
  intro i s hs
  obtain ⟨g, off, h1, h2, h3⟩ := h i s hs
  refine ⟨g, off, h1, h2, ?_⟩
  rw [World.cell?_of_block (a := ⟨g, off + i, none⟩) (hb.block g h2)]
  exact h3

set_option maxRecDepth 20000 in
set_option maxHeartbeats 4000000 in
theorem bp5 {i : Nat} {b : UInt8} {g off : Nat} (hl : bs.length ≤ 1000) (hi : i < bs.length) (hc : w.cell? ⟨g, off + i, none⟩ = some (.int .u8 (b.toNat : Int))) (h : Fb v0 v1 v7 v8 v10 v11 v12 v13 (.slice (some ⟨g, off, none⟩) bs.length ca) v19 (.int .i64 i) v43 v44 v45 a) (hQ : ∀ a', Fb v0 v1 v7 v8 (.int .u8 (b.toNat : Int)) v11 v12 v13 (.slice (some ⟨g, off, none⟩) bs.length ca) v19 (.int .i64 i) v43 v44 v45 a' → Q .normal a' w) : Code.wp Yba.prog (pc7 [1, 1, 1, 0, 1, 0, 0, 1, 1, 0, 0, 0]) Q a w := by
  obtain ⟨u, rfl⟩ := h.lay
  clear h
  conv => arg 2; whnf
  go_wp2
  exact ⟨rfl, rfl, rfl, rfl, rfl, rfl, rfl, rfl, rfl, rfl, rfl, rfl, rfl, rfl, rfl, rfl⟩

set_option maxRecDepth 20000 in
set_option maxHeartbeats 4000000 in
theorem bp6 {b : UInt8} (h : Fb v0 v1 v7 v8 (.int .u8 (b.toNat : Int)) v11 v12 v13 v18 v19 v20 v43 v44 v45 a) (hQ : ∀ a', Fb v0 v1 v7 v8 (.int .u8 (b.toNat : Int)) (.string (lnOf b)) v12 v13 v18 v19 v20 v43 v44 v45 a' → Q .normal a' w) : Code.wp Yba.prog (pc7 [1, 1, 1, 0, 1, 0, 0, 1, 1, 0, 0, 1, 0]) Q a w := by
  have hc := aline_any b w
  obtain ⟨u, rfl⟩ := h.lay
  clear h
  conv => arg 2; whnf
  go_wp2_with fail
  refine hc.mono ?_
  rintro _ _ ⟨rfl, rfl⟩
  clear hc
  go_wp2
  exact ⟨rfl, rfl, rfl, rfl, rfl, rfl, rfl, rfl, rfl, rfl, rfl, rfl, rfl, rfl, rfl, rfl⟩

/-- Does the version show a line of this code? -/
def shOf (b : UInt8) : Bool := bits BinOp.and IntKind.u8 (b.toNat : Int) 4 == 0
def olds (l : List UInt8) : List ByteArray := (l.filter shOf).map lnOf
def bodyOf (l : List UInt8) : List UInt8 := l.flatMap fun b => [chOf b, 10]
def endsOf (l : List UInt8) : List Int := (List.range l.length).map fun (i : Nat) => 2 * (i : Int) + 2
def vsel (l : List UInt8) : List (UInt8 × Nat) := l.zipIdx.filter fun x => shOf x.1
def versOf (l : List UInt8) : List Int := (vsel l).map fun x => (x.2 : Int)
def strs (l : List ByteArray) : List Value := l.map Value.string
theorem strs_len (l : List ByteArray) : (strs l).length = l.length := by simp [strs]
theorem bodyOf_len (l : List UInt8) : (bodyOf l).length = 2 * l.length := by
  induction l with
  | nil => rfl
  | cons b l ih => unfold bodyOf at *; rw [List.flatMap_cons, List.length_append, ih]; simp; omega
theorem bodyOf_snoc (l : List UInt8) (b : UInt8) : bodyOf (l ++ [b]) = bodyOf l ++ [chOf b, 10] := by simp [bodyOf]
theorem endsOf_len (l : List UInt8) : (endsOf l).length = l.length := by simp [endsOf]
theorem endsOf_snoc (l : List UInt8) (b : UInt8) : endsOf (l ++ [b]) = endsOf l ++ [((bodyOf l ++ [chOf b, 10]).length : Int)] := by
  unfold endsOf
  rw [List.length_append, List.length_singleton, List.range_succ, List.map_append, List.length_append, bodyOf_len]
  simp
theorem vsel_pos (l : List UInt8) (b : UInt8) (h : shOf b = true) : vsel (l ++ [b]) = vsel l ++ [(b, l.length)] := by
  unfold vsel; rw [List.zipIdx_append, List.filter_append]; simp [List.zipIdx, h]
theorem vsel_neg (l : List UInt8) (b : UInt8) (h : shOf b = false) : vsel (l ++ [b]) = vsel l := by
  unfold vsel; rw [List.zipIdx_append, List.filter_append]; simp [List.zipIdx, h]
theorem versOf_snoc (l : List UInt8) (b : UInt8) : versOf (l ++ [b]) = if shOf b then versOf l ++ [((endsOf l).length : Int)] else versOf l := by
  unfold versOf
  rw [endsOf_len]
  cases h : shOf b with
  | true => rw [vsel_pos l b h]; simp
  | false => rw [vsel_neg l b h]; simp
theorem versOf_le (l : List UInt8) : (versOf l).length ≤ l.length := by
  unfold versOf vsel
  have := List.length_filter_le (fun x : UInt8 × Nat => shOf x.1) l.zipIdx
  simpa using this
theorem olds_le (l : List UInt8) : (olds l).length ≤ l.length := by
  unfold olds; rw [List.length_map]; exact List.length_filter_le _ _
theorem olds_pos (l : List UInt8) (b : UInt8) (h : shOf b = true) : olds (l ++ [b]) = olds l ++ [lnOf b] := by simp [olds, h]
theorem olds_neg (l : List UInt8) (b : UInt8) (h : shOf b = false) : olds (l ++ [b]) = olds l := by simp [olds, h]
theorem Yba.info9 : (Yba.prog.info? 9).map (fun i => (i.zero, i.size, i.bytes)) = some (some (.string ByteArray.empty), 1, 16) := by kernel_rfl
theorem news_one' (w : World) (a : Value) (t : TypeId) : ∀ j u, [a][j]? = some u → (w.alloc (.cells #[a] t)).cell? ((⟨w.heap.size, 0, none⟩ : Addr).add j) = some u := fun j u hu =>
  World.news_of_block (cs := #[a]) (fr := (0, 0)) (heap_alloc_new w _) j u (by simpa using hu)

set_option maxRecDepth 20000 in
set_option maxHeartbeats 4000000 in
theorem bp7 {b : UInt8} (h : Fb v0 v1 v7 v8 (.int .u8 (b.toNat : Int)) v11 v12 v13 v18 v19 v20 v43 v44 v45 a) (hQ : ∀ a', Fb v0 v1 v7 v8 (.int .u8 (b.toNat : Int)) v11 (.bool (shOf b)) v13 v18 v19 v20 v43 v44 v45 a' → Q .normal a' w) : Code.wp Yba.prog (pc7 [1, 1, 1, 0, 1, 0, 0, 1, 1, 0, 0, 1, 1, 0]) Q a w := by
  unfold shOf at hQ
  obtain ⟨u, rfl⟩ := h.lay
  clear h
  conv => arg 2; whnf
  go_wp2
  exact ⟨rfl, rfl, rfl, rfl, rfl, rfl, rfl, rfl, rfl, rfl, rfl, rfl, rfl, rfl, rfl, rfl⟩

set_option maxRecDepth 20000 in
set_option maxHeartbeats 4000000 in
theorem bp8 {sh : Bool} (h : Fb v0 v1 v7 v8 v10 v11 (.bool sh) v13 v18 v19 v20 v43 v44 v45 a) (hQ : ∀ a', Fb v0 v1 v7 v8 v10 v11 (.bool sh) v13 v18 v19 v20 v43 v44 v45 a' → a'.tmps.getD 29 undef = .bool sh → Q .normal a' w) : Code.wp Yba.prog (pc7 [1, 1, 1, 0, 1, 0, 0, 1, 1, 0, 0, 1, 1, 1, 0, 0]) Q a w := by
  obtain ⟨u, rfl⟩ := h.lay
  clear h
  conv => arg 2; whnf
  go_wp2
  exact hQ _ ⟨rfl, rfl, rfl, rfl, rfl, rfl, rfl, rfl, rfl, rfl, rfl, rfl, rfl, rfl, rfl, rfl⟩ rfl

set_option maxRecDepth 20000 in
set_option maxHeartbeats 4000000 in
theorem bp9 {s : ByteArray} {oldv : Value} {ol : List ByteArray} (hl : ol.length ≤ 1000) (hbw : base ≤ w.heap.size) (hown : w.ownsRow base 9 1 oldv ol.length (strs ol)) (h : Fb v0 v1 v7 oldv v10 (.string s) v12 v13 v18 v19 v20 v43 v44 v45 a)
    (hQ : ∀ ov' w' a', Fb v0 v1 v7 ov' v10 (.string s) v12 v13 v18 v19 v20 v43 v44 v45 a' → w'.ownsRow base 9 1 ov' (ol ++ [s]).length (strs (ol ++ [s])) → (∃ ob, (w.alloc ob).grownBy w' oldv.ownBlock) → (ov'.ownBlock = oldv.ownBlock ∨ ov'.ownBlock = some (w.heap.size + 1)) → Q .normal a' w') : Code.wp Yba.prog (pc7 [1, 1, 1, 0, 1, 0, 0, 1, 1, 0, 0, 1, 1, 1, 0, 1, 0]) Q a w := by
  obtain ⟨i0, hi0, hz0, hz1, hz2⟩ := info_parts Yba.info9
  have a63 : ol.length + 1 ≤ maxLen := by unfold maxLen; omega
  have a47 : (ol.length + 1) * 16 ≤ 140737488355328 := by omega
  obtain ⟨oo, oc, rfl⟩ := own_slice2 hown
  obtain ⟨u, rfl⟩ := h.lay
  clear h
  conv => arg 2; whnf
  go_wp2_with (at_builtin; refine wpList_append_any _ rfl (.tmp 30) (.tmp 32) 24 24 rfl base 9 i0 _ 1 16 Yba.underlying24 hi0 hz0 hz1 hz2 rfl (.slice oo ol.length oc) ol.length (strs ol) rfl (hown.alloc _) (.slice (some ⟨w.heap.size, 0, none⟩) 1 1) 1 [.string s] rfl (Src.ofSlice _ Yba.underlying24 ⟨w.heap.size, 0, none⟩ 1 1 [.string s] rfl (news_one' _ _ _) (by simp [Value.oneCell'])) a63 a47 (by simp; omega) ?_; intro x' w1 ho1 hg1 hat1 _; obtain ⟨xo, xc, rfl⟩ := own_slice2 ho1)
  refine hQ (.slice xo (ol.length + 1) xc) _ _ ?_ ?_ ⟨_, hg1⟩ ?_
  · exact ⟨rfl, rfl, rfl, rfl, rfl, rfl, rfl, rfl, rfl, rfl, rfl, rfl, rfl, rfl, rfl, rfl⟩
  · rw [List.length_append, show strs (ol ++ [s]) = strs ol ++ [.string s] from by simp [strs]]; exact ho1
  · rcases hat1 with e | ⟨e, _⟩
    · exact .inl e
    · right; rw [e]; simp

set_option maxRecDepth 20000 in
set_option maxHeartbeats 4000000 in
theorem bp10 {B Wb : Nat} {bv ev vv dv iv : Value} {bd : List UInt8} {en ve : List Int} {b : UInt8} {sh : Bool} (hW : WvG w B Wb bv ev vv dv iv bd en ve) (n1 : bd.length ≤ 10000) (n2 : en.length ≤ 10000) (n3 : ve.length ≤ 10000) (h : Fb v0 v1 (.pointer (some ⟨Wb, 0, none⟩)) v8 v10 (.string (lnOf b)) (.bool sh) v13 v18 v19 v20 v43 v44 v45 a)
    (hQ : ∀ bv' ev' vv' w' a', Fb v0 v1 (.pointer (some ⟨Wb, 0, none⟩)) v8 v10 (.string (lnOf b)) (.bool sh) v13 v18 v19 v20 v43 v44 v45 a' → WvG w' B Wb bv' ev' vv' dv iv (bd ++ [chOf b, 10]) (en ++ [((bd ++ [chOf b, 10]).length : Int)]) (if sh then ve ++ [(en.length : Int)] else ve) → Only w w' (wf Wb bv ev vv) → (∀ y ∈ wf Wb bv' ev' vv', y ∈ wf Wb bv ev vv ∨ w.heap.size ≤ y) → Q .normal a' w') : Code.wp Yba.prog (pc7 [1, 1, 1, 0, 1, 0, 0, 1, 1, 0, 0, 1, 1, 1, 1]) Q a w := by
  have hcv := Go.Lib.run_convert_string_bytes (P := Yba.prog) w 9 22 5 (lnOf b) Yba.underlying9 Yba.underlying22 Yba.underlying5
  have hs1 := Go.Lib.bytesWorld_size w 5 (lnOf b)
  have hs2 := Go.Lib.bytesWorld_at_old w 5 (lnOf b)
  have hs3 := Go.Lib.bytesWorld_cell w 5 (lnOf b)
  have ho : Only w (Go.Lib.bytesWorld w 5 (lnOf b)) [] := ⟨rfl, rfl, rfl, by omega, fun k hk _ => hs2 k hk⟩
  generalize Go.Lib.bytesWorld w 5 (lnOf b) = w1 at *
  generalize grownCap w (lnOf b).size 0 5 = cp at *
  have hW1 : WvG w1 B Wb bv ev vv dv iv bd en ve := hW.congr (fun g hg => hs2 g (hW.lt g hg).2) (by omega)
  have hc := read_any (l := [chOf b, 10]) (g := w.heap.size) (cap := cp) (sh := sh) hW1 n1 n2 n3 (by simp) (fun j u hu => by
    have hj := (List.getElem?_eq_some_iff.1 hu).1
    have hj2 : j < 2 := by simpa [bcells] using hj
    rw [Go.WideShapes.add_plain, Nat.zero_add, hs3 j hj2]
    rcases (by omega : j = 0 ∨ j = 1) with rfl | rfl <;> (simp [bcells] at hu; subst hu; rfl)) (fun hm => by have := (hW.lt _ hm).2; omega) (by omega)
  have hsz : (lnOf b).size = 2 := rfl
  rw [hsz] at hcv
  generalize lnOf b = s at *
  clear hs2 hs3 hsz hW hW1
  obtain ⟨u, rfl⟩ := h.lay
  clear h
  conv => arg 2; whnf
  go_wp2_with fail
  refine hc.mono ?_
  rintro _ w2 ⟨rfl, bv', ev', vv', k1, k2, k3⟩
  have hk : Only w w2 (wf Wb bv ev vv) := (ho.mono (F' := wf Wb bv ev vv) (by simp)).trans k2 (fun x hx => .inl hx)
  have hf : ∀ y ∈ wf Wb bv' ev' vv', y ∈ wf Wb bv ev vv ∨ w.heap.size ≤ y := fun y hy => by
    rcases k3 y hy with g | g
    · exact .inl g
    · right; omega
  have hQ1 := fun a' h1 => hQ bv' ev' vv' w2 a' h1 k1 hk hf
  clear hQ k1 k2 k3 hk hf hc
  go_wp2
  exact ⟨rfl, rfl, rfl, rfl, rfl, rfl, rfl, rfl, rfl, rfl, rfl, rfl, rfl, rfl, rfl, rfl⟩

end Go.Proofs.Ybulkacye
