import Derived.Test.YbulkacyeEqual
import Derived.Laws.CopyOwn
namespace Go.Proofs.Ybulkacye
open Go.RowKit
set_option linter.unusedVariables false

/-- What the walks are told of a '[]byte' that came in. -/
def IsBytes (w : World) (ao : Option Addr) (l : List UInt8) : Prop :=
  ∀ k, k < l.length → ∃ b off, ao = some ⟨b, off, none⟩ ∧ ∀ i, i < l.length → w.cell? ⟨b, off + i, none⟩ = some (.int .u8 (l.getD i 0).toNat)

theorem wpList_copy_full {P : Program} (w : World) {ops : Array Oper} {rest : List Oper} {o : Oper} {a : Act} {Q : Exit → Act → World → Prop} (hgd : o.guard = none) (d s : Operand) (dT sT : TypeId)
    (ho : o.op = .call { callee := .builtin .copy, args := #[d, s], argTypes := #[dT, sT] }) (elem : TypeId) (hu : P.underlying dT = some (.slice elem)) (hsz : (P.info? elem).map (·.size) = some 1)
    (base g n cap : Nat) (xs : List Value) (sp : Option Addr) (sCap : Nat) (hd : a.eval d = .slice (some ⟨g, 0, none⟩) n cap) (hs : a.eval s = .slice sp n sCap)
    (hown : w.ownsRow base elem 1 (.slice (some ⟨g, 0, none⟩) n cap) n xs) (cs : List Value) (hn : cs.length = n)
    (hsrc : 0 < n → ∃ ad, sp = some ad ∧ ∀ j v, cs[j]? = some v → w.cell? (ad.add j) = some v) (h1 : ∀ v ∈ cs, v.oneCell' = true)
    (h : ∀ w', w'.ownsRow base elem 1 (.slice (some ⟨g, 0, none⟩) n cap) n cs → w.grownBy w' (some g) → wpList P ops Q rest (a.put o.dst (goInt n)) w') : wpList P ops Q (o :: rest) a w := by
  rcases hown.2 with ⟨hv, _⟩ | ⟨g', cap', cur, hv, hb, hg, hnc, hcm, hcz, htk⟩
  · cases hv
  · cases hv
    by_cases h0 : n = 0
    · subst h0
      obtain rfl : cs = [] := List.eq_nil_of_length_eq_zero hn
      obtain rfl : xs = [] := List.eq_nil_of_length_eq_zero (by simpa using hown.1)
      exact wpList_copy_nothing hgd d s dT sT ho elem hu hsz _ sp 0 cap 0 sCap hd hs (by simp) (h w hown (World.grownBy.refl _ _))
    · obtain ⟨ad, rfl, hc⟩ := hsrc (by omega)
      refine wpList_copy_own hgd d s dT sT ho elem hu hsz g 0 n cap ad n sCap hd hs cur elem hg cs (by simp [hn]) hc (by rw [hn, hcz]; omega) h1 ?_
      rw [hn]
      refine h _ ⟨by simp [hn], .inr ⟨g, cap, _, rfl, hb, setRow_heap w g cur _ elem _ hg, hnc, hcm, ?_, ?_⟩⟩ ⟨rfl, rfl, rfl, by simp, fun k _ hk => setRow_other w g k _ (fun e => hk (by simp [e]))⟩
      · simp [hn, hcz]; omega
      · simp [hn]

theorem isBytes_src {w : World} {ao : Option Addr} {l : List UInt8} (h : IsBytes w ao l) (hp : 0 < l.length) : ∃ ad, ao = some ad ∧ ∀ j v, (bcells l)[j]? = some v → w.cell? (ad.add j) = some v := by
  obtain ⟨b, off, rfl, hc⟩ := h 0 hp
  refine ⟨_, rfl, fun j v hv => ?_⟩
  have hj : j < l.length := by
    have := (List.getElem?_eq_some_iff.1 hv).1
    simpa [bcells] using this
  rw [Addr.add_lit, hc j hj]
  simp [bcells, hj] at hv
  simp [List.getD, hj, hv]

theorem IsBytes.below {w w' : World} {ao : Option Addr} {l : List UInt8} (h : IsBytes w ao l) (hb : Below w.heap.size w w') : IsBytes w' ao l := fun k hk => by
  obtain ⟨b, off, e, hc⟩ := h k hk
  exact ⟨b, off, e, fun i hi => cell_later hb (hc i hi)⟩
theorem IsStrs.below {w w' : World} {ao : Option Addr} {l : List ByteArray} (h : IsStrs w ao l) (hb : Below w.heap.size w w') : IsStrs w' ao l := fun k hk => by
  obtain ⟨b, off, e, hc⟩ := h k hk
  exact ⟨b, off, e, fun i hi => cell_later hb (hc i hi)⟩

/-- A '[]byte' that came in, as what is appended. -/
theorem isBytes_Src {w : World} {ao : Option Addr} {l : List UInt8} {c : Nat} (h : IsBytes w ao l) : Src Yba.prog 1 22 (.slice ao l.length c) l.length (bcells l) w := by
  cases ao with
  | none =>
    have hl : l = [] := by
      cases l with
      | nil => rfl
      | cons a l => obtain ⟨_, _, e, _⟩ := h 0 (by simp); cases e
    subst hl
    exact Src.ofNil w Yba.underlying22 c
  | some ad =>
    refine Src.ofSlice w Yba.underlying22 ad l.length c (bcells l) (by rw [bcells_length]; omega) (fun j u hu => ?_) (bcells_one l)
    have hj : j < l.length := by
      have := (List.getElem?_eq_some_iff.1 hu).1
      simpa [bcells] using this
    obtain ⟨ad', e, hc⟩ := isBytes_src h (by omega)
    cases e
    exact hc j u hu

theorem fits_of {ss : List ByteArray} (h : fitsB ss = true) : ss.length ≤ 1024 ∧ ∀ s ∈ ss, s.size ≤ 4096 := by
  simpa [fitsB] using h
theorem tot_lines (ss : List ByteArray) : (linesOf ss).length = tot ss := by
  unfold linesOf tot
  induction ss with
  | nil => rfl
  | cons a l ih => simp [ih]; omega
theorem lt_strs {w : World} {ao : Option Addr} {ss : List ByteArray} (h : IsStrs w ao ss) (hp : 0 < ss.length) : ∀ b off, ao = some ⟨b, off, none⟩ → b < w.heap.size := fun b off e => by
  obtain ⟨b', off', e', hc⟩ := h 0 hp
  rw [e] at e'
  cases e'
  exact World.block_lt_of_cell? w ⟨b, off + 0, none⟩ (hc 0 hp)

set_option maxHeartbeats 400000 in
theorem capp_walk (a0 : Option Addr) (cap0 : Nat) (pre : List UInt8) (a1 : Option Addr) (cap1 : Nat) (ss : List ByteArray) (w : World) (hp : IsBytes w a0 pre) (hs : IsStrs w a1 ss)
    (hpl : pre.length ≤ maxLen) (hsl : ss.length ≤ maxLen) (hsz : ∀ s ∈ ss, s.size ≤ maxLen) :
    Calls Yba.prog 5 #[.slice a0 pre.length cap0, .slice a1 ss.length cap1] w fun e w' => e = .returned (.bool true) ∧ Below w.heap.size w w' := by
  unfold maxLen at hpl
  by_cases hp1 : 4096 < pre.length
  · go_enter Yba.func5, Yba.ntmps5
    go_wp2
    go_ret
    exact ⟨rfl, Below.refl _ _⟩
  · have hp1' : ¬ (4096 : Int) < (pre.length : Int) := by omega
    go_enter Yba.func5, Yba.ntmps5
    go_wp2_with fail
    refine (fits_any a1 cap1 ss w hsl hs hsz).mono ?_
    rintro e w1 ⟨hw1, ⟨hf, rfl⟩ | ⟨hf, rfl⟩⟩ <;> obtain rfl := hw1.symm <;> clear hw1
    · obtain ⟨hl, hz⟩ := fits_of hf
      have htot := tot_le ss hz
      have htl := tot_lines ss
      go_wp2_with fail
      refine (build_any a1 cap1 ss w hs (lt_strs hs) hl hz).mono ?_
      rintro e w2 ⟨v, bl, rfl, ht, hfl, hcap, hbl, hbel⟩
      have hp2 := hp.below hbel
      have HFL : Hid (flat bl = linesOf ss) := hfl
      have hw2 := hbel.size
      obtain ⟨i0, hi0, hz0, hz1, hz2⟩ := info_parts Yba.info5
      have m2 : i0.bytes * pre.length ≤ 281474976710656 := by rw [hz2]; omega
      have m3 : pre.length ≤ maxLen := by unfold maxLen; omega
      clear hfl hf
      go_wp2_with (first
        | (at_make; refine wpList_make_full _ rfl (.tmp 26) (.tmp 26) 22 rfl w.heap.size 5 i0 _ 1 Yba.underlying22 hi0 hz0 hz1 .i64 .i64 _ _ pre.length rfl rfl rfl rfl m2 m3 hw2 ?_; intro w3 ho3 hg3)
        | (refine wpList_copy_full _ rfl (.tmp 28) (.tmp 29) 22 22 rfl 5 Yba.underlying22 (by rw [hi0]; simp [hz1]) w.heap.size w2.heap.size pre.length pre.length _ a0 cap0 rfl rfl ho3 (bcells pre) (bcells_length pre) (fun h0 => isBytes_src ((hp2.below ((Below.refl _ _).grown hg3 (Nat.le_refl _) (by simp)))) h0) (bcells_one pre) ?_; intro w4 ho4 hg4))
      have o4 : Only w2 w4 [] := ((Only.refl w2 []).grown hg3 (by simp)).grown hg4 (fun k hk => by cases hk; exact .inr (Nat.le_refl _))
      have ht4 := ht.congr (fun g hg => o4.block g (ht.lt g hg).2 (by simp))
      have hd4 : ∀ x, (Value.slice (some ⟨w2.heap.size, 0, none⟩) pre.length pre.length).ownBlock = some x → x ∉ foot w.heap.size v bl := fun x hx hm => by
        simp [Value.ownBlock] at hx
        subst hx
        exact Nat.lt_irrefl _ (ht.lt _ hm).2
      have hb4 : Below w.heap.size w w4 := hbel.trans (o4.below hw2 (by simp))
      have hfl4 : (flat bl).length ≤ 4195328 := by rw [HFL.out, htl]; omega
      clear ho3 hg3 hg4 hp2 hbel ht o4
      refine (appendTo_any w4 w.heap.size w.heap.size v bl ss.length ht4 _ pre ho4 hd4 (by omega) (by omega) hb4.size).mono ?_
      rintro e w5 ⟨v5, rfl, ho5, hon5, hx5⟩
      have hb5 : Below w.heap.size w w5 := hb4.trans (hon5.below hb4.size (fun x hx => by simp [Value.ownBlock] at hx; rw [hx]; exact hw2))
      have ht5 := ht4.congr (fun g hg => hon5.block g (ht4.lt g hg).2 (fun hm => hd4 g (by simpa using hm) hg))
      have hs5 := hs.below hb5
      have hp5 := hp.below hb5
      have n2 : i0.bytes * (pre.length + tot ss) ≤ 281474976710656 := by rw [hz2]; omega
      have n3 : pre.length + tot ss ≤ maxLen := by unfold maxLen; omega
      have n4 : 0 + pre.length ≤ maxLen := by unfold maxLen; omega
      have n5 : (0 + pre.length) * 1 ≤ 140737488355328 := by omega
      clear ho4 hon5 hx5 hb4 ht4 hd4 m2 m3
      go_wp2_with (first
        | (at_make; refine wpList_make_own _ rfl _ (.tmp 37) 22 rfl w5.heap.size 5 i0 _ 1 Yba.underlying22 hi0 hz0 hz1 .i64 .i64 _ (pre.length + tot ss) rfl rfl (by omega) n2 n3 (Nat.le_refl _) ?_; intro w6 ho6 hg6)
        | (at_builtin; refine wpList_append_any _ rfl (.tmp 39) (.tmp 40) 22 22 rfl w5.heap.size 5 i0 _ 1 1 Yba.underlying22 hi0 hz0 hz1 hz2 rfl (.slice (some ⟨w5.heap.size, 0, none⟩) 0 (pre.length + tot ss)) 0 [] rfl ho6 (.slice a0 pre.length cap0) pre.length (bcells pre) rfl (isBytes_Src (hp5.below ((Below.refl _ _).grown hg6 (Nat.le_refl _) (by simp))) (c := cap0)) n4 n5 hg6.size ?_; intro v7 w7 ho7 hg7 hat7 hf7; simp only [Nat.zero_add, List.nil_append] at ho7))
      have on7 : Only w5 w7 [] := ((Only.refl w5 []).grown hg6 (by simp)).grown hg7 (fun k hk => by simp [Value.ownBlock] at hk; subst hk; exact .inr (Nat.le_refl _))
      clear ho6 hg6 hg7 hat7 hf7 hp5 hp n2 n3 n4 n5
      go_loopw [10, 44] (fun u i wr => ∃ k : Nat, k ≤ ss.length ∧ i = .int .i64 k ∧ wr.ownsRow w5.heap.size 5 1 u (pre ++ linesOf (ss.take k)).length (bcells (pre ++ linesOf (ss.take k))) ∧ Only w5 wr [])
        (fun _ i _ => ss.length - (intOf i).toNat)
      case atStart => exact ⟨0, Nat.zero_le _, rfl, by simpa [linesOf] using ho7, on7⟩
      case round =>
        obtain ⟨k, hk, rfl, ho, hon⟩ := hrel
        by_cases hkl : k < ss.length
        · obtain ⟨b, off, rfl, hc⟩ := hs5 k hkl
          have hbr : Below w5.heap.size w5 wr := hon.below (Nat.le_refl _) (by simp)
          have hck := cell_later hbr (hc k hkl)
          obtain ⟨s, hse⟩ : ∃ s, s = ss.getD k ByteArray.empty := ⟨_, rfl⟩
          have hsn := linesOf_take ss k hkl
          have htk := tot_lines (ss.take k)
          have htk2 := tot_le (ss.take k) (fun x hx => hz x (List.mem_of_mem_take hx))
          have hlk : (ss.take k).length ≤ k := List.length_take_le _ _
          rw [← hse] at hck hsn
          have hmem : s ∈ ss := by rw [hse]; simp [List.getD, hkl]
          have hss := hz s hmem
          obtain ⟨L, hL⟩ : ∃ L, L = (pre ++ linesOf (ss.take k)).length := ⟨_, rfl⟩
          rw [← hL] at ho
          have hLn : L ≤ 4199424 := by simp at hL; omega
          have a63 : L + s.size ≤ maxLen := by unfold maxLen; omega
          have a47 : (L + s.size) * 1 ≤ 140737488355328 := by omega
          have b63 : L + s.size + 1 ≤ maxLen := by unfold maxLen; omega
          have b47 : (L + s.size + 1) * 1 ≤ 140737488355328 := by omega
          have HT : Hid (linesOf (ss.take (k + 1)) = linesOf (ss.take k) ++ (s.data.toList ++ [10])) := hsn
          have HL : Hid (L = (pre ++ linesOf (ss.take k)).length) := hL
          clear hsn hse hc hs5 hs hL htk htk2 hlk
          go_wp2_with (first
            | (at_builtin; refine wpList_append_any _ rfl (.tmp 48) (.tmp 49) 22 9 rfl w5.heap.size 5 i0 _ 1 1 Yba.underlying22 hi0 hz0 hz1 hz2 rfl _ L _ rfl ho (.string s) s.size (byteCells s) rfl (Src.ofString _ Yba.underlying9 s) a63 a47 hbr.size ?_; intro v8 w8 ho8 hg8 hat8 _)
            | (at_builtin; refine wpList_append_any _ rfl (.tmp 51) (.tmp 52) 22 22 rfl w5.heap.size 5 i0 _ 1 1 Yba.underlying22 hi0 hz0 hz1 hz2 rfl _ (L + s.size) _ rfl (ho8.alloc _) (.slice (some ⟨w8.heap.size, 0, none⟩) 1 1) 1 [.int .u8 10] rfl (Src.ofSlice _ Yba.underlying22 ⟨w8.heap.size, 0, none⟩ 1 1 [.int .u8 10] rfl (cell_one_new _ _ _) (by simp [Value.oneCell'])) b63 b47 (by have := hg8.size; have := hbr.size; simp; omega) ?_; intro v9 w9 ho9 hg9 _ _))
          go_roundw
          case rel =>
            refine ⟨k + 1, by omega, by go_num, ?_, ?_⟩
            · rw [HT.out]
              have e1 : pre ++ (linesOf (ss.take k) ++ (s.data.toList ++ [10])) = (pre ++ linesOf (ss.take k)) ++ (s.data.toList ++ [10]) := by simp
              have e2 : bcells (s.data.toList ++ [10]) = byteCells s ++ [.int .u8 10] := by simp [bcells, byteCells]
              have e3 : (s.data.toList ++ [10] : List UInt8).length = s.size + 1 := by simp
              rw [e1, bcells_append, e2, List.length_append, ← HL.out, e3, ← List.append_assoc, ← Nat.add_assoc]
              exact ho9
            · refine ((hon.grown hg8 (fun x hx => .inr (ho.lt x hx).1)).alloc _).grown hg9 (fun x hx => .inr (ho8.lt x hx).1)
          case measure => simp [intOf]; omega
        · have he : ss.take k = ss := List.take_of_length_le (by omega)
          rw [he] at ho
          rw [HFL.out] at ho5
          have ho5r := ownsRow_congr ho5 (fun g hg => hon.block g (ho5.lt g hg).2 (by simp))
          have ht5r := ht5.congr (fun g hg => hon.block g (ht5.lt g hg).2 (by simp))
          have hbr : Below w.heap.size w wr := hb5.trans (hon.below hb5.size (by simp))
          go_wp2_with (first
            | (go_at_call 12; refine (equal_same wr _ _ _ _ _ ho5r ho).mono ?_; rintro e w' ⟨rfl, hw'⟩; obtain rfl := hw'.symm)
            | (go_at_call 13; refine (lines_any wr _ _ _ _ _ ht5r).mono ?_; rintro e w' ⟨rfl, hw'⟩; obtain rfl := hw'.symm))
          go_ret
          exact ⟨by simp, hbr⟩
    · go_wp2_with fail
      go_ret
      exact ⟨rfl, Below.refl _ _⟩
end Go.Proofs.Ybulkacye
