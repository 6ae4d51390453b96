import Derived.Test.YbulkacyeWriteTo
import Derived.Test.YbulkacyeCAppend
namespace Go.Proofs.Ybulkacye
open Go.RowKit
set_option linter.unusedVariables false

set_option maxHeartbeats 400000 in
theorem cwt_walk (a1 : Option Addr) (cap1 : Nat) (ss : List ByteArray) (w : World) (hs : IsStrs w a1 ss) (hsl : ss.length ≤ maxLen) (hsz : ∀ s ∈ ss, s.size ≤ maxLen) :
    Calls Yba.prog 6 #[.slice a1 ss.length cap1] w fun e w' => e = .returned (.bool true) ∧ Below w.heap.size w w' := by
  go_enter Yba.func6, Yba.ntmps6
  go_wp2_with fail
  refine (fits_any a1 cap1 ss w hsl hs hsz).mono ?_
  rintro e w1 ⟨hw1, ⟨hf, rfl⟩ | ⟨hf, rfl⟩⟩ <;> obtain rfl := hw1.symm <;> clear hw1
  · obtain ⟨hl, hz⟩ := fits_of hf
    have htot := tot_le ss hz
    have htl := tot_lines ss
    go_wp2_with fail
    refine (build_any a1 cap1 ss w hs (lt_strs hs) hl hz).mono ?_
    rintro e w2 ⟨v, bl, rfl, ht, hfl, hcap, hbl, hbel⟩
    have HFL : Hid (flat bl = linesOf ss) := hfl
    have hw2 := hbel.size
    have hfl2 : (flat bl).length = tot ss := by rw [hfl, htl]
    have HL2 : Hid ((flat bl).length = tot ss) := hfl2
    have hflb : (flat bl).length ≤ 4195328 := by rw [hfl2]; omega
    clear hfl hf hfl2
    obtain ⟨o, ho⟩ : ∃ o, o = Obj.cells #[.slice none 0 0, .int .i64 0] 45 (0, 0) := ⟨_, rfl⟩
    have hwr : WrIs (w2.alloc o) w.heap.size w2.heap.size (.slice none 0 0) [] 0 := ⟨by rw [ho]; exact heap_alloc_new w2 _, World.ownsRow_nil _ _ _ _, by simp [Value.ownBlock], hw2⟩
    have ht2 : TextIs (w2.alloc o) w.heap.size w.heap.size v bl ss.length := ht.congr (fun g hg => Below.heap_alloc w2 o g (ht.lt g hg).2)
    have hd2 : ∀ x ∈ wfoot w2.heap.size (.slice none 0 0), x ∉ foot w.heap.size v bl := fun x hx hm => by
      simp [wfoot, Value.ownBlock] at hx
      subst hx
      exact Nat.lt_irrefl _ (ht.lt _ hm).2
    have HT : Hid (∀ g ∈ foot w.heap.size v bl, g < w2.heap.size) := fun g hg => (ht.lt g hg).2
    subst ho
    go_wp2_with fail
    refine (writeTo_any _ w.heap.size w.heap.size v bl ss.length ht2 w2.heap.size _ hwr hd2 (by omega) (by omega) (by simp; omega)).mono ?_
    rintro e w3 ⟨rfl, bv, c, t1, t2, t3⟩
    have ht3 : TextIs w3 w.heap.size w.heap.size v bl ss.length := ht2.congr (fun g hg => t2.block g (by have := HT.out g hg; simp; omega) (fun hm => hd2 g hm hg))
    have hb3 : Below w.heap.size w w3 := (hbel.trans ((Below.refl _ _).alloc hw2 _)).trans (t2.below (by simp; omega) (fun x hx => by simp [wfoot, Value.ownBlock] at hx; subst hx; exact hw2))
    rw [HL2.out]
    clear ht2 hwr hbel ht
    go_wp2_with fail
    refine (appendTo_any w3 w.heap.size w.heap.size v bl ss.length ht3 (.slice none 0 0) [] (World.ownsRow_nil _ _ _ _) (by simp [Value.ownBlock]) (by omega) (by simp; omega) hb3.size).mono ?_
    rintro e w4 ⟨v4, rfl, ho4, hon4, _⟩
    simp only [List.nil_append] at ho4
    have t4 : WrIs w4 w.heap.size w2.heap.size bv (flat bl) c := t1.congr (fun g hg => hon4.block g (t1.lt g hg).2 (by simp [Value.ownBlock]))
    have hb4 : Below w.heap.size w w4 := hb3.trans (hon4.below hb3.size (by simp [Value.ownBlock]))
    have c4 : w4.cell? ⟨w2.heap.size, 0, none⟩ = some bv := by simp [World.cell?, t4.box]
    obtain ⟨ao4, cp4, hv4⟩ := own_slice ho4
    subst hv4
    rw [HL2.out] at ho4 ⊢
    go_wp2_with (go_at_call 12; refine (equal_same w4 _ _ _ _ (flat bl) (by rw [HL2.out]; exact ho4) t4.own).mono ?_; rintro e w' ⟨rfl, hw'⟩; obtain rfl := hw'.symm)
    go_ret
    exact ⟨by simp, hb4⟩
  · go_wp2_with fail
    go_ret
    exact ⟨rfl, Below.refl _ _⟩
end Go.Proofs.Ybulkacye
