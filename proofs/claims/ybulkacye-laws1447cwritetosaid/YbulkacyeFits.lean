import Derived.Test.YbulkacyeRows
import Derived.WalkKit
import Derived.WalkSpells
import Derived.WalkLawsBesides
namespace Go.Proofs.Ybulkacye
open Go.RowKit

/-- What the walks are told of a '[]string' that came in. -/
def IsStrs (w : World) (ao : Option Addr) (ss : List ByteArray) : Prop :=
  ∀ k, k < ss.length → ∃ b off, ao = some ⟨b, off, none⟩ ∧ ∀ i, i < ss.length → w.cell? ⟨b, off + i, none⟩ = some (.string (ss.getD i ByteArray.empty))

def tot (ss : List ByteArray) : Nat := (ss.map (fun s => s.size + 1)).sum
def fitsB (ss : List ByteArray) : Bool := decide (ss.length ≤ 1024) && ss.all (fun s => decide (s.size ≤ 4096))

theorem tot_take_succ (ss : List ByteArray) (k : Nat) (h : k < ss.length) : tot (ss.take (k + 1)) = tot (ss.take k) + ((ss.getD k ByteArray.empty).size + 1) := by
  unfold tot
  rw [List.take_succ_eq_append_getElem h, List.map_append, List.sum_append]
  simp [List.getD, h]

theorem tot_le (ss : List ByteArray) (h : ∀ s ∈ ss, s.size ≤ 4096) : tot ss ≤ 4097 * ss.length := by
  unfold tot
  induction ss with
  | nil => simp
  | cons a l ih =>
    have h1 := h a (by simp)
    have h2 := ih (fun s hs => h s (by simp [hs]))
    simp only [List.map_cons, List.sum_cons, List.length_cons]
    omega

set_option maxHeartbeats 400000 in
theorem fits_any (ao : Option Addr) (cap : Nat) (ss : List ByteArray) (w : World) (hlen : ss.length ≤ maxLen) (hs : IsStrs w ao ss) (hsz : ∀ s ∈ ss, s.size ≤ maxLen) :
    Calls Yba.prog 9 #[.slice ao ss.length cap] w fun e w' => w' = w ∧
      ((fitsB ss = true ∧ e = .returned (.tuple #[.int .i64 (tot ss), .bool true])) ∨ (fitsB ss = false ∧ e = .returned (.tuple #[.int .i64 0, .bool false]))) := by
  unfold maxLen at hlen
  by_cases h1 : 1024 < ss.length
  · have h1' : (1024 : Int) < (ss.length : Int) := by omega
    go_enter Yba.func9, Yba.ntmps9
    go_wp2
    go_ret2
    exact ⟨rfl, .inr ⟨by simp [fitsB]; omega, rfl⟩⟩
  · have h1' : ¬ (1024 : Int) < (ss.length : Int) := by omega
    go_enter Yba.func9, Yba.ntmps9
    go_wp2
    go_loop [4, 12] (fun t i => ∃ k : Nat, k ≤ ss.length ∧ i = .int .i64 k ∧ t = .int .i64 (tot (ss.take k)) ∧ (∀ s ∈ ss.take k, s.size ≤ 4096)) (fun _ i => ss.length - (intOf i).toNat)
    case atStart => exact ⟨0, Nat.zero_le _, rfl, rfl, by simp⟩
    case round =>
      obtain ⟨k, hk, rfl, rfl, hall⟩ := hrel
      have htl := tot_le _ hall
      have hl : (ss.take k).length = k := by simp; omega
      have htl' : tot (ss.take k) ≤ 4097 * k := by omega
      clear htl
      by_cases hlt : k < ss.length
      · obtain ⟨b, off, rfl, hc⟩ := hs k hlt
        have hck := hc k hlt
        have hsn := tot_take_succ ss k hlt
        obtain ⟨s, hse⟩ : ∃ s, s = ss.getD k ByteArray.empty := ⟨_, rfl⟩
        rw [← hse] at hck hsn
        have hmem : s ∈ ss := by rw [hse]; simp [List.getD, hlt]
        have hss := hsz s hmem
        unfold maxLen at hss
        have hts : ss.take (k + 1) = ss.take k ++ [s] := by rw [List.take_succ_eq_append_getElem hlt, hse]; simp [List.getD, hlt]
        have HS : Hid (tot (ss.take (k + 1)) = tot (ss.take k) + (s.size + 1)) := hsn
        have HT : Hid (ss.take (k + 1) = ss.take k ++ [s]) := hts
        clear hsn hts hse hs hc hl
        by_cases h4 : 4096 < s.size
        · have h4' : (4096 : Int) < (s.size : Int) := by omega
          go_wp2
          go_ret2
          refine ⟨rfl, .inr ⟨?_, rfl⟩⟩
          simp [fitsB]
          intro _
          exact ⟨s, hmem, h4⟩
        · have h4' : ¬ (4096 : Int) < (s.size : Int) := by omega
          go_wp2
          go_round
          case rel =>
            refine ⟨k + 1, by omega, by go_num, ?_, ?_⟩
            · rw [HS.out]; go_num
            · rw [HT.out]; intro s' hs'
              rcases List.mem_append.1 hs' with h | h
              · exact hall _ h
              · simp at h; subst h; omega
          case measure => simp [intOf]; omega
      · go_wp2
        go_ret2
        have he : ss.take k = ss := List.take_of_length_le (by omega)
        rw [he] at hall ⊢
        refine ⟨rfl, .inl ⟨?_, rfl⟩⟩
        simp [fitsB]
        exact ⟨by omega, hall⟩
end Go.Proofs.Ybulkacye
