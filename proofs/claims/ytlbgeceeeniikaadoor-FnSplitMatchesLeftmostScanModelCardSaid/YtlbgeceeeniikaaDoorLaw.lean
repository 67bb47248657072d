/-
  The walk of the law itself: at any two texts, each of at most 9223372036854775807 bytes, it returns true and changes nothing that was there.
-/
import Derived.Test.YtlbgeceeeniikaaDoorShim
import Derived.Deep.QuietTactic
import Derived.BigQuiet
import Derived.WalkSmall
namespace Go.Proofs.YtlbgeceeeniikaaDoor
open Go.RowKit

set_option maxHeartbeats 400000 in
theorem bytes_yes (s t : ByteArray) (w : World) (h : s.size + t.size ≤ 1048576) :
    Calls Tryd.prog 4 #[.string s, .string t] w fun e w' => e = .returned (.bool true) ∧ w = w' := by
  go_enter Tryd.func4, Tryd.ntmps4
  go_wp2
  go_ret
  exact ⟨rfl, rfl⟩

set_option maxHeartbeats 400000 in
theorem bytes_no (s t : ByteArray) (w : World) (hs : s.size ≤ 9223372036854775807) (ht : t.size ≤ 9223372036854775807) (h : 1048576 < s.size + t.size) :
    Calls Tryd.prog 4 #[.string s, .string t] w fun e w' => e = .returned (.bool false) ∧ w = w' := by
  by_cases h1 : s.size ≤ 1048576
  · by_cases h2 : t.size ≤ 1048576
    · go_enter Tryd.func4, Tryd.ntmps4
      go_wp2
      go_ret
      exact ⟨rfl, rfl⟩
    · go_enter Tryd.func4, Tryd.ntmps4
      go_wp2
      go_ret
      exact ⟨rfl, rfl⟩
  · go_enter Tryd.func4, Tryd.ntmps4
    go_wp2
    go_ret
    exact ⟨rfl, rfl⟩

set_option maxHeartbeats 400000 in
theorem law_big (s t : ByteArray) (w : World) (hs : s.size ≤ 9223372036854775807) (ht : t.size ≤ 9223372036854775807) (h : 65536 < s.size ∨ 65536 < t.size) :
    Calls Tryd.prog 3 #[.string s, .string t] w fun e w' => e = .returned (.bool true) ∧ w = w' := by
  by_cases hb : s.size + t.size ≤ 1048576
  · by_cases h1 : 65536 < s.size
    · clear h
      go_enter Tryd.func3, Tryd.ntmps3
      go_wp2_with (go_at_call 4; refine (bytes_yes s t _ (by omega)).mono ?_; rintro e w' ⟨rfl, rfl⟩)
      go_ret
      exact ⟨rfl, rfl⟩
    · have h2 : 65536 < t.size := by omega
      clear h
      go_enter Tryd.func3, Tryd.ntmps3
      go_wp2_with (go_at_call 4; refine (bytes_yes s t _ (by omega)).mono ?_; rintro e w' ⟨rfl, rfl⟩)
      go_ret
      exact ⟨rfl, rfl⟩
  · clear h
    go_enter Tryd.func3, Tryd.ntmps3
    go_wp2_with (go_at_call 4; refine (bytes_no s t _ hs ht (by omega)).mono ?_; rintro e w' ⟨rfl, rfl⟩)
    go_ret
    exact ⟨rfl, rfl⟩

set_option maxHeartbeats 400000 in
theorem law_empty (s t : ByteArray) (w : World) (hs : s.size ≤ 65536) (h : t.size = 0) :
    Calls Tryd.prog 3 #[.string s, .string t] w fun e w' => e = .returned (.bool true) ∧ w = w' := by
  have h0 : ((t.size : Int) == 0) = true := by simp [h]
  have ht : t.size ≤ 0 := by omega
  clear h
  go_enter Tryd.func3, Tryd.ntmps3
  go_wp2_with (go_at_call 4; refine (bytes_yes s t _ (by omega)).mono ?_; rintro e w' ⟨rfl, rfl⟩)
  go_ret
  exact ⟨rfl, rfl⟩

set_option maxHeartbeats 800000 in
theorem law_main (s t : ByteArray) (w : World) (hs : s.size ≤ 65536) (ht : t.size ≤ 65536) (h0 : 0 < t.size) (hne : t.toList.isEmpty = false) :
    Calls Tryd.prog 3 #[.string s, .string t] w fun e w' => e = .returned (.bool true) ∧ Below w.heap.size w w' := by
  have cS := shim_any s t w hs ht h0 hne
  have cM := fun W => model_any s t W hs ht h0
  have hL := Pl.all_length s t h0
  generalize Pl.all s t = L at cS cM hL ⊢
  have CM := Lib.hid cM
  clear cM
  have hz : ((t.size : Int) == 0) = false := beq_eq_false_iff_ne.2 (by omega)
  have d1 : decide (65536 < (s.size : Int)) = false := decide_eq_false (by omega)
  have d2 : decide (65536 < (t.size : Int)) = false := decide_eq_false (by omega)
  go_enter Tryd.func3, Tryd.ntmps3
  go_wp2_with (first
    | (go_at_call 4; refine (bytes_yes s t _ (by omega)).mono ?_; rintro e w' ⟨rfl, rfl⟩)
    | (go_at_call 5; refine cS.mono ?_; rintro e w1 ⟨g, rfl, hown1, hb1⟩)
    | (go_at_call 6; refine (CM.out _).mono ?_; rintro e w2 ⟨g2, cap, rfl, hown2, hb2⟩))
  have hA := hown1.kept (row := none) ⟨hb2.os, hb2.tape, hb2.output, hb2.size, fun k hk _ => hb2.block k hk⟩ (.inr (by simp [Value.ownBlock]))
  have hB := hown2
  have hb := hb1.trans (hb2.mono hb1.size)
  clear hown1 hown2 hb1 hb2 d1 d2
  go_loopw [8] (fun i wr => ∃ k n : Nat, k ≤ L.length ∧ i = .int .i64 k ∧ wr = w2.drewN n) (fun i _ => L.length - (intOf i).toNat)
  case atStart => exact ⟨0, 0, Nat.zero_le _, rfl, rfl⟩
  case round =>
    obtain ⟨k, n, hk, rfl, rfl⟩ := hrel
    by_cases hlt : k < L.length
    · have hc1 : w2.cell? ⟨g, k, none⟩ = some (.string L[k]) := by
        rw [hA.cellAt k (by omega)]; simp [hlt]
      have hc2 : w2.cell? ⟨g2, k, none⟩ = some (.string L[k]) := by
        rw [hB.cellAt k (by omega)]; simp [hlt]
      have hi1 : (k : Int) < (L.length : Int) := by omega
      go_wp2
      go_quiet (fail)
      go_wp2
      go_roundw
      case rel => exact ⟨k + 1, _, by omega, by go_num, rfl⟩
      case measure => simp [intOf]; omega
    · obtain rfl : k = L.length := by omega
      go_wp2
      go_ret
      exact ⟨rfl, below_drewN hb _⟩

theorem not_empty (t : ByteArray) (h : 0 < t.size) : t.toList.isEmpty = false := by
  rw [ByteArray.toList_eq]
  have e : t.data.toList.length = t.size := by simp
  cases hl : t.data.toList with
  | nil => rw [hl] at e; simp at e; omega
  | cons a l => rfl

/-- THE LAW's WALK, at any two texts within the form's own reach. -/
theorem law_any (s t : ByteArray) (w : World) (hs : s.size ≤ 9223372036854775807) (ht : t.size ≤ 9223372036854775807) :
    Calls Tryd.prog 3 #[.string s, .string t] w fun e w' => e = .returned (.bool true) ∧ Below w.heap.size w w' := by
  by_cases hb : 65536 < s.size ∨ 65536 < t.size
  · exact (law_big s t w hs ht hb).mono fun e w' ⟨he, hw⟩ => ⟨he, hw ▸ Below.refl _ _⟩
  · by_cases h0 : t.size = 0
    · exact (law_empty s t w (by omega) h0).mono fun e w' ⟨he, hw⟩ => ⟨he, hw ▸ Below.refl _ _⟩
    · exact law_main s t w (by omega) (by omega) (by omega) (not_empty t (by omega))

end Go.Proofs.YtlbgeceeeniikaaDoor
