/-
  The walk of the plain text search: where t is nowhere in s it returns -1; where k is the first place of a hit it returns k. Condition: both texts have at most 1048576 bytes.
-/
import Derived.Test.YtlbgeceeeniikaaDoorRows
import Derived.Test.YtlbgeceeeniikaaDoorPlain
import Derived.WalkKit
import Derived.WalkSpells
import Derived.Lib.Hide
namespace Go.Proofs.YtlbgeceeeniikaaDoor
open Go.RowKit

set_option maxHeartbeats 400000 in
theorem index_none (s t : ByteArray) (w : World) (hs : s.size ≤ 1048576) (ht : t.size ≤ 1048576) (hn : Pl.NoHit s t) :
    Calls Tryd.prog 10 #[.string s, .string t] w fun e w' => e = .returned (.int .i64 (-1)) ∧ w = w' := by
  have HN := Lib.hid hn
  clear hn
  go_enter Tryd.func10, Tryd.ntmps10
  go_wp2
  go_loop [5] (fun i => ∃ k : Nat, k ≤ s.size + 1 ∧ i = .int .i64 k) (fun i => s.size + 1 - (intOf i).toNat)
  case atStart => exact ⟨0, Nat.zero_le _, rfl⟩
  case round =>
    obtain ⟨k, hk, rfl⟩ := hrel
    by_cases hlt : k + t.size ≤ s.size
    · have hh : ((s.extract k (k + t.size)).toList == t.toList) = false := HN.out k hlt
      go_wp2
      go_round
      case rel => exact ⟨k + 1, by omega, by go_num⟩
      case measure => simp [intOf]; omega
    · go_wp2
      go_ret
      exact ⟨rfl, rfl⟩

set_option maxHeartbeats 400000 in
theorem index_first (s t : ByteArray) (w : World) (K : Nat) (hs : s.size ≤ 1048576) (ht : t.size ≤ 1048576) (hf : Pl.FirstHit s t K) :
    Calls Tryd.prog 10 #[.string s, .string t] w fun e w' => e = .returned (.int .i64 (K : Int)) ∧ w = w' := by
  obtain ⟨hK, hT, hF⟩ := hf
  have HT := Lib.hid hT
  have HF := Lib.hid hF
  clear hT hF
  go_enter Tryd.func10, Tryd.ntmps10
  go_wp2
  go_loop [5] (fun i => ∃ k : Nat, k ≤ K ∧ i = .int .i64 k) (fun i => K - (intOf i).toNat)
  case atStart => exact ⟨0, Nat.zero_le _, rfl⟩
  case round =>
    obtain ⟨k, hk, rfl⟩ := hrel
    by_cases hlt : k < K
    · have hh : ((s.extract k (k + t.size)).toList == t.toList) = false := HF.out k hlt
      have hle : k + t.size ≤ s.size := by omega
      go_wp2
      go_round
      case rel => exact ⟨k + 1, by omega, by go_num⟩
      case measure => simp [intOf]; omega
    · obtain rfl : k = K := by omega
      have hh : ((s.extract k (k + t.size)).toList == t.toList) = true := HT.out
      go_wp2
      go_ret
      exact ⟨rfl, rfl⟩

end Go.Proofs.YtlbgeceeeniikaaDoor
