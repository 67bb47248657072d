/-
  The walks of the two splits: the model's scan and the program's own split by searches. Each returns a new slice that holds just the pieces of s cut at the leftmost non-overlapping hits of t, and changes nothing that was there. Conditions: s has at most 65536 bytes, t at least one and at most 65536.
-/
import Derived.Test.YtlbgeceeeniikaaDoorIndex
namespace Go.Proofs.YtlbgeceeeniikaaDoor
open Go.RowKit

theorem Tryd.info9 : (Tryd.prog.info? 9).map (fun i => (i.zero, i.size, i.bytes)) = some (some (.string ByteArray.empty), 1, 16) := by kernel_rfl

/-- What a slice of texts owns: the texts xs, in blocks from number B on. -/
def Own (w : World) (B : Nat) (v : Value) (xs : List ByteArray) : Prop := w.ownsRow B 9 1 v xs.length (xs.map Value.string)

theorem own_nil (w : World) (B : Nat) : Own w B (.slice none 0 0) [] := World.ownsRow_nil _ _ _ _
theorem own_snoc {w : World} {B : Nat} {v : Value} {xs : List ByteArray} {x : ByteArray} (h : w.ownsRow B 9 1 v (xs.length + 1) (xs.map Value.string ++ [Value.string x])) : Own w B v (xs ++ [x]) := by
  unfold Own
  rw [List.length_append, List.map_append]
  exact h

/-- The shape of an owned slice that is not empty. -/
theorem own_shape {w : World} {B : Nat} {v : Value} {n : Nat} {xs : List Value} (h : w.ownsRow B 9 1 v (n + 1) xs) : ∃ g cap, v = .slice (some ⟨g, 0, none⟩) (n + 1) cap := by
  rcases h.2 with ⟨_, h⟩ | ⟨g, cap, _, h, _⟩
  · omega
  · exact ⟨g, cap, h⟩

/-- What a call of a split leaves. -/
def Splits (L : List ByteArray) (w : World) (e : Ending) (w' : World) : Prop :=
  ∃ g cap, e = .returned (.slice (some ⟨g, 0, none⟩) L.length cap) ∧ w'.ownsRow w.heap.size 9 1 (.slice (some ⟨g, 0, none⟩) L.length cap) L.length (L.map Value.string) ∧ Below w.heap.size w w'

theorem splits_mk {L xs : List ByteArray} {x : ByteArray} {w w' : World} {v : Value} (hL : L = xs ++ [x]) (h : w'.ownsRow w.heap.size 9 1 v (xs.length + 1) (xs.map Value.string ++ [Value.string x])) (hb : Below w.heap.size w w') :
    Splits L w (.returned v) w' := by
  obtain ⟨g, cap, rfl⟩ := own_shape h
  have hl : L.length = xs.length + 1 := by rw [hL]; simp
  have hm : L.map Value.string = xs.map Value.string ++ [Value.string x] := by rw [hL]; simp
  refine ⟨g, cap, by rw [hl], ?_, hb⟩
  rw [hl, hm]
  exact h

set_option maxHeartbeats 800000 in
theorem model_any (s t : ByteArray) (w : World) (hs : s.size ≤ 65536) (ht : t.size ≤ 65536) (h0 : 0 < t.size) :
    Calls Tryd.prog 6 #[.string s, .string t] w (Splits (Pl.all s t) w) := by
  obtain ⟨i0, hi, hz0, hz1, hz2⟩ := info_parts Tryd.info9
  go_enter Tryd.func6, Tryd.ntmps6
  go_wp2
  go_loopw [5, 6, 7] (fun v st i wr => ∃ (xs : List ByteArray) (S I : Nat), xs.length ≤ I ∧ S ≤ I ∧ I ≤ s.size ∧ st = .int .i64 S ∧ i = .int .i64 I ∧ Own wr w.heap.size v xs ∧ Hid (Pl.all s t = xs ++ Pl.pieces s t S I) ∧ Below w.heap.size w wr)
    (fun _ _ i _ => s.size + 1 - (intOf i).toNat)
  case atStart => exact ⟨[], 0, 0, Nat.le_refl _, Nat.le_refl _, Nat.zero_le _, rfl, rfl, own_nil _ _, rfl, Below.refl _ _⟩
  case round =>
    obtain ⟨xs, S, I, hx, hSI, hI, rfl, rfl, hown, hall, hnx⟩ := hrel
    have hsize := hnx.size
    by_cases hlt : I + t.size ≤ s.size
    · cases hq : Pl.hit s t I with
      | true =>
        have hh : ((s.extract I (I + t.size)).toList == t.toList) = true := hq
        have HQ := Lib.hid hq
        clear hq
        go_wp2_with (first
          | (at_builtin; refine wpList_append_own _ rfl _ _ 23 rfl w.heap.size 9 i0 (.string ByteArray.empty) 1 16 Tryd.underlying23 hi hz0 hz1 hz2 rfl (by decide) _ _ _ rfl (hown.alloc _) ⟨wr.heap.size, 0, none⟩ 1 1 [.string (s.extract S I)] rfl rfl (cell_one_new _ _ _) (fun x hx => by simp at hx; subst hx; rfl) (by unfold maxLen; omega) (by omega) (by simp; omega) ?_; intro v' w3 hown' hgrow3 hnil3))
        go_roundw
        case rel =>
          exact ⟨xs ++ [s.extract S I], I + t.size, I + t.size, by simp; omega, Nat.le_refl _, hlt, by go_num, by go_num, own_snoc hown',
            by show _ = _; rw [hall.out, Pl.pieces_hit s t h0 S I hlt HQ.out]; simp,
            (hnx.alloc hsize _).grown hgrow3 (by simp; omega) (fun q hq => (hown.lt q hq).1)⟩
        case measure => simp [intOf]; omega
      | false =>
        have hh : ((s.extract I (I + t.size)).toList == t.toList) = false := hq
        have HQ := Lib.hid hq
        clear hq
        go_wp2
        go_roundw
        case rel =>
          exact ⟨xs, S, I + 1, by omega, by omega, by omega, rfl, by go_num, hown,
            by show _ = _; rw [hall.out, Pl.pieces_miss s t h0 S I hlt HQ.out],
            hnx⟩
        case measure => simp [intOf]; omega
    · go_wp2_with (first
          | (at_builtin; refine wpList_append_own _ rfl _ _ 23 rfl w.heap.size 9 i0 (.string ByteArray.empty) 1 16 Tryd.underlying23 hi hz0 hz1 hz2 rfl (by decide) _ _ _ rfl (hown.alloc _) ⟨wr.heap.size, 0, none⟩ 1 1 [.string (s.extract S s.size)] rfl rfl (cell_one_new _ _ _) (fun x hx => by simp at hx; subst hx; rfl) (by unfold maxLen; omega) (by omega) (by simp; omega) ?_; intro v' w3 hown' hgrow3 hnil3))
      go_ret
      exact splits_mk (by rw [hall.out, Pl.pieces_end s t S I hlt]) hown' ((hnx.alloc hsize _).grown hgrow3 (by simp; omega) (fun q hq => (hown.lt q hq).1))

end Go.Proofs.YtlbgeceeeniikaaDoor
