/-
  The walk of the program's own split by searches: it returns a new slice that holds just the pieces of s cut at the leftmost non-overlapping hits of t, and changes nothing that was there. Conditions: s has at most 65536 bytes, t at least one and at most 65536.
-/
import Derived.Test.YtlbgeceeeniikaaDoorSplits
namespace Go.Proofs.YtlbgeceeeniikaaDoor
open Go.RowKit

/-- The length of a text in a slot: the loop's measure. -/
def textLen : Value → Nat | .string s => s.size | _ => 0

/-- The loop's state: xs are the pieces that are out, r is the rest of s. -/
def Rest (s t r : ByteArray) (xs : List ByteArray) : Prop := ∃ p, p ≤ s.size ∧ xs.length ≤ p ∧ r = s.extract p s.size ∧ Pl.all s t = xs ++ Pl.pieces s t p p

theorem rest_start (s t : ByteArray) : Rest s t s [] := ⟨0, Nat.zero_le _, Nat.le_refl _, by simp, rfl⟩
theorem rest_le {s t r : ByteArray} {xs : List ByteArray} (h : Rest s t r xs) : r.size ≤ s.size ∧ xs.length ≤ s.size := by
  obtain ⟨p, h1, h2, rfl, _⟩ := h
  rw [Pl.rest_size]
  exact ⟨by omega, by omega⟩
theorem rest_end {s t r : ByteArray} {xs : List ByteArray} (h0 : 0 < t.size) (h : Rest s t r xs) (hn : Pl.NoHit r t) : Pl.all s t = xs ++ [r] := by
  obtain ⟨p, h1, h2, rfl, h3⟩ := h
  rw [h3, Pl.pieces_rest_none s t h0 p h1 hn]
theorem rest_step {s t r : ByteArray} {xs : List ByteArray} {k : Nat} (h0 : 0 < t.size) (h : Rest s t r xs) (hf : Pl.FirstHit r t k) :
    Rest s t (r.extract (k + t.size) r.size) (xs ++ [r.extract 0 k]) ∧ (r.extract (k + t.size) r.size).size < r.size := by
  obtain ⟨p, h1, h2, rfl, h3⟩ := h
  obtain ⟨h4, h5⟩ := Pl.pieces_rest_first s t h0 p k h1 hf
  rw [Pl.rest_size, Pl.rest_to s p k (by omega), Pl.rest_from s p (k + t.size)]
  refine ⟨⟨p + (k + t.size), by omega, by simp; omega, rfl, by rw [h3, h5]; simp⟩, ?_⟩
  rw [Pl.rest_size]
  omega

set_option maxHeartbeats 800000 in
theorem split_any (s t : ByteArray) (w : World) (hs : s.size ≤ 65536) (ht : t.size ≤ 65536) (h0 : 0 < t.size) (hne : t.toList.isEmpty = false) :
    Calls Tryd.prog 8 #[.string s, .string t] w (Splits (Pl.all s t) w) := by
  obtain ⟨i0, hi, hz0, hz1, hz2⟩ := info_parts Tryd.info9
  go_enter Tryd.func8, Tryd.ntmps8
  go_wp2_with fail
  go_loopw [0, 5] (fun a v wr => ∃ (r : ByteArray) (xs : List ByteArray), a = .string r ∧ Own wr w.heap.size v xs ∧ Hid (Rest s t r xs) ∧ Below w.heap.size w wr)
    (fun a _ _ => textLen a)
  case atStart => exact ⟨s, [], rfl, World.ownsRow_lit w #[] 0 (Nat.le_refl _) (Nat.zero_le _) rfl, rest_start s t, (Below.refl _ _).alloc (Nat.le_refl _) _⟩
  case round =>
    obtain ⟨r, xs, rfl, hown, hrest, hnx⟩ := hrel
    have hsize := hnx.size
    obtain ⟨hr, hx⟩ := rest_le hrest.out
    rcases Pl.first_or_none r t with hn | ⟨k, hf⟩
    · have HN := Lib.hid hn
      clear hn
      go_wp2_with (first
        | (go_at_call 10; refine (index_none r t _ (by omega) (by omega) HN.out).mono ?_; rintro e w' ⟨rfl, rfl⟩)
        | (at_builtin; refine wpList_append_own _ rfl _ _ 23 rfl w.heap.size 9 i0 (.string ByteArray.empty) 1 16 Tryd.underlying23 hi hz0 hz1 hz2 rfl (by decide) _ _ _ rfl (hown.alloc _) ⟨wr.heap.size, 0, none⟩ 1 1 [.string r] rfl rfl (cell_one_new _ _ _) (fun x hx => by simp at hx; subst hx; rfl) (by unfold maxLen; omega) (by omega) (by simp; omega) ?_; intro v' w3 hown' hgrow3 hnil3))
      go_ret
      exact splits_mk (rest_end h0 hrest.out HN.out) hown' ((hnx.alloc hsize _).grown hgrow3 (by simp; omega) (fun q hq => (hown.lt q hq).1))
    · have hk : k + t.size ≤ r.size := hf.1
      have HF := Lib.hid hf
      clear hf
      go_wp2_with (first
        | (go_at_call 10; refine (index_first r t _ k (by omega) (by omega) HF.out).mono ?_; rintro e w' ⟨rfl, rfl⟩)
        | (at_builtin; refine wpList_append_own _ rfl _ _ 23 rfl w.heap.size 9 i0 (.string ByteArray.empty) 1 16 Tryd.underlying23 hi hz0 hz1 hz2 rfl (by decide) _ _ _ rfl (hown.alloc _) ⟨wr.heap.size, 0, none⟩ 1 1 [.string (r.extract 0 k)] rfl rfl (cell_one_new _ _ _) (fun x hx => by simp at hx; subst hx; rfl) (by unfold maxLen; omega) (by omega) (by simp; omega) ?_; intro v' w3 hown' hgrow3 hnil3))
      go_roundw
      case rel =>
        exact ⟨r.extract (k + t.size) r.size, xs ++ [r.extract 0 k], rfl, own_snoc hown', (rest_step h0 hrest.out HF.out).1,
          (hnx.alloc hsize _).grown hgrow3 (by simp; omega) (fun q hq => (hown.lt q hq).1)⟩
      case measure => exact (rest_step h0 hrest.out HF.out).2

end Go.Proofs.YtlbgeceeeniikaaDoor
