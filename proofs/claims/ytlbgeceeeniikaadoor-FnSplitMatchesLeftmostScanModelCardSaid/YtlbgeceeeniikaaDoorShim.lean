/-
  The walk of the thin shim ZZsplit at two texts: it returns true, and a new slice of texts: the pieces of s cut at the leftmost non-overlapping hits of t. Conditions: s has at most 65536 bytes, t at least one and at most 65536.
-/
import Derived.Test.YtlbgeceeeniikaaDoorBoxes
namespace Go.Proofs.YtlbgeceeeniikaaDoor
open Go.RowKit

/-- The texts behind k rounds: the first k pieces, then empty ones. -/
def texted (L : List ByteArray) (k : Nat) : List Value := (L.take k).map Value.string ++ List.replicate (L.length - k) (.string ByteArray.empty)

theorem texted_zero (L : List ByteArray) : texted L 0 = List.replicate L.length (.string ByteArray.empty) := by simp [texted]
theorem texted_all (L : List ByteArray) : texted L L.length = L.map Value.string := by simp [texted]
theorem texted_length (L : List ByteArray) (k : Nat) (h : k ≤ L.length) : (texted L k).length = L.length := by simp [texted]; omega
theorem texted_set (L : List ByteArray) (k : Nat) (h : k < L.length) : (texted L k).set k (.string L[k]) = texted L (k + 1) := by
  unfold texted
  rw [List.set_append_right _ _ (by simp; omega)]
  have e1 : L.length - k = (L.length - (k + 1)) + 1 := by omega
  have e2 : k - ((L.take k).map Value.string).length = 0 := by simp; omega
  rw [e2, e1, List.replicate_succ, List.set_cons_zero, List.take_succ_eq_append_getElem h]
  simp only [List.map_append, List.map_cons, List.map_nil, List.append_assoc, List.cons_append, List.nil_append]

/-- What the thin shim leaves. -/
def Shims (L : List ByteArray) (w : World) (e : Ending) (w' : World) : Prop :=
  ∃ g, e = .returned (.tuple #[.slice (some ⟨g, 0, none⟩) L.length L.length, .bool true]) ∧ w'.ownsRow w.heap.size 9 1 (.slice (some ⟨g, 0, none⟩) L.length L.length) L.length (L.map Value.string) ∧ Below w.heap.size w w'

set_option maxHeartbeats 800000 in
theorem shim_any (s t : ByteArray) (w : World) (hs : s.size ≤ 65536) (ht : t.size ≤ 65536) (h0 : 0 < t.size) (hne : t.toList.isEmpty = false) :
    Calls Tryd.prog 5 #[.string s, .string t] w (Shims (Pl.all s t) w) := by
  obtain ⟨i0, hi, hz0, hz1, hz2⟩ := info_parts Tryd.info9
  have cS := func_any s t w hs ht h0 hne
  have hL := Pl.all_length s t h0
  generalize Pl.all s t = L at cS hL ⊢
  go_enter Tryd.func5, Tryd.ntmps5
  go_wp2_with (first
    | (go_at_call 7; refine cS.mono ?_; rintro e w1 ⟨g, rfl, hown1, hb1⟩)
    | (at_make; refine wpList_make_full _ rfl _ _ 23 rfl w.heap.size 9 i0 (.string ByteArray.empty) 1 Tryd.underlying23 hi hz0 hz1 .i64 .i64 _ _ L.length rfl rfl rfl rfl (by rw [hz2]; omega) (by unfold maxLen; omega) hb1.size ?_; intro w2 hown2 hgrow2))
  have hgg : g < w1.heap.size := (hown1.lt g rfl).2
  have hA := hown1.kept hgrow2 (.inr (by simp [Value.ownBlock]))
  have hB : w2.ownsRow w.heap.size 9 1 (.slice (some ⟨w1.heap.size, 0, none⟩) L.length L.length) L.length (texted L 0) := by
    have e : (madeCells (Value.string ByteArray.empty).cells (L.length * 1)).toList = texted L 0 := by
      rw [texted_zero, Nat.mul_one]; exact toList_madeCells_one _ _
    rw [← e]; exact hown2
  have hb2 := hb1.grown hgrow2 hb1.size (fun q hq => by cases hq)
  clear hown1 hown2 hgrow2 hb1
  go_loopw [28] (fun i wr => ∃ k : Nat, k ≤ L.length ∧ i = .int .i64 k ∧ wr.ownsRow w.heap.size 20 1 (.slice (some ⟨g, 0, none⟩) L.length L.length) L.length (L.map (fun x => Value.iface 9 (.string x))) ∧
      wr.ownsRow w.heap.size 9 1 (.slice (some ⟨w1.heap.size, 0, none⟩) L.length L.length) L.length (texted L k) ∧ Below w.heap.size w wr)
    (fun i _ => L.length - (intOf i).toNat)
  case atStart => exact ⟨0, Nat.zero_le _, rfl, hA, hB, hb2⟩
  case round =>
    clear hA hB hb2
    obtain ⟨k, hk, rfl, hA, hB, hnx⟩ := hrel
    by_cases hlt : k < L.length
    · have hc1 : wr.cell? ⟨g, k, none⟩ = some (.iface 9 (.string L[k])) := by
        rw [hA.cellAt k (by omega)]; simp [hlt]
      have hc2 : ∃ u, wr.cell? ⟨w1.heap.size, k, none⟩ = some u := by
        rw [hB.cellAt k (by omega)]
        exact ⟨_, List.getElem?_eq_getElem (by rw [texted_length L k hk]; exact hlt)⟩
      obtain ⟨u, hc2⟩ := hc2
      have hf2 : wr.frozen? ⟨w1.heap.size, k, none⟩ = false := hB.frozenAt k
      have hst := hB.stored k (.string L[k])
      rw [texted_set L k hlt] at hst
      obtain ⟨hB', hG⟩ := hst
      have hA' := hA.kept hG (.inr (by simp only [Value.ownBlock, ne_eq, Option.some.injEq]; omega))
      have hn' := hnx.setCell (p := ⟨w1.heap.size, k, none⟩) (hB.lt _ rfl).1 (.string L[k])
      go_wp2
      go_roundw
      case rel => exact ⟨k + 1, by omega, by go_num, hA', hB', hn'⟩
      case measure => simp [intOf]; omega
    · obtain rfl : k = L.length := by omega
      go_wp2
      go_ret2
      exact ⟨w1.heap.size, rfl, by rw [texted_all] at hB; exact hB, hnx⟩

end Go.Proofs.YtlbgeceeeniikaaDoor
