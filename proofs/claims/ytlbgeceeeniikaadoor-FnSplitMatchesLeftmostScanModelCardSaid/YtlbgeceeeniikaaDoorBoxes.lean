/-
  The walk of funcSplit at two texts: it returns a new slice of interface values, each of them a text: the pieces of s cut at the leftmost non-overlapping hits of t. Conditions: s has at most 65536 bytes, t at least one and at most 65536.
-/
import Derived.Test.YtlbgeceeeniikaaDoorSplits2
namespace Go.Proofs.YtlbgeceeeniikaaDoor
open Go.RowKit

theorem Tryd.info20 : (Tryd.prog.info? 20).map (fun i => (i.zero, i.size, i.bytes)) = some (some .nilIface, 1, 16) := by kernel_rfl
@[go_sem] theorem as9 (v : Value) (w : World) : (Instr.typeAssert (.iface 9 v) 20 9 true).run Tryd.prog w = .ok (.tuple #[v, .bool true]) w := by kernel_rfl
@[go_sem] theorem as27 (v : Value) (w : World) : (Instr.typeAssert (.iface 27 v) 20 27 true).run Tryd.prog w = .ok (.tuple #[v, .bool true]) w := by kernel_rfl
@[go_sem] theorem mk9 (x : Value) (w : World) : (Instr.makeInterface 9 x).run Tryd.prog w = .ok (.iface 9 x) w := run_makeInterface w 9 x (by kernel_rfl)
@[go_sem] theorem mk27 (x : Value) (w : World) : (Instr.makeInterface 27 x).run Tryd.prog w = .ok (.iface 27 x) w := run_makeInterface w 27 x (by kernel_rfl)

/-- The boxes behind k rounds: the first k pieces as interface values, then nil ones. -/
def boxed (L : List ByteArray) (k : Nat) : List Value := (L.take k).map (fun x => Value.iface 9 (.string x)) ++ List.replicate (L.length - k) .nilIface

theorem boxed_zero (L : List ByteArray) : boxed L 0 = List.replicate L.length .nilIface := by simp [boxed]
theorem boxed_all (L : List ByteArray) : boxed L L.length = L.map (fun x => Value.iface 9 (.string x)) := by simp [boxed]
theorem boxed_length (L : List ByteArray) (k : Nat) (h : k ≤ L.length) : (boxed L k).length = L.length := by simp [boxed]; omega
theorem boxed_set (L : List ByteArray) (k : Nat) (h : k < L.length) : (boxed L k).set k (.iface 9 (.string L[k])) = boxed L (k + 1) := by
  unfold boxed
  rw [List.set_append_right _ _ (by simp; omega)]
  have e1 : L.length - k = (L.length - (k + 1)) + 1 := by omega
  have e2 : k - ((L.take k).map fun x => Value.iface 9 (.string x)).length = 0 := by simp; omega
  rw [e2, e1, List.replicate_succ, List.set_cons_zero, List.take_succ_eq_append_getElem h]
  simp only [List.map_append, List.map_cons, List.map_nil, List.append_assoc, List.cons_append, List.nil_append]

/-- What funcSplit leaves. -/
def Boxes (L : List ByteArray) (w : World) (e : Ending) (w' : World) : Prop :=
  ∃ g, e = .returned (.iface 27 (.slice (some ⟨g, 0, none⟩) L.length L.length)) ∧ w'.ownsRow w.heap.size 20 1 (.slice (some ⟨g, 0, none⟩) L.length L.length) L.length (L.map (fun x => Value.iface 9 (.string x))) ∧ Below w.heap.size w w'

set_option maxHeartbeats 800000 in
theorem func_any (s t : ByteArray) (w : World) (hs : s.size ≤ 65536) (ht : t.size ≤ 65536) (h0 : 0 < t.size) (hne : t.toList.isEmpty = false) :
    Calls Tryd.prog 7 #[.iface 9 (.string s), .iface 9 (.string t)] w (Boxes (Pl.all s t) w) := by
  obtain ⟨i0, hi, hz0, hz1, hz2⟩ := info_parts Tryd.info20
  have cS := split_any s t w hs ht h0 hne
  have hL := Pl.all_length s t h0
  generalize Pl.all s t = L at cS hL ⊢
  go_enter Tryd.func7, Tryd.ntmps7
  go_wp2_with (first
    | (go_at_call 8; refine cS.mono ?_; rintro e w1 ⟨g, cap, rfl, hown1, hb1⟩)
    | (at_make; refine wpList_make_full _ rfl _ _ 27 rfl w.heap.size 20 i0 .nilIface 1 Tryd.underlying27 hi hz0 hz1 .i64 .i64 _ _ L.length rfl rfl rfl rfl (by rw [hz2]; omega) (by unfold maxLen; omega) hb1.size ?_; intro w2 hown2 hgrow2))
  have hgg : g < w1.heap.size := (hown1.lt g rfl).2
  have hA := hown1.kept hgrow2 (.inr (by simp [Value.ownBlock]))
  have hB : w2.ownsRow w.heap.size 20 1 (.slice (some ⟨w1.heap.size, 0, none⟩) L.length L.length) L.length (boxed L 0) := by
    have e : (madeCells Value.nilIface.cells (L.length * 1)).toList = boxed L 0 := by
      rw [boxed_zero, Nat.mul_one]; exact toList_madeCells_one _ _
    rw [← e]; exact hown2
  have hb2 := hb1.grown hgrow2 hb1.size (fun q hq => by cases hq)
  clear hown1 hown2 hgrow2 hb1
  go_loopw [42] (fun i wr => ∃ k : Nat, k ≤ L.length ∧ i = .int .i64 k ∧ wr.ownsRow w.heap.size 9 1 (.slice (some ⟨g, 0, none⟩) L.length cap) L.length (L.map Value.string) ∧
      wr.ownsRow w.heap.size 20 1 (.slice (some ⟨w1.heap.size, 0, none⟩) L.length L.length) L.length (boxed L k) ∧ Below w.heap.size w wr)
    (fun i _ => L.length - (intOf i).toNat)
  case atStart => exact ⟨0, Nat.zero_le _, rfl, hA, hB, hb2⟩
  case round =>
    clear hA hB hb2
    obtain ⟨k, hk, rfl, hA, hB, hnx⟩ := hrel
    by_cases hlt : k < L.length
    · have hc1 : wr.cell? ⟨g, k, none⟩ = some (.string L[k]) := by
        rw [hA.cellAt k (by omega)]; simp [hlt]
      have hc2 : ∃ u, wr.cell? ⟨w1.heap.size, k, none⟩ = some u := by
        rw [hB.cellAt k (by omega)]
        exact ⟨_, List.getElem?_eq_getElem (by rw [boxed_length L k hk]; exact hlt)⟩
      obtain ⟨u, hc2⟩ := hc2
      have hf2 : wr.frozen? ⟨w1.heap.size, k, none⟩ = false := hB.frozenAt k
      have hst := hB.stored k (.iface 9 (.string L[k]))
      rw [boxed_set L k hlt] at hst
      obtain ⟨hB', hG⟩ := hst
      have hA' := hA.kept hG (.inr (by simp only [Value.ownBlock, ne_eq, Option.some.injEq]; omega))
      have hn' := hnx.setCell (p := ⟨w1.heap.size, k, none⟩) (hB.lt _ rfl).1 (.iface 9 (.string L[k]))
      go_wp2
      go_roundw
      case rel => exact ⟨k + 1, by omega, by go_num, hA', hB', hn'⟩
      case measure => simp [intOf]; omega
    · obtain rfl : k = L.length := by omega
      go_wp2
      go_ret
      exact ⟨w1.heap.size, rfl, by rw [boxed_all] at hB; exact hB, hnx⟩

end Go.Proofs.YtlbgeceeeniikaaDoor
