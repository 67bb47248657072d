/-
  The plain law of split, with no program in sight: the pieces of a string cut at the leftmost non-overlapping occurrences of a non-empty text, and how one search on the rest of the string goes on with them. No condition but those that each theorem states.
-/
namespace Go.Proofs.YtlbgeceeeniikaaDoor
namespace Pl

/-- Does t stand in s at place i? In the walk's own form. -/
def hit (s t : ByteArray) (i : Nat) : Bool := (s.extract i (i + t.size)).toList == t.toList

/-- The scan with fuel: the piece that is open began at place st, the scan stands at place i. -/
def scan (s t : ByteArray) : Nat → Nat → Nat → List ByteArray
  | 0, st, _ => [s.extract st s.size]
  | f + 1, st, i =>
    if i + t.size ≤ s.size then
      (if hit s t i = true then s.extract st i :: scan s t f (i + t.size) (i + t.size) else scan s t f st (i + 1))
    else [s.extract st s.size]

/-- The pieces from place i on, the open piece having begun at st. -/
def pieces (s t : ByteArray) (st i : Nat) : List ByteArray := scan s t (s.size + 1 - i) st i

theorem scan_fuel (s t : ByteArray) (ht : 0 < t.size) : ∀ (f g st i : Nat), s.size + 1 - i ≤ f → s.size + 1 - i ≤ g → scan s t f st i = scan s t g st i := by
  intro f
  induction f with
  | zero =>
    intro g st i hf hg
    cases g with
    | zero => rfl
    | succ g =>
      have h : ¬ i + t.size ≤ s.size := by omega
      simp only [scan, if_neg h]
  | succ f ih =>
    intro g st i hf hg
    cases g with
    | zero =>
      have h : ¬ i + t.size ≤ s.size := by omega
      simp only [scan, if_neg h]
    | succ g =>
      simp only [scan]
      by_cases h : i + t.size ≤ s.size
      · rw [if_pos h, if_pos h]
        by_cases hh : hit s t i = true
        · rw [if_pos hh, if_pos hh, ih g (i + t.size) (i + t.size) (by omega) (by omega)]
        · rw [if_neg hh, if_neg hh, ih g st (i + 1) (by omega) (by omega)]
      · rw [if_neg h, if_neg h]

theorem pieces_end (s t : ByteArray) (st i : Nat) (h : ¬ i + t.size ≤ s.size) : pieces s t st i = [s.extract st s.size] := by
  unfold pieces
  cases s.size + 1 - i with
  | zero => rfl
  | succ f => simp only [scan, if_neg h]

theorem pieces_hit (s t : ByteArray) (ht : 0 < t.size) (st i : Nat) (h : i + t.size ≤ s.size) (hh : hit s t i = true) :
    pieces s t st i = s.extract st i :: pieces s t (i + t.size) (i + t.size) := by
  have e : s.size + 1 - i = (s.size - i) + 1 := by omega
  unfold pieces
  rw [e]
  simp only [scan, if_pos h, if_pos hh]
  rw [scan_fuel s t ht (s.size - i) (s.size + 1 - (i + t.size)) (i + t.size) (i + t.size) (by omega) (by omega)]

theorem pieces_miss (s t : ByteArray) (ht : 0 < t.size) (st i : Nat) (h : i + t.size ≤ s.size) (hh : hit s t i = false) :
    pieces s t st i = pieces s t st (i + 1) := by
  have e : s.size + 1 - i = (s.size - i) + 1 := by omega
  have hh' : ¬ hit s t i = true := by simp [hh]
  unfold pieces
  rw [e]
  simp only [scan, if_pos h, if_neg hh']
  rw [scan_fuel s t ht (s.size - i) (s.size + 1 - (i + 1)) st (i + 1) (by omega) (by omega)]

/-- No place from i up to k (not counted) is a hit: the scan stands at k. -/
theorem pieces_skip (s t : ByteArray) (ht : 0 < t.size) (st i : Nat) : ∀ (d : Nat), i + d + t.size ≤ s.size + 1 → (∀ j, j < d → hit s t (i + j) = false) → pieces s t st i = pieces s t st (i + d) := by
  intro d
  induction d with
  | zero => intro _ _; rfl
  | succ d ih =>
    intro h hn
    rw [ih (by omega) (fun j hj => hn j (by omega)), pieces_miss s t ht st (i + d) (by omega) (hn d (by omega))]
    rfl

/-- The scan never stands before it ends where nothing more is hit. -/
theorem pieces_none (s t : ByteArray) (ht : 0 < t.size) (st i : Nat) (hn : ∀ j, i + j + t.size ≤ s.size → hit s t (i + j) = false) : pieces s t st i = [s.extract st s.size] := by
  by_cases h : i + t.size ≤ s.size
  · rw [pieces_skip s t ht st i (s.size + 1 - t.size - i) (by omega) (fun j hj => hn j (by omega))]
    exact pieces_end s t st _ (by omega)
  · exact pieces_end s t st i h

theorem pieces_length (s t : ByteArray) (ht : 0 < t.size) : ∀ (d st i : Nat), s.size + 1 - i ≤ d → i ≤ s.size → (pieces s t st i).length + i ≤ s.size + 1 := by
  intro d
  induction d with
  | zero => intro st i hd hi; omega
  | succ d ih =>
    intro st i hd hi
    by_cases h : i + t.size ≤ s.size
    · cases hh : hit s t i with
      | true =>
        rw [pieces_hit s t ht st i h hh]
        have := ih (i + t.size) (i + t.size) (by omega) (by omega)
        simp only [List.length_cons]
        omega
      | false =>
        rw [pieces_miss s t ht st i h hh]
        by_cases h1 : i + 1 ≤ s.size
        · have := ih st (i + 1) (by omega) h1
          omega
        · omega
    · rw [pieces_end s t st i h]
      simp only [List.length_cons, List.length_nil]
      omega

/-- All pieces. -/
def all (s t : ByteArray) : List ByteArray := pieces s t 0 0
theorem all_length (s t : ByteArray) (ht : 0 < t.size) : (all s t).length ≤ s.size + 1 := by
  have := pieces_length s t ht (s.size + 1) 0 0 (by omega) (by omega)
  unfold all
  omega

/-! What a search for the first hit says. -/
/-- No hit at all. -/
def NoHit (s t : ByteArray) : Prop := ∀ j, j + t.size ≤ s.size → hit s t j = false
/-- The first hit is at place k. -/
def FirstHit (s t : ByteArray) (k : Nat) : Prop := k + t.size ≤ s.size ∧ hit s t k = true ∧ ∀ j, j < k → hit s t j = false

theorem first_or_none (s t : ByteArray) : NoHit s t ∨ ∃ k, FirstHit s t k := by
  have key : ∀ d, (∀ j, j < d → j + t.size ≤ s.size → hit s t j = false) ∨ ∃ k, FirstHit s t k := by
    intro d
    induction d with
    | zero => exact .inl fun j hj => absurd hj (Nat.not_lt_zero j)
    | succ d ih =>
      rcases ih with h | h
      · by_cases hd : d + t.size ≤ s.size
        · cases hh : hit s t d with
          | true => exact .inr ⟨d, hd, hh, fun j hj => h j hj (by omega)⟩
          | false =>
            refine .inl fun j hj hjs => ?_
            by_cases e : j = d
            · rw [e]; exact hh
            · exact h j (by omega) hjs
        · refine .inl fun j hj hjs => ?_
          exact h j (by omega) hjs
      · exact .inr h
  rcases key (s.size + 1) with h | h
  · exact .inl fun j hj => h j (by omega) hj
  · exact .inr h

/-- A hit in the rest of s from place p on is a hit of s, p places further. -/
theorem hit_rest (s t : ByteArray) (p i : Nat) (hp : p ≤ s.size) (h : i + t.size ≤ s.size - p) : hit (s.extract p s.size) t i = hit s t (p + i) := by
  unfold hit
  rw [ByteArray.extract_extract]
  have e : min (p + (i + t.size)) s.size = p + i + t.size := by omega
  rw [e]

theorem rest_size (s : ByteArray) (p : Nat) : (s.extract p s.size).size = s.size - p := by
  rw [ByteArray.size_extract]; omega
theorem rest_to (s : ByteArray) (p k : Nat) (h : p + k ≤ s.size) : (s.extract p s.size).extract 0 k = s.extract p (p + k) := by
  rw [ByteArray.extract_extract]
  have e : min (p + k) s.size = p + k := by omega
  rw [e, Nat.add_zero]
theorem rest_from (s : ByteArray) (p k : Nat) : (s.extract p s.size).extract k (s.size - p) = s.extract (p + k) s.size := by
  rw [ByteArray.extract_extract]
  have e : min (p + (s.size - p)) s.size = s.size := by omega
  rw [e]

/-- One search on the rest, with no hit: one last piece. -/
theorem pieces_rest_none (s t : ByteArray) (ht : 0 < t.size) (p : Nat) (hp : p ≤ s.size) (h : NoHit (s.extract p s.size) t) : pieces s t p p = [s.extract p s.size] := by
  refine pieces_none s t ht p p fun j hj => ?_
  rw [← hit_rest s t p j hp (by omega)]
  exact h j (by rw [rest_size]; omega)
/-- One search on the rest, with its first hit at k: the piece ahead of it, then the pieces behind it. -/
theorem pieces_rest_first (s t : ByteArray) (ht : 0 < t.size) (p k : Nat) (hp : p ≤ s.size) (h : FirstHit (s.extract p s.size) t k) :
    p + k + t.size ≤ s.size ∧ pieces s t p p = s.extract p (p + k) :: pieces s t (p + (k + t.size)) (p + (k + t.size)) := by
  obtain ⟨h1, h2, h3⟩ := h
  rw [rest_size] at h1
  refine ⟨by omega, ?_⟩
  rw [pieces_skip s t ht p p k (by omega) (fun j hj => by rw [← hit_rest s t p j hp (by omega)]; exact h3 j hj)]
  rw [pieces_hit s t ht p (p + k) (by omega) (by rw [← hit_rest s t p k hp (by omega)]; exact h2)]
  rw [Nat.add_assoc]

end Pl
end Go.Proofs.YtlbgeceeeniikaaDoor
