/-
  The line that grows: plain facts. And a slice of byte slices, read as a list of lists.
-/
import Derived.Test.Qxb6601335aDoorQuoteP
import Derived.Test.Qxb6601335aDoorSplitR
import Derived.Test.Qxb6601335aDoorSplitM
namespace Go.Proofs.Qxb6601335aDoor
open Go.RowKit

/-- The line behind k arguments. -/
structure LineRel (xs : List (List Int)) (k : Nat) (line : List Int) : Prop where
  eq : line = lineOf (xs.take k)
  len : line.length ≤ 3 * k + 4 * sumTo (lenOf xs) k

/-- The line behind k arguments and m bytes of the next. -/
structure CellRel (xs : List (List Int)) (k m : Nat) (line : List Int) : Prop where
  eq : line = (lineOf (xs.take k) ++ (if k = 0 then [] else [32])) ++ [34] ++ ((xs.getD k []).take m).flatMap qb
  len : line.length ≤ 3 * k + 4 * sumTo (lenOf xs) k + 2 + 4 * m

theorem LineRel.start (xs : List (List Int)) : LineRel xs 0 [] := ⟨rfl, Nat.zero_le _⟩

theorem LineRel.first {xs : List (List Int)} {k : Nat} {line : List Int} (h : LineRel xs k line) (hk : k = 0) : CellRel xs k 0 (line ++ [34]) := by
  refine ⟨?_, ?_⟩
  · rw [h.eq, if_pos hk]; simp
  · have := h.len; simp only [List.length_append, List.length_cons, List.length_nil]; omega

theorem LineRel.more {xs : List (List Int)} {k : Nat} {line : List Int} (h : LineRel xs k line) (hk : 0 < k) : CellRel xs k 0 (line ++ [32] ++ [34]) := by
  refine ⟨?_, ?_⟩
  · rw [h.eq, if_neg (by omega)]; simp
  · have := h.len; simp only [List.length_append, List.length_cons, List.length_nil]; omega

theorem CellRel.step {xs : List (List Int)} {k m : Nat} {line : List Int} (h : CellRel xs k m line) (hm : m < lenOf xs k) : CellRel xs k (m + 1) (line ++ qb (byteOf xs k m)) := by
  have hm' : m < (xs.getD k []).length := hm
  refine ⟨?_, ?_⟩
  · have e : (xs.getD k []).take (m + 1) = (xs.getD k []).take m ++ [byteOf xs k m] := by
      rw [List.take_succ_eq_append_getElem hm']
      congr 2
      unfold byteOf
      generalize xs.getD k [] = X at hm' ⊢
      simp [List.getD, hm']
    rw [e, List.flatMap_append, h.eq]
    simp
  · have := h.len
    have := (qb_len (byteOf xs k m)).2
    simp only [List.length_append]
    omega

theorem CellRel.close {xs : List (List Int)} {k m : Nat} {line : List Int} (h : CellRel xs k m line) (hk : k < xs.length) (hm : m = lenOf xs k) : LineRel xs (k + 1) (line ++ [34]) := by
  subst hm
  refine ⟨?_, ?_⟩
  · have e : xs.take (k + 1) = xs.take k ++ [xs.getD k []] := by
      rw [List.take_succ_eq_append_getElem hk]
      congr 2
      simp [List.getD, hk]
    have e2 : (xs.getD k []).take (lenOf xs k) = xs.getD k [] := List.take_of_length_le (Nat.le_refl _)
    have e3 : (xs.take k).length = k := by rw [List.length_take]; omega
    rw [e, lineOf_snoc, e3, h.eq, e2]
  · have := h.len
    simp only [List.length_append, List.length_cons, List.length_nil, sumTo]
    omega

theorem LineRel.done {xs : List (List Int)} {line : List Int} (h : LineRel xs xs.length line) (hb : ∀ x ∈ xs, Byt x) : splitP line = some xs := by
  rw [h.eq, List.take_length, split_line xs hb]

theorem lineOf_pos {xs : List (List Int)} (h : 0 < xs.length) : 0 < (lineOf xs).length := by
  cases xs with
  | nil => simp at h
  | cons x xs => simp [lineOf]

theorem LineRel.pos {xs : List (List Int)} {line : List Int} (h : LineRel xs xs.length line) (hp : 0 < xs.length) : 0 < line.length := by
  rw [h.eq, List.take_length]
  exact lineOf_pos hp

/-- Lengths and bytes by index, as a list of lists. -/
def listOf (n : Nat) (L : Nat → Nat) (Z : Nat → Nat → Int) : List (List Int) := (List.range n).map fun r => (List.range (L r)).map (Z r)

theorem listOf_len (n : Nat) (L : Nat → Nat) (Z : Nat → Nat → Int) : (listOf n L Z).length = n := by simp [listOf]
theorem listOf_at {n : Nat} {L : Nat → Nat} {Z : Nat → Nat → Int} {r : Nat} (h : r < n) : (listOf n L Z).getD r [] = (List.range (L r)).map (Z r) := by
  simp [listOf, List.getD, h]
theorem listOf_lenOf {n : Nat} {L : Nat → Nat} {Z : Nat → Nat → Int} {r : Nat} (h : r < n) : lenOf (listOf n L Z) r = L r := by
  unfold lenOf
  rw [listOf_at h]
  simp
theorem listOf_byteOf {n : Nat} {L : Nat → Nat} {Z : Nat → Nat → Int} {r i : Nat} (h : r < n) (hi : i < L r) : byteOf (listOf n L Z) r i = Z r i := by
  unfold byteOf
  rw [listOf_at h]
  simp [List.getD, hi]

theorem holds88_list {w : World} {ao : Option Addr} {n : Nat} {A : Nat → Option Addr} {L C : Nat → Nat} {Z : Nat → Nat → Int} (H : Holds88 w ao n A L C Z) :
    Holds88 w ao n A (lenOf (listOf n L Z)) C (byteOf (listOf n L Z)) := by
  intro r hr
  obtain ⟨b, o, h1, h2, h3⟩ := H r hr
  rw [listOf_lenOf hr]
  refine ⟨b, o, h1, h2, fun i hi => ?_⟩
  rw [listOf_byteOf hr hi]
  exact h3 i hi

theorem byt_list {w : World} {ao : Option Addr} {n : Nat} {A : Nat → Option Addr} {L C : Nat → Nat} {Z : Nat → Nat → Int} (H : Holds88 w ao n A L C Z) : ∀ x ∈ listOf n L Z, Byt x := by
  intro x hx b hb
  simp only [listOf, List.mem_map, List.mem_range] at hx
  obtain ⟨r, hr, rfl⟩ := hx
  simp only [List.mem_map, List.mem_range] at hb
  obtain ⟨i, hi, rfl⟩ := hb
  obtain ⟨_, _, _, _, h3⟩ := H r hr
  obtain ⟨_, _, _, _, h⟩ := h3 i hi
  exact h

/-- A row of its own that is not empty, read as a byte slice. -/
theorem ArgInv.holds {w0 wr : World} {arg : List Int} {v : Value} (I : ArgInv w0 arg v wr) (hp : 0 < arg.length) :
    ∃ g cap, v = .slice (some ⟨g, 0, none⟩) arg.length cap ∧ arg.length ≤ cap ∧ Holds8 wr (some ⟨g, 0, none⟩) arg.length (fun i => arg.getD i 0) := by
  rcases I.own.2 with ⟨hv, hn⟩ | ⟨g, cap, cur, hv, hg, hh, hle, hcap, hcs, htk⟩
  · omega
  · refine ⟨g, cap, hv, hle, fun i hi => ⟨g, 0, rfl, ?_, ?_⟩⟩
    · have : (cur.toList.take (arg.length * 1))[i]? = some (.int .u8 (arg.getD i 0)) := by
        rw [htk, List.getElem?_map, List.getD_eq_getElem?_getD, List.getElem?_eq_getElem hi]
        rfl
      rw [List.getElem?_take_of_lt (by omega)] at this
      simp [World.cell?, hh]
      simpa using this
    · have hm : arg.getD i 0 ∈ arg := by
        rw [List.getD_eq_getElem?_getD, List.getElem?_eq_getElem hi]
        exact List.getElem_mem _
      exact I.byte _ hm

end Go.Proofs.Qxb6601335aDoor
