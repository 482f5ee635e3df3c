/-
  Plain functions: what splitInline computes, on lists of bytes (as integers). No program, no model here but the word for bits.
-/
import Derived.Laws.BitsAllLaws
namespace Go.Proofs.Qxb6601335aDoor

/-- White space in the C locale. -/
def isSp (c : Int) : Bool := c == 32 || (decide (9 ≤ c) && decide (c ≤ 13))

/-- What a backslash and c stand for. -/
def unesc (c : Int) : Int := if c = 110 then 10 else if c = 114 then 13 else if c = 116 then 9 else if c = 98 then 8 else if c = 97 then 7 else c

/-- The value of a hexadecimal digit. -/
def hexv (c : Int) : Option Int :=
  if 48 ≤ c ∧ c ≤ 57 then some (c - 48) else if 97 ≤ c ∧ c ≤ 102 then some (c - 87) else if 65 ≤ c ∧ c ≤ 70 then some (c - 55) else none

theorem hexv_digit {c : Int} (h1 : 48 ≤ c) (h2 : c ≤ 57) : hexv c = some (c - 48) := by unfold hexv; rw [if_pos ⟨h1, h2⟩]
theorem hexv_lower {c : Int} (h1 : 97 ≤ c) (h2 : c ≤ 102) : hexv c = some (c - 87) := by unfold hexv; rw [if_neg (by omega), if_pos ⟨h1, h2⟩]
theorem hexv_upper {c : Int} (h1 : 65 ≤ c) (h2 : c ≤ 70) : hexv c = some (c - 55) := by unfold hexv; rw [if_neg (by omega), if_neg (by omega), if_pos ⟨h1, h2⟩]
theorem hexv_none {c : Int} (h1 : ¬ (48 ≤ c ∧ c ≤ 57)) (h2 : ¬ (97 ≤ c ∧ c ≤ 102)) (h3 : ¬ (65 ≤ c ∧ c ≤ 70)) : hexv c = none := by unfold hexv; rw [if_neg h1, if_neg h2, if_neg h3]
theorem hexv_bound {c v : Int} (h : hexv c = some v) : 0 ≤ v ∧ v ≤ 15 := by
  unfold hexv at h
  split at h
  · cases h; omega
  · split at h
    · cases h; omega
    · split at h
      · cases h; omega
      · cases h

/-- The byte that the first two hexadecimal digits write. -/
def hex2 : List Int → Option Int
  | a :: b :: _ => match hexv a, hexv b with
    | some h, some l => some (h * 16 + l)
    | _, _ => none
  | _ => none

/-- 'c | 0x20'. -/
def lowB (c : Int) : Int := bits .or .u8 c 32

theorem lowB_nat : ∀ c : Nat, c < 256 → ((c ||| 32 < 256) ∧ (97 ≤ c ∧ c ≤ 102 → c ||| 32 = c) ∧ (65 ≤ c ∧ c ≤ 70 → c ||| 32 = c + 32) ∧ (¬ (97 ≤ c ∧ c ≤ 102) → ¬ (65 ≤ c ∧ c ≤ 70) → ¬ (97 ≤ c ||| 32 ∧ c ||| 32 ≤ 102))) := by decide +kernel

theorem lowB_spec {c : Int} (h0 : 0 ≤ c) (h1 : c ≤ 255) : 0 ≤ lowB c ∧ lowB c ≤ 255 ∧ (97 ≤ c ∧ c ≤ 102 → lowB c = c) ∧ (65 ≤ c ∧ c ≤ 70 → lowB c = c + 32) ∧ (¬ (97 ≤ c ∧ c ≤ 102) → ¬ (65 ≤ c ∧ c ≤ 70) → ¬ (97 ≤ lowB c ∧ lowB c ≤ 102)) := by
  obtain ⟨n, rfl⟩ := Int.eq_ofNat_of_zero_le h0
  have e : lowB (n : Int) = ((n ||| 32 : Nat) : Int) := u8_or_nat n 32 (by omega) (by omega)
  obtain ⟨k1, k2, k3, k4⟩ := lowB_nat n (by omega)
  rw [e]
  refine ⟨by omega, by omega, fun h => ?_, fun h => ?_, fun h h' => ?_⟩
  · rw [k2 (by omega)]
  · rw [k3 (by omega)]; omega
  · have := k4 (by omega) (by omega); omega

/-- Behind k rounds of ParseUint's loop over two digits. -/
def HexAt (C : Nat → Int) (k : Nat) (n : Int) : Prop := (k = 0 ∧ n = 0) ∨ (k = 1 ∧ hexv (C 0) = some n) ∨ (k = 2 ∧ hex2 [C 0, C 1] = some n)
theorem HexAt.start (C : Nat → Int) : HexAt C 0 0 := .inl ⟨rfl, rfl⟩
theorem HexAt.step {C : Nat → Int} {k : Nat} {n v m : Int} (h : HexAt C k n) (hk : k < 2) (hv : hexv (C k) = some v) (hm : m = n * 16 + v) : HexAt C (k + 1) m := by
  subst hm
  rcases h with ⟨rfl, rfl⟩ | ⟨rfl, h⟩ | ⟨rfl, h⟩
  · exact .inr (.inl ⟨rfl, by rw [hv]; congr 1; omega⟩)
  · exact .inr (.inr ⟨rfl, by simp only [hex2, h, hv]⟩)
  · omega
theorem HexAt.bad {C : Nat → Int} {k : Nat} {n : Int} (h : HexAt C k n) (hk : k < 2) (hv : hexv (C k) = none) : hex2 [C 0, C 1] = none := by
  rcases h with ⟨rfl, rfl⟩ | ⟨rfl, h⟩ | ⟨rfl, h⟩
  · simp only [hex2, hv]
  · simp only [hex2, h, hv]
  · omega
theorem HexAt.bound {C : Nat → Int} {k : Nat} {n : Int} (h : HexAt C k n) (hk : k < 2) : 0 ≤ n ∧ n ≤ 15 := by
  rcases h with ⟨rfl, rfl⟩ | ⟨rfl, h⟩ | ⟨rfl, h⟩
  · omega
  · exact hexv_bound h
  · omega
theorem HexAt.done {C : Nat → Int} {n : Int} (h : HexAt C 2 n) : hex2 [C 0, C 1] = some n := by
  rcases h with ⟨h, _⟩ | ⟨h, _⟩ | ⟨_, h⟩
  · omega
  · omega
  · exact h

theorem hex2_bound {l : List Int} {v : Int} (h : hex2 l = some v) : 0 ≤ v ∧ v ≤ 255 := by
  unfold hex2 at h
  split at h
  · split at h
    · rename_i h1 h2
      have := hexv_bound h1
      have := hexv_bound h2
      cases h
      omega
    · cases h
  · cases h

end Go.Proofs.Qxb6601335aDoor
