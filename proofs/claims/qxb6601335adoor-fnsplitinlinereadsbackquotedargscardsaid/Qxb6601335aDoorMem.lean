/-
  Plain words for what the walks of this seat say of memory: byte slices, slices of byte slices, a sum of lengths. No program here.
-/
import Derived.WalkKit
import Derived.WalkSpells
import Derived.WalkLawsBesides
import Derived.Deep.OwnRows
import Derived.Laws.CopyOwn
import Derived.Deep.AppendSrc
import Derived.Lib.JoinLaws
import Derived.Deep.WholeRow
namespace Go.Proofs.Qxb6601335aDoor
open Go.RowKit

/-- The sum of the first n lengths. -/
def sumTo (L : Nat → Nat) : Nat → Nat
  | 0 => 0
  | n + 1 => sumTo L n + L n

theorem sumTo_mono (L : Nat → Nat) {m n : Nat} (h : m ≤ n) : sumTo L m ≤ sumTo L n := by
  induction n with
  | zero => obtain rfl : m = 0 := by omega
            exact Nat.le_refl _
  | succ n ih =>
    by_cases e : m = n + 1
    · subst e; exact Nat.le_refl _
    · have := ih (by omega); simp only [sumTo]; omega

theorem sumTo_step (L : Nat → Nat) {r n : Nat} (h : r < n) : sumTo L r + L r ≤ sumTo L n := sumTo_mono L (m := r + 1) h

/-- The byte slice '.slice ao l c' holds Z 0, .., Z (l - 1). -/
def Holds8 (w : World) (ao : Option Addr) (l : Nat) (Z : Nat → Int) : Prop :=
  ∀ i, i < l → ∃ b o, ao = some ⟨b, o, none⟩ ∧ w.cell? ⟨b, o + i, none⟩ = some (.int .u8 (Z i)) ∧ 0 ≤ Z i ∧ Z i ≤ 255

/-- The slice of byte slices '.slice ao n c': row r is '.slice (A r) (L r) (C r)', holding 'Z r'. -/
def Holds88 (w : World) (ao : Option Addr) (n : Nat) (A : Nat → Option Addr) (L C : Nat → Nat) (Z : Nat → Nat → Int) : Prop :=
  ∀ r, r < n → ∃ b o, ao = some ⟨b, o, none⟩ ∧ w.cell? ⟨b, o + r, none⟩ = some (.slice (A r) (L r) (C r)) ∧ Holds8 w (A r) (L r) (Z r)

theorem lt_of_cell {w : World} {b o : Nat} {v : Value} (h : w.cell? ⟨b, o, none⟩ = some v) : b < w.heap.size := by
  unfold World.cell? at h
  by_cases hb : b < w.heap.size
  · exact hb
  · simp [Array.getElem?_eq_none (Nat.le_of_not_lt hb)] at h

theorem Holds8.below {w w' : World} {ao : Option Addr} {l : Nat} {Z : Nat → Int} (h : Holds8 w ao l Z) (hb : Below w.heap.size w w') : Holds8 w' ao l Z := by
  intro i hi
  obtain ⟨b, o, h1, h2, h3⟩ := h i hi
  exact ⟨b, o, h1, cell_later hb h2, h3⟩

theorem Holds88.below {w w' : World} {ao : Option Addr} {n : Nat} {A : Nat → Option Addr} {L C : Nat → Nat} {Z : Nat → Nat → Int} (h : Holds88 w ao n A L C Z) (hb : Below w.heap.size w w') : Holds88 w' ao n A L C Z := by
  intro r hr
  obtain ⟨b, o, h1, h2, h3⟩ := h r hr
  exact ⟨b, o, h1, cell_later hb h2, h3.below hb⟩

/-- A row of its own, read as a byte slice from 'o' on. -/
theorem Holds8.ofRow {w : World} {g t n : Nat} {f : Nat → Value} {l o : Nat} {Z : Nat → Int} (h : w.rowIs g t n f) (hf : ∀ i, i < l → o + i < n ∧ f (o + i) = .int .u8 (Z i)) (hz : ∀ i, i < l → 0 ≤ Z i ∧ Z i ≤ 255) :
    Holds8 w (some ⟨g, o, none⟩) l Z := by
  intro i hi
  obtain ⟨h1, h2⟩ := hf i hi
  exact ⟨g, o, rfl, by rw [h.cell h1, h2], hz i hi⟩

/-- 'copy(c, b)' behind 'c := make([]T, len(b))': the new row holds what b holds. -/
theorem run_copy_fresh {P : Program} (w : World) (dT sT ty elem : TypeId) (ad : Addr) (l c : Nat) (z : Value) (t : TypeId) (cs : List Value) (hu : P.underlying dT = some (.slice elem)) (hs : (P.info? elem).map (·.size) = some 1)
    (hcs : cs.length = l) (hsrc : ∀ j v, cs[j]? = some v → w.cell? (ad.add j) = some v) (h1 : ∀ v ∈ cs, v.oneCell' = true) :
    (Builtin.copy_ #[dT, sT] ty #[.slice (some ⟨w.heap.size, 0, none⟩) l l, .slice (some ad) l c]).run P (w.alloc (.cells (madeCells #[z] l) t)) = .ok (.int .i64 (l : Int)) (w.alloc (.cells cs.toArray t)) := by
  have hlt : ∀ j v, cs[j]? = some v → (w.alloc (.cells (madeCells #[z] l) t)).cell? (ad.add j) = some v := fun j v hv =>
    cell_later ((Below.refl _ _).alloc (Nat.le_refl _) _) (hsrc j v hv)
  have hr := run_copy_row (P := P) (w.alloc (.cells (madeCells #[z] l) t)) dT sT ty elem w.heap.size 0 l l ad l c (madeCells #[z] l) t cs hu hs (Deep.blk_alloc_new _ _) (by rw [hcs]; exact (Nat.min_self l).symm) hlt (by rw [size_madeCells, hcs]; omega) h1
  rw [hr, World.setRow_alloc_new]
  have e : (madeCells #[z] l).toList.take 0 ++ cs ++ (madeCells #[z] l).toList.drop (0 + cs.length) = cs := by
    rw [List.drop_eq_nil_of_le (by rw [Array.length_toList, size_madeCells, hcs]; omega)]
    simp
  rw [e, hcs]
  rfl

theorem setRow_size (w : World) (g : Nat) (cs : Array Value) : (w.setRow g cs).heap.size = w.heap.size := by simp [World.setRow]

end Go.Proofs.Qxb6601335aDoor
