/-
  FnCloneArgsCopiesExactly (function 4).
-/
import Derived.Test.Qxb6601335aCopyArgs
import Derived.Test.Qxb6601335aFit
import Derived.Test.Qxb6601335aLaid
import Derived.Test.Qxb6601335aClone
namespace Go.Proofs.Qxb6601335a
open Go.RowKit

set_option maxHeartbeats 400000 in
theorem copies_nil (w : World) :
    Calls Try.prog 4 #[.slice none 0 0] w fun e w' => e = .returned (.bool true) ∧ Below w.heap.size w w' := by
  have H : Holds88 w none 0 (fun _ => none) (fun _ => 0) (fun _ => 0) (fun _ _ => 0) := fun r hr => by omega
  go_enter Try.func4, Try.ntmps4
  go_wp2_with fail
  refine (bytes7_any _ _ _ _ _ _ _ _ H).mono ?_
  rintro e w1 ⟨⟨bb, rfl⟩, rfl⟩
  cases bb
  · go_wp2
    go_ret
    exact ⟨rfl, Below.refl _ _⟩
  go_wp2_with fail
  refine (fit_any _ _ _ _ _ _ _ _ H).mono ?_
  rintro e w1 ⟨⟨bb, rfl, _⟩, rfl⟩
  cases bb
  · go_wp2
    go_ret
    exact ⟨rfl, Below.refl _ _⟩
  go_wp2_with fail
  refine (copyArgs_none _).mono ?_
  rintro e w1 ⟨rfl, rfl⟩
  go_wp2_with fail
  refine (clone_zero _ _ _ (fun _ => 0) (fun _ _ => 0)).mono ?_
  rintro e w1 ⟨rfl, I⟩
  have b1 := I.below
  clear I
  go_wp2_with fail
  refine (laid_zero _ _ _ _ _).mono ?_
  rintro e w2 ⟨rfl, m, rfl⟩
  go_wp2
  go_ret
  exact ⟨rfl, below_drewN b1 _⟩

set_option maxHeartbeats 1000000 in
theorem copies_some (w : World) (ad : Addr) (n c : Nat) (A : Nat → Option Addr) (L C : Nat → Nat) (Z : Nat → Nat → Int) (H : Holds88 w (some ad) n A L C Z) (hA : ∀ r, r < n → A r = none → L r = 0 ∧ C r = 0) :
    Calls Try.prog 4 #[.slice (some ad) n c] w fun e w' => e = .returned (.bool true) ∧ Below w.heap.size w w' := by
  go_enter Try.func4, Try.ntmps4
  go_wp2_with fail
  refine (bytes7_any _ _ _ _ _ _ _ _ H).mono ?_
  rintro e w1 ⟨⟨bb, rfl⟩, hw⟩
  obtain rfl := hw.symm
  clear hw
  cases bb
  · go_wp2
    go_ret
    exact ⟨rfl, Below.refl _ _⟩
  go_wp2_with fail
  refine (fit_any _ _ _ _ _ _ _ _ H).mono ?_
  rintro e w1 ⟨⟨bb, rfl, hfit⟩, hw⟩
  obtain rfl := hw.symm
  clear hw
  cases bb
  · go_wp2
    go_ret
    exact ⟨rfl, Below.refl _ _⟩
  obtain ⟨hn, hS⟩ := hfit rfl
  clear hfit
  have hL : ∀ r, r < n → L r ≤ 1048576 := fun r hr => by have := sumTo_step L hr; omega
  have hz : ∀ r, r < n → ∀ i, i < L r → 0 ≤ Z r i ∧ Z r i ≤ 255 := fun r hr i hi => by
    obtain ⟨_, _, _, _, h8⟩ := H r hr
    obtain ⟨_, _, _, _, h⟩ := h8 i hi
    exact h
  have hA0 : ∀ r, r < n → A r = none → L r = 0 := fun r hr h => (hA r hr h).1
  go_wp2_with fail
  refine (copyArgs_any _ _ _ _ A L C Z hn H hL hA).mono ?_
  rintro e w1 ⟨rfl, G1, I1⟩
  obtain ⟨A1, H1, hA1⟩ : ∃ A1, Holds88 w1 (some ⟨w.heap.size, 0, none⟩) n A1 L L Z ∧ ∀ r, r < n → A1 r = none → L r = 0 :=
    ⟨_, I1.holds hA0 hz, fun r hr h => hA0 r hr (by simpa using h)⟩
  have b1 := I1.below
  clear I1 H hA hA0
  go_wp2_with fail
  refine (clone_any _ _ _ _ _ L L Z (by omega) (by omega) H1 hA1).mono ?_
  rintro e w2 ⟨rfl, I2⟩
  have H2 := I2.holds hz
  have H1' := H1.below I2.below
  have b2 := b1.trans (I2.below.mono b1.size)
  clear I2 H1 hA1 b1
  go_wp2_with fail
  refine (laid_any _ _ _ _ _ _ _ _ L L Z (by omega) hL H2 H1').mono ?_
  rintro e w3 ⟨rfl, m, rfl⟩
  go_wp2
  go_ret
  exact ⟨rfl, below_drewN b2 _⟩

end Go.Proofs.Qxb6601335a
