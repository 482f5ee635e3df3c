/-
  FnCloneArgsOwnsItsMemory (function 5).
-/
import Derived.Test.Qxb6601335aCopyArgs
import Derived.Test.Qxb6601335aFit
import Derived.Test.Qxb6601335aEq
import Derived.Test.Qxb6601335aClone
namespace Go.Proofs.Qxb6601335a
open Go.RowKit

/-- '^b' on a byte. -/
def flip8 (x : Int) : Int := bits .xor .u8 (if IntKind.u8.signed = true then -1 else IntKind.u8.max) x

/-- The clones' bytes, the first p of them flipped. -/
structure FlipInv (B n : Nat) (L : Nat → Nat) (F : Nat → Int) (w3 : World) (p : Nat) (wr : World) : Prop where
  below : Below B w3 wr
  top : wr.rowIs (B + 1) 28 n (fun r => .slice (some ⟨B, offOf L r, none⟩) (L r) (L r))
  data : wr.rowIs B 5 (sumTo L n) (fun j => .int .u8 (if j < p then flip8 (F j) else F j))

theorem FlipInv.step {B n : Nat} {L : Nat → Nat} {F : Nat → Int} {w3 : World} {p : Nat} {wr : World} (I : FlipInv B n L F w3 p wr) (v : Int) (hv : v = flip8 (F p)) :
    FlipInv B n L F w3 (p + 1) (wr.setCell ⟨B, p, none⟩ (.int .u8 v)) := by
  refine ⟨I.below.setCell (Nat.le_refl _) _, I.top.setOther (by simp) _, (I.data.set p _).congr (fun j _ => ?_)⟩
  by_cases e : j = p
  · subst e; simp [hv]
  · by_cases e2 : j < p
    · simp [e, e2, show j < p + 1 by omega]
    · simp [e, e2, show ¬ j < p + 1 by omega]

theorem FlipInv.drew {B n : Nat} {L : Nat → Nat} {F : Nat → Int} {w3 : World} {p : Nat} {wr : World} (I : FlipInv B n L F w3 p wr) : FlipInv B n L F w3 p wr.drew := ⟨I.below.drew, I.top, I.data⟩

theorem Holds8.drewN {w : World} {ao : Option Addr} {l : Nat} {Z : Nat → Int} (h : Holds8 w ao l Z) (m : Nat) : Holds8 (w.drewN m) ao l Z := by
  intro i hi
  obtain ⟨b, o, h1, h2, h3⟩ := h i hi
  exact ⟨b, o, h1, by simpa using h2, h3⟩

theorem owns_nil (w : World) :
    Calls Try.prog 5 #[.slice none 0 0] w fun e w' => e = .returned (.bool true) ∧ Below w.heap.size w w' := by
  have H : Holds88 w none 0 (fun _ => none) (fun _ => 0) (fun _ => 0) (fun _ _ => 0) := fun r hr => by omega
  go_enter Try.func5, Try.ntmps5
  go_wp2_with fail
  refine (bytes12_any _ _ _ _ _ _ _ _ H).mono ?_
  rintro e w1 ⟨⟨bb, rfl⟩, rfl⟩
  cases bb
  · go_wp2
    go_ret
    exact ⟨rfl, Below.refl _ _⟩
  go_wp2_with fail
  refine (fit_any _ _ _ _ _ _ _ _ H).mono ?_
  rintro e w1 ⟨⟨bb, rfl, _⟩, rfl⟩
  cases bb
  · go_wp2
    go_ret
    exact ⟨rfl, Below.refl _ _⟩
  go_wp2_with fail
  refine (copyArgs_none _).mono ?_
  rintro e w1 ⟨rfl, rfl⟩
  go_wp2_with fail
  refine (copyArgs_none _).mono ?_
  rintro e w1 ⟨rfl, rfl⟩
  go_wp2_with fail
  refine (clone_zero _ _ _ (fun _ => 0) (fun _ _ => 0)).mono ?_
  rintro e w1 ⟨rfl, I⟩
  go_wp2
  refine wp_loop_rounds 1 ?_
  rw [rounds_succ]
  go_wp2
  refine wp_loop_rounds 1 ?_
  rw [rounds_succ]
  go_wp2
  go_ret
  exact ⟨rfl, I.below⟩

set_option maxHeartbeats 1000000 in
theorem owns_some (w : World) (ad : Addr) (n c : Nat) (A : Nat → Option Addr) (L C : Nat → Nat) (Z : Nat → Nat → Int) (H : Holds88 w (some ad) n A L C Z) (hA : ∀ r, r < n → A r = none → L r = 0 ∧ C r = 0) :
    Calls Try.prog 5 #[.slice (some ad) n c] w fun e w' => e = .returned (.bool true) ∧ Below w.heap.size w w' := by
  go_enter Try.func5, Try.ntmps5
  go_wp2_with fail
  refine (bytes12_any _ _ _ _ _ _ _ _ H).mono ?_
  rintro e w1 ⟨⟨bb, rfl⟩, hw⟩
  obtain rfl := hw.symm
  clear hw
  cases bb
  · go_wp2
    go_ret
    exact ⟨rfl, Below.refl _ _⟩
  go_wp2_with fail
  refine (fit_any _ _ _ _ _ _ _ _ H).mono ?_
  rintro e w1 ⟨⟨bb, rfl, hfit⟩, hw⟩
  obtain rfl := hw.symm
  clear hw
  cases bb
  · go_wp2
    go_ret
    exact ⟨rfl, Below.refl _ _⟩
  obtain ⟨hn, hS⟩ := hfit rfl
  clear hfit
  have hL : ∀ r, r < n → L r ≤ 1048576 := fun r hr => by have := sumTo_step L hr; omega
  have hz : ∀ r, r < n → ∀ i, i < L r → 0 ≤ Z r i ∧ Z r i ≤ 255 := fun r hr i hi => by
    obtain ⟨_, _, _, _, h8⟩ := H r hr
    obtain ⟨_, _, _, _, h⟩ := h8 i hi
    exact h
  have hA0 : ∀ r, r < n → A r = none → L r = 0 := fun r hr h => (hA r hr h).1
  go_wp2_with fail
  refine (copyArgs_any _ _ _ _ A L C Z hn H hL hA).mono ?_
  rintro e w1 ⟨rfl, G1, I1⟩
  obtain ⟨A1, H1, hA1⟩ : ∃ A1, Holds88 w1 (some ⟨w.heap.size, 0, none⟩) n A1 L L Z ∧ ∀ r, r < n → A1 r = none → L r = 0 ∧ L r = 0 :=
    ⟨_, I1.holds hA0 hz, fun r hr h => by have := hA0 r hr (by simpa using h); exact ⟨this, this⟩⟩
  have b1 := I1.below
  clear I1 H hA hA0
  go_wp2_with fail
  refine (copyArgs_any _ _ _ _ _ L L Z hn H1 hL hA1).mono ?_
  rintro e w2 ⟨rfl, G2, I2⟩
  obtain ⟨A2, H2, hA2⟩ : ∃ A2, Holds88 w2 (some ⟨w1.heap.size, 0, none⟩) n A2 L L Z ∧ ∀ r, r < n → A2 r = none → L r = 0 :=
    ⟨_, I2.holds (fun r hr h => (hA1 r hr h).1) hz, fun r hr h => (hA1 r hr (by simpa using h)).1⟩
  have H1' := H1.below I2.below
  have b2 := b1.trans (I2.below.mono b1.size)
  clear I2 H1 hA1 b1
  go_wp2_with fail
  refine (clone_any _ _ _ _ _ L L Z (by omega) (by omega) H2 hA2).mono ?_
  rintro e w3 ⟨rfl, I3⟩
  obtain ⟨F, hd, hF⟩ := I3.data
  have J0 : FlipInv w2.heap.size n L F w3 0 w3 := ⟨Below.refl _ _, I3.top.congr (fun r hr => by rw [if_pos hr]), hd.congr (fun j _ => by simp)⟩
  have b3 := b2.trans (I3.below.mono b2.size)
  have b23 := I3.below
  have hbs := b2.size
  clear I3 hd hA2 b2 hz
  go_wp2
  go_loopw [5, 6] (fun i _ wr => ∃ k : Nat, k ≤ n ∧ i = .int .i64 k ∧ FlipInv w2.heap.size n L F w3 (sumTo L k) wr) (fun i _ _ => n - (intOf i).toNat)
  case atStart => exact ⟨0, Nat.zero_le _, rfl, J0⟩
  case round =>
    obtain ⟨k, hk, rfl, J⟩ := hrel
    clear J0
    by_cases hlt : k < n
    · have hLk := hL k hlt
      clear H2 H1' b3 b23 hbs hL
      go_wp2
      go_loopw [6] (fun j wr => ∃ q : Nat, q ≤ L k ∧ j = .int .i64 q ∧ FlipInv w2.heap.size n L F w3 (sumTo L k + q) wr) (fun j _ => L k - (intOf j).toNat)
      case atStart => exact ⟨0, Nat.zero_le _, rfl, J⟩
      case round =>
        obtain ⟨q, hq, rfl, J1⟩ := hrel
        clear J
        have hc1 : wr.cell? ⟨w2.heap.size + 1, k, none⟩ = some (.slice (some ⟨w2.heap.size, offOf L k, none⟩) (L k) (L k)) := J1.top.cell hlt
        by_cases hlq : q < L k
        · have hle := sumTo_step L hlt
          have ho : offOf L k = sumTo L k := by unfold offOf; rw [if_neg (by omega)]
          rw [ho] at hc1
          have hc2 : wr.cell? ⟨w2.heap.size, sumTo L k + q, none⟩ = some (.int .u8 (F (sumTo L k + q))) := by rw [J1.data.cell (by omega), if_neg (by omega)]
          have hfz : wr.frozen? ⟨w2.heap.size, sumTo L k + q, none⟩ = false := J1.data.frozen _
          have S := (J1.step (flip8 (F (sumTo L k + q))) rfl).drew
          clear J1 hF ho
          go_wp2
          go_region
          all_goals go_wp2
          go_roundw
          case rel => exact ⟨q + 1, by omega, by go_num, S⟩
          case measure => simp [intOf]; omega
        · obtain ⟨q0, hq0⟩ : ∃ q0, q0 = q := ⟨q, rfl⟩
          have e : q0 = L k := by omega
          subst hq0
          rw [e] at J1
          clear hF e
          go_wp2
          go_roundw
          case rel => exact ⟨k + 1, by omega, by go_num, J1⟩
          case measure => simp [intOf]; omega
    · obtain rfl : n = k := by omega
      clear hlt
      have Ha := H2.below (b23.trans J.below)
      have Hs := H1'.below (b23.trans J.below)
      have b4 := b3.trans (J.below.mono hbs)
      clear b3 b23 hbs H2 H1'
      rename World => w4
      go_wp2
      go_loopw [7, 8] (fun i _ wx => ∃ k m : Nat, k ≤ n ∧ i = .int .i64 k ∧ Hid (wx = w4.drewN m)) (fun i _ _ => n - (intOf i).toNat)
      case atStart => exact ⟨0, 0, Nat.zero_le _, rfl, rfl⟩
      case round =>
        obtain ⟨k, m', hk, rfl, hwx⟩ := hrel
        by_cases hlt : k < n
        · have hLk := hL k hlt
          have hcc : wr.cell? ⟨w2.heap.size + 1, k, none⟩ = some (.slice (some ⟨w2.heap.size, offOf L k, none⟩) (L k) (L k)) := by rw [hwx.out]; exact J.top.cell hlt
          obtain ⟨_, _, e, hca, h8a⟩ := Ha k hlt
          cases e
          obtain ⟨_, _, e, hcs, h8s⟩ := Hs k hlt
          cases e
          rw [Nat.zero_add] at hca hcs
          replace hca : wr.cell? ⟨w1.heap.size, k, none⟩ = some (.slice (A2 k) (L k) (L k)) := by rw [hwx.out]; exact hca
          replace hcs : wr.cell? ⟨w.heap.size, k, none⟩ = some (.slice (A1 k) (L k) (L k)) := by rw [hwx.out]; exact hcs
          replace h8a : Holds8 wr (A2 k) (L k) (Z k) := by rw [hwx.out]; exact h8a.drewN _
          replace h8s : Holds8 wr (A1 k) (L k) (Z k) := by rw [hwx.out]; exact h8s.drewN _
          have HF : Hid (∀ r, r < n → ∀ i, i < L r → F (sumTo L r + i) = Z r i) := hF
          clear hL Ha Hs hF
          go_wp2
          go_quiet ((go_at_call 13; exact Calls.quiet_of (eq_any _ (A2 k) (A1 k) (L k) (L k) (L k) (Z k) hLk (h8a.drewN _) (h8s.drewN _))))
          go_wp2
          rename World => w5
          go_loopw [8] (fun i wx => ∃ q m : Nat, q ≤ L k ∧ i = .int .i64 q ∧ wx = w5.drewN m) (fun i _ => L k - (intOf i).toNat)
          case atStart => exact ⟨0, _, Nat.zero_le _, rfl, rfl⟩
          case round =>
            obtain ⟨q, m, hq, rfl, hwy⟩ := hrel
            subst hwy
            by_cases hlq : q < L k
            · have hle := sumTo_step L hlt
              have ho : offOf L k = sumTo L k := by unfold offOf; rw [if_neg (by omega)]
              rw [ho] at hcc
              have hc2 : w5.cell? ⟨w2.heap.size, sumTo L k + q, none⟩ = some (.int .u8 (flip8 (Z k q))) := by rw [hwx.out]; show w4.cell? _ = _; rw [J.data.cell (by omega), if_pos (by omega), HF.out k hlt q hlq]
              obtain ⟨ba, oa, e, hc3, _⟩ := h8a q hlq
              rw [e] at hca
              clear J HF ho h8a h8s e
              unfold flip8 at hc2
              go_wp2
              go_quiet (fail)
              go_wp2
              go_roundw
              case rel => exact ⟨q + 1, _, by omega, by go_num, rfl⟩
              case measure => simp [intOf]; omega
            · clear HF
              go_wp2
              go_roundw
              case rel => exact ⟨k + 1, m' + m, by omega, by go_num, show _ = _ by rw [hwx.out, World.drewN_drewN]⟩
              case measure => simp [intOf]; omega
        · obtain rfl : n = k := by omega
          go_wp2
          go_ret
          exact ⟨rfl, by rw [hwx.out]; exact below_drewN b4 _⟩

end Go.Proofs.Qxb6601335a
