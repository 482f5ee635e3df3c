/-
  zzLaidOut (10) where the rows are not nil, capped at their ends, and hold the same bytes: true; it only reads.
-/
import Derived.Test.Qxb6601335aDoorEq
namespace Go.Proofs.Qxb6601335aDoor
open Go.RowKit

theorem Holds8.drewN {w : World} {ao : Option Addr} {l : Nat} {Z : Nat → Int} (h : Holds8 w ao l Z) (m : Nat) : Holds8 (w.drewN m) ao l Z := by
  intro i hi
  obtain ⟨b, o, h1, h2, h3⟩ := h i hi
  exact ⟨b, o, h1, by simpa using h2, h3⟩

set_option maxHeartbeats 400000 in
theorem laid_zero (w : World) (g : Addr) (gc wc : Nat) (ao : Option Addr) :
    Calls Tryd.prog 11 #[.slice (some g) 0 gc, .slice ao 0 wc] w fun e w' => e = .returned (.bool true) ∧ ∃ m, w' = w.drewN m := by
  have hnil := fun (w : World) => Lib.run_eql_slice_nil (P := Tryd.prog) w 25 22 (some g) 0 gc 0 0 Tryd.underlying25
  go_enter Tryd.func11, Tryd.ntmps11
  go_wp2
  refine wp_loop_rounds 1 ?_
  rw [rounds_succ]
  go_wp2
  go_ret
  exact ⟨rfl, 0, rfl⟩

set_option maxHeartbeats 1000000 in
theorem laid_some (w : World) (b1 o1 b2 o2 n gc wc : Nat) (GA : Nat → Addr) (A : Nat → Option Addr) (L C : Nat → Nat) (Z : Nat → Nat → Int) (hn : n ≤ 1099511627776) (hL : ∀ r, r < n → L r ≤ 1048576)
    (H1 : Holds88 w (some ⟨b1, o1, none⟩) n (fun r => some (GA r)) L L Z) (H2 : Holds88 w (some ⟨b2, o2, none⟩) n A L C Z) :
    Calls Tryd.prog 11 #[.slice (some ⟨b1, o1, none⟩) n gc, .slice (some ⟨b2, o2, none⟩) n wc] w fun e w' => e = .returned (.bool true) ∧ ∃ m, w' = w.drewN m := by
  have hnil := fun (w : World) => Lib.run_eql_slice_nil (P := Tryd.prog) w 25 22 (some ⟨b1, o1, none⟩) n gc 0 0 Tryd.underlying25
  go_enter Tryd.func11, Tryd.ntmps11
  go_wp2
  clear hnil
  go_loopw [5] (fun i wr => ∃ k m : Nat, k ≤ n ∧ i = .int .i64 k ∧ Hid (wr = w.drewN m)) (fun i _ => n - (intOf i).toNat)
  case atStart => exact ⟨0, 0, Nat.zero_le _, rfl, rfl⟩
  case round =>
    obtain ⟨k, m, hk, rfl, hwr⟩ := hrel
    by_cases hlt : k < n
    · obtain ⟨_, _, e, hc1, h81⟩ := H1 k hlt
      cases e
      obtain ⟨_, _, e, hc2, h82⟩ := H2 k hlt
      cases e
      have hLk := hL k hlt
      replace hc1 : wr.cell? ⟨b1, o1 + k, none⟩ = some (.slice (some (GA k)) (L k) (L k)) := by rw [hwr.out]; exact hc1
      replace hc2 : wr.cell? ⟨b2, o2 + k, none⟩ = some (.slice (A k) (L k) (C k)) := by rw [hwr.out]; exact hc2
      replace h81 : Holds8 wr (some (GA k)) (L k) (Z k) := by rw [hwr.out]; exact h81.drewN _
      replace h82 : Holds8 wr (A k) (L k) (Z k) := by rw [hwr.out]; exact h82.drewN _
      have hnil := fun (w : World) => Lib.run_eql_slice_nil (P := Tryd.prog) w 22 5 (some (GA k)) (L k) (L k) 0 0 Tryd.underlying22
      clear H1 H2 hL
      go_wp2
      go_quiet ((go_at_call 22; exact Calls.quiet_of (eq_any _ (some (GA k)) (A k) (L k) (L k) (C k) (Z k) hLk (h81.drewN _) (h82.drewN _))))
      go_wp2
      go_roundw
      case rel => exact ⟨k + 1, _, by omega, by go_num, show _ = _ by rw [hwr.out, World.drewN_drewN]⟩
      case measure => simp [intOf]; omega
    · obtain rfl : n = k := by omega
      go_wp2
      go_ret
      exact ⟨rfl, m, hwr.out⟩

theorem laid_any (w : World) (g : Addr) (ao : Option Addr) (n gc wc : Nat) (GA : Nat → Addr) (A : Nat → Option Addr) (L C : Nat → Nat) (Z : Nat → Nat → Int) (hn : n ≤ 1099511627776) (hL : ∀ r, r < n → L r ≤ 1048576)
    (H1 : Holds88 w (some g) n (fun r => some (GA r)) L L Z) (H2 : Holds88 w ao n A L C Z) :
    Calls Tryd.prog 11 #[.slice (some g) n gc, .slice ao n wc] w fun e w' => e = .returned (.bool true) ∧ ∃ m, w' = w.drewN m := by
  by_cases h : n = 0
  · subst h
    exact laid_zero w g gc wc ao
  · obtain ⟨b1, o1, e, _⟩ := H1 0 (by omega)
    cases e
    obtain ⟨b2, o2, rfl, _⟩ := H2 0 (by omega)
    exact laid_some w b1 o1 b2 o2 n gc wc GA A L C Z hn hL H1 H2

end Go.Proofs.Qxb6601335aDoor
