/-
  zzBytesEqual (13) at two slices that hold the same bytes: true; it only reads (and draws an order).
-/
import Derived.Test.Qxb6601335aDoorCopy
import Derived.Deep.QuietTactic
import Derived.BigQuiet
namespace Go.Proofs.Qxb6601335aDoor
open Go.RowKit

theorem eq_zero (w : World) (ao1 ao2 : Option Addr) (c1 c2 : Nat) :
    Calls Tryd.prog 22 #[.slice ao1 0 c1, .slice ao2 0 c2] w fun e w' => e = .returned (.bool true) ∧ ∃ m, w' = w.drewN m := by
  go_enter Tryd.func22, Tryd.ntmps22
  go_wp2
  refine wp_loop_rounds 1 ?_
  rw [rounds_succ]
  go_wp2
  go_ret
  exact ⟨rfl, 0, rfl⟩

set_option maxHeartbeats 400000 in
theorem eq_some (w : World) (b1 o1 b2 o2 l c1 c2 : Nat) (Z : Nat → Int) (hl : l ≤ 1048576) (H1 : Holds8 w (some ⟨b1, o1, none⟩) l Z) (H2 : Holds8 w (some ⟨b2, o2, none⟩) l Z) :
    Calls Tryd.prog 22 #[.slice (some ⟨b1, o1, none⟩) l c1, .slice (some ⟨b2, o2, none⟩) l c2] w fun e w' => e = .returned (.bool true) ∧ ∃ m, w' = w.drewN m := by
  go_enter Tryd.func22, Tryd.ntmps22
  go_wp2
  go_loopw [5] (fun i wr => ∃ k m : Nat, k ≤ l ∧ i = .int .i64 k ∧ wr = w.drewN m) (fun i _ => l - (intOf i).toNat)
  case atStart => exact ⟨0, 0, Nat.zero_le _, rfl, rfl⟩
  case round =>
    obtain ⟨k, m, hk, rfl, rfl⟩ := hrel
    by_cases hlt : k < l
    · obtain ⟨_, _, e, hc1, _⟩ := H1 k hlt
      cases e
      obtain ⟨_, _, e, hc2, _⟩ := H2 k hlt
      cases e
      clear H1 H2
      go_wp2
      go_quiet (fail)
      go_wp2
      go_roundw
      case rel => exact ⟨k + 1, _, by omega, by go_num, rfl⟩
      case measure => simp [intOf]; omega
    · obtain rfl : k = l := by omega
      go_wp2
      go_ret
      exact ⟨rfl, _, rfl⟩

theorem eq_any (w : World) (ao1 ao2 : Option Addr) (l c1 c2 : Nat) (Z : Nat → Int) (hl : l ≤ 1048576) (H1 : Holds8 w ao1 l Z) (H2 : Holds8 w ao2 l Z) :
    Calls Tryd.prog 22 #[.slice ao1 l c1, .slice ao2 l c2] w fun e w' => e = .returned (.bool true) ∧ ∃ m, w' = w.drewN m := by
  by_cases h : l = 0
  · subst h
    exact eq_zero w ao1 ao2 c1 c2
  · obtain ⟨b1, o1, rfl, _⟩ := H1 0 (by omega)
    obtain ⟨b2, o2, rfl, _⟩ := H2 0 (by omega)
    exact eq_some w b1 o1 b2 o2 l c1 c2 Z hl H1 H2

end Go.Proofs.Qxb6601335aDoor
