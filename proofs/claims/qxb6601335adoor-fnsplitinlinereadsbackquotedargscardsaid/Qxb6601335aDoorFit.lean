/-
  zzArgsFit (8), zzBytes_.. (7, 12): each answers some bool and leaves the world; where zzArgsFit answers true the lengths are bounded.
-/
import Derived.Test.Qxb6601335aDoorCopy
namespace Go.Proofs.Qxb6601335aDoor
open Go.RowKit

/-- zzArgsFit answers a bool; yes says that the lengths are bounded. -/
def FitPost (n : Nat) (L : Nat → Nat) (e : Ending) : Prop := ∃ bb, e = .returned (.bool bb) ∧ (bb = true → n ≤ 65536 ∧ 24 * n + sumTo L n ≤ 1048576)
theorem FitPost.no {n : Nat} {L : Nat → Nat} {v : Value} (h : v = .bool false) : FitPost n L (.returned v) := ⟨false, by rw [h], fun h => by cases h⟩
theorem FitPost.yes {n : Nat} {L : Nat → Nat} {v : Value} (h : v = .bool true) (h1 : n ≤ 65536) (h2 : 24 * n + sumTo L n ≤ 1048576) : FitPost n L (.returned v) := ⟨true, by rw [h], fun _ => ⟨h1, h2⟩⟩

/-- Some bool. -/
def SomeBool (e : Ending) : Prop := ∃ bb, e = .returned (.bool bb)
theorem SomeBool.mk {v : Value} {bb : Bool} (h : v = .bool bb) : SomeBool (.returned v) := ⟨bb, by rw [h]⟩

theorem fit_zero (w : World) (ao : Option Addr) (c : Nat) (L : Nat → Nat) :
    Calls Tryd.prog 13 #[.slice ao 0 c] w fun e w' => FitPost 0 L e ∧ w' = w := by
  go_enter Tryd.func13, Tryd.ntmps13
  go_wp2
  refine wp_loop_rounds 1 ?_
  rw [rounds_succ]
  go_wp2
  go_ret
  exact ⟨FitPost.yes rfl (by omega) (by simp [sumTo]), rfl⟩

set_option maxHeartbeats 400000 in
theorem fit_some (w : World) (b o n c : Nat) (hn : 0 < n) (A : Nat → Option Addr) (L C : Nat → Nat) (Z : Nat → Nat → Int) (H : Holds88 w (some ⟨b, o, none⟩) n A L C Z) :
    Calls Tryd.prog 13 #[.slice (some ⟨b, o, none⟩) n c] w fun e w' => FitPost n L e ∧ w' = w := by
  by_cases hbig : 65536 < n
  · go_enter Tryd.func13, Tryd.ntmps13
    go_wp2
    go_ret
    exact ⟨FitPost.no rfl, rfl⟩
  · go_enter Tryd.func13, Tryd.ntmps13
    go_wp2
    go_loop [3, 4] (fun t i => ∃ k T : Nat, k ≤ n ∧ i = .int .i64 k ∧ t = .int .i64 T ∧ Hid (T = 24 * n + sumTo L k) ∧ T ≤ 1572864 ∧ (0 < k → T ≤ 1048576)) (fun _ i => n - (intOf i).toNat)
    case atStart => exact ⟨0, 24 * n, Nat.zero_le _, rfl, by go_num, by simp [Hid, sumTo], by omega, by omega⟩
    case round =>
      obtain ⟨k, T, hk, rfl, rfl, hT, hT2, hT3⟩ := hrel
      by_cases hlt : k < n
      · obtain ⟨b', o', e, hcell, h8⟩ := H k hlt
        cases e
        clear h8 H
        by_cases h1 : 1048576 < L k
        · go_wp2
          go_ret
          exact ⟨FitPost.no rfl, rfl⟩
        · by_cases h2 : 1048576 < T + L k
          · go_wp2
            go_ret
            exact ⟨FitPost.no rfl, rfl⟩
          · go_wp2
            go_round
            case rel => exact ⟨k + 1, T + L k, by omega, by go_num, by go_num, by have := hT.out; simp only [Hid, sumTo]; omega, by omega, by omega⟩
            case measure => simp [intOf]; omega
      · obtain rfl : k = n := by omega
        go_wp2
        go_ret
        exact ⟨FitPost.yes rfl (by omega) (by have := hT.out; have := hT3 hn; omega), rfl⟩

/-- .. at every slice of byte slices. -/
theorem fit_any (w : World) (ao : Option Addr) (n c : Nat) (A : Nat → Option Addr) (L C : Nat → Nat) (Z : Nat → Nat → Int) (H : Holds88 w ao n A L C Z) :
    Calls Tryd.prog 13 #[.slice ao n c] w fun e w' => FitPost n L e ∧ w' = w := by
  by_cases h : n = 0
  · subst h
    exact fit_zero w ao c L
  · obtain ⟨b, o, rfl, _⟩ := H 0 (by omega)
    exact fit_some w b o n c (by omega) A L C Z H

theorem bytes12_zero (w : World) (ao : Option Addr) (c : Nat) :
    Calls Tryd.prog 12 #[.slice ao 0 c] w fun e w' => SomeBool e ∧ w' = w := by
  go_enter Tryd.func12, Tryd.ntmps12
  go_wp2
  refine wp_loop_rounds 1 ?_
  rw [rounds_succ]
  go_wp2
  go_ret
  exact ⟨SomeBool.mk rfl, rfl⟩

set_option maxHeartbeats 400000 in
theorem bytes12_some (w : World) (b o n c : Nat) (A : Nat → Option Addr) (L C : Nat → Nat) (Z : Nat → Nat → Int) (H : Holds88 w (some ⟨b, o, none⟩) n A L C Z) :
    Calls Tryd.prog 12 #[.slice (some ⟨b, o, none⟩) n c] w fun e w' => SomeBool e ∧ w' = w := by
  by_cases hbig : 1048576 < n
  · go_enter Tryd.func12, Tryd.ntmps12
    go_wp2
    go_ret
    exact ⟨SomeBool.mk rfl, rfl⟩
  · go_enter Tryd.func12, Tryd.ntmps12
    go_wp2
    go_loop [3, 4] (fun t i => ∃ k T : Nat, k ≤ n ∧ i = .int .i64 k ∧ t = .int .i64 T ∧ T ≤ 1048576) (fun _ i => n - (intOf i).toNat)
    case atStart => exact ⟨0, n, Nat.zero_le _, rfl, by go_num, by omega⟩
    case round =>
      obtain ⟨k, T, hk, rfl, rfl, hT2⟩ := hrel
      by_cases hlt : k < n
      · obtain ⟨b', o', e, hcell, h8⟩ := H k hlt
        cases e
        clear h8 H
        by_cases h1 : 1048576 < L k
        · go_wp2
          go_ret
          exact ⟨SomeBool.mk rfl, rfl⟩
        · by_cases h2 : 1048576 < T + L k
          · go_wp2
            go_ret
            exact ⟨SomeBool.mk rfl, rfl⟩
          · go_wp2
            go_round
            case rel => exact ⟨k + 1, T + L k, by omega, by go_num, by go_num, by omega⟩
            case measure => simp [intOf]; omega
      · obtain rfl : k = n := by omega
        go_wp2
        go_ret
        exact ⟨SomeBool.mk rfl, rfl⟩

theorem bytes12_any (w : World) (ao : Option Addr) (n c : Nat) (A : Nat → Option Addr) (L C : Nat → Nat) (Z : Nat → Nat → Int) (H : Holds88 w ao n A L C Z) :
    Calls Tryd.prog 12 #[.slice ao n c] w fun e w' => SomeBool e ∧ w' = w := by
  by_cases h : n = 0
  · subst h
    exact bytes12_zero w ao c
  · obtain ⟨b, o, rfl, _⟩ := H 0 (by omega)
    exact bytes12_some w b o n c A L C Z H

end Go.Proofs.Qxb6601335aDoor
