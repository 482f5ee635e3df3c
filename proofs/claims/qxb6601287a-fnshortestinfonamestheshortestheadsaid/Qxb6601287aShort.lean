/-
  FnShortestInfoNamesTheShortestHead (5): five cases of the argument.
-/
import Derived.Test.Qxb6601287aRows
import Derived.WalkKit
import Derived.WalkSpells
import Derived.WalkLawsBesides
namespace Go.Proofs.Qxb6601287a
open Go.RowKit

theorem info_1 (a : Int) (w : World) (h0 : 0 ≤ a) (h1 : a < 24) : Calls Try.prog 5 #[.int .u64 a] w fun e w' => e = .returned (.bool true) ∧ w' = w := by
  go_enter Try.func5, Try.ntmps5
  go_wp2
  go_ret
  exact ⟨rfl, rfl⟩

theorem info_2 (a : Int) (w : World) (h0 : 24 ≤ a) (h1 : a ≤ 255) : Calls Try.prog 5 #[.int .u64 a] w fun e w' => e = .returned (.bool true) ∧ w' = w := by
  have g1 : (a / 256 == 0) = true := beq_iff_eq.2 (by omega)
  go_enter Try.func5, Try.ntmps5
  go_wp2
  go_ret
  exact ⟨rfl, rfl⟩

theorem info_3 (a : Int) (w : World) (h0 : 255 < a) (h1 : a ≤ 65535) : Calls Try.prog 5 #[.int .u64 a] w fun e w' => e = .returned (.bool true) ∧ w' = w := by
  have g1 : (a / 65536 == 0) = true := beq_iff_eq.2 (by omega)
  have g2 : (a / 256 == 0) = false := beq_eq_false_iff_ne.2 (by omega)
  go_enter Try.func5, Try.ntmps5
  go_wp2
  go_ret
  exact ⟨rfl, rfl⟩

theorem info_4 (a : Int) (w : World) (h0 : 65535 < a) (h1 : a ≤ 4294967295) : Calls Try.prog 5 #[.int .u64 a] w fun e w' => e = .returned (.bool true) ∧ w' = w := by
  have g1 : (a / 4294967296 == 0) = true := beq_iff_eq.2 (by omega)
  have g2 : (a / 65536 == 0) = false := beq_eq_false_iff_ne.2 (by omega)
  go_enter Try.func5, Try.ntmps5
  go_wp2
  go_ret
  exact ⟨rfl, rfl⟩

theorem info_5 (a : Int) (w : World) (h0 : 4294967295 < a) (h1 : a ≤ 18446744073709551615) : Calls Try.prog 5 #[.int .u64 a] w fun e w' => e = .returned (.bool true) ∧ w' = w := by
  have g2 : (a / 4294967296 == 0) = false := beq_eq_false_iff_ne.2 (by omega)
  go_enter Try.func5, Try.ntmps5
  go_wp2
  go_ret
  exact ⟨rfl, rfl⟩

theorem info_any (a : Int) (w : World) (h0 : 0 ≤ a) (h1 : a ≤ 18446744073709551615) : Calls Try.prog 5 #[.int .u64 a] w fun e w' => e = .returned (.bool true) ∧ w' = w := by
  by_cases c1 : a < 24
  · exact info_1 a w h0 c1
  · by_cases c2 : a ≤ 255
    · exact info_2 a w (by omega) c2
    · by_cases c3 : a ≤ 65535
      · exact info_3 a w (by omega) c3
      · by_cases c4 : a ≤ 4294967295
        · exact info_4 a w (by omega) c4
        · exact info_5 a w (by omega) h1

end Go.Proofs.Qxb6601287a
