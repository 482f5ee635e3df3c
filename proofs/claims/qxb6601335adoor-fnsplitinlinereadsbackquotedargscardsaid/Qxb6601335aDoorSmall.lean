/-
  resp.isSpace (25), resp.unescape (24), resp.ZZunescape (17).
-/
import Derived.Test.Qxb6601335aDoorPlain
import Derived.Test.Qxb6601335aDoorCopy
namespace Go.Proofs.Qxb6601335aDoor
open Go.RowKit

theorem isSp_32 : isSp 32 = true := rfl
theorem isSp_mid {c : Int} (h1 : 9 ≤ c) (h2 : c ≤ 13) : isSp c = true := by simp [isSp, h1, h2]
theorem isSp_not {c : Int} (h0 : c ≠ 32) (h : ¬ (9 ≤ c ∧ c ≤ 13)) : isSp c = false := by
  unfold isSp
  rw [beq_eq_false_iff_ne.2 h0]
  by_cases h1 : 9 ≤ c
  · have : ¬ c ≤ 13 := by omega
    simp [this]
  · simp [h1]

theorem isSpace_any (c : Int) (w : World) : Calls Tryd.prog 25 #[.int .u8 c] w fun e w' => e = .returned (.bool (isSp c)) ∧ w' = w := by
  by_cases h0 : c = 32
  · subst h0
    go_enter Tryd.func25, Tryd.ntmps25
    go_wp2
    go_ret
    exact ⟨rfl, rfl⟩
  · have hne : (c == 32) = false := beq_eq_false_iff_ne.2 h0
    by_cases h1 : 9 ≤ c
    · by_cases h2 : c ≤ 13
      · rw [isSp_mid h1 h2]
        go_enter Tryd.func25, Tryd.ntmps25
        go_wp2
        go_ret
        exact ⟨rfl, rfl⟩
      · rw [isSp_not h0 (by omega)]
        go_enter Tryd.func25, Tryd.ntmps25
        go_wp2
        go_ret
        exact ⟨rfl, rfl⟩
    · rw [isSp_not h0 (by omega)]
      go_enter Tryd.func25, Tryd.ntmps25
      go_wp2
      go_ret
      exact ⟨rfl, rfl⟩

theorem isSpace_is (c : Int) (w : World) (bb : Bool) (h : isSp c = bb) : Calls Tryd.prog 25 #[.int .u8 c] w fun e w' => e = .returned (.bool bb) ∧ w = w' := by
  rw [← h]
  exact (isSpace_any c w).mono fun _ _ ⟨h1, h2⟩ => ⟨h1, h2.symm⟩

theorem unescape_any (c : Int) (w : World) : Calls Tryd.prog 24 #[.int .u8 c] w fun e w' => e = .returned (.int .u8 (unesc c)) ∧ w' = w := by
  by_cases h1 : c = 110
  · subst h1
    go_enter Tryd.func24, Tryd.ntmps24
    go_wp2
    go_ret
    exact ⟨rfl, rfl⟩
  · have g1 : (c == 110) = false := beq_eq_false_iff_ne.2 h1
    by_cases h2 : c = 114
    · subst h2
      go_enter Tryd.func24, Tryd.ntmps24
      go_wp2
      go_ret
      exact ⟨rfl, rfl⟩
    · have g2 : (c == 114) = false := beq_eq_false_iff_ne.2 h2
      by_cases h3 : c = 116
      · subst h3
        go_enter Tryd.func24, Tryd.ntmps24
        go_wp2
        go_ret
        exact ⟨rfl, rfl⟩
      · have g3 : (c == 116) = false := beq_eq_false_iff_ne.2 h3
        by_cases h4 : c = 98
        · subst h4
          go_enter Tryd.func24, Tryd.ntmps24
          go_wp2
          go_ret
          exact ⟨rfl, rfl⟩
        · have g4 : (c == 98) = false := beq_eq_false_iff_ne.2 h4
          by_cases h5 : c = 97
          · subst h5
            go_enter Tryd.func24, Tryd.ntmps24
            go_wp2
            go_ret
            exact ⟨rfl, rfl⟩
          · have g5 : (c == 97) = false := beq_eq_false_iff_ne.2 h5
            have e : unesc c = c := by unfold unesc; rw [if_neg h1, if_neg h2, if_neg h3, if_neg h4, if_neg h5]
            rw [e]
            clear h1 h2 h3 h4 h5 e
            go_enter Tryd.func24, Tryd.ntmps24
            go_wp2
            go_ret
            exact ⟨rfl, rfl⟩

theorem unescape_is (c : Int) (w : World) : Calls Tryd.prog 24 #[.int .u8 c] w fun e w' => e = .returned (.int .u8 (unesc c)) ∧ w = w' :=
  (unescape_any c w).mono fun _ _ ⟨h1, h2⟩ => ⟨h1, h2.symm⟩

theorem zzunescape_any (c : Int) (w : World) : Calls Tryd.prog 17 #[.int .u8 c] w fun e w' => e = .returned (.int .u8 (unesc c)) ∧ w' = w := by
  go_enter Tryd.func17, Tryd.ntmps17
  go_wp2_with fail
  refine (unescape_any _ _).mono ?_
  rintro e w1 ⟨rfl, rfl⟩
  go_wp2
  go_ret
  exact ⟨rfl, rfl⟩

theorem unesc_bound {c : Int} (h0 : 0 ≤ c) (h1 : c ≤ 255) : 0 ≤ unesc c ∧ unesc c ≤ 255 := by
  unfold unesc
  repeat (split; omega)
  omega

end Go.Proofs.Qxb6601335aDoor
