/-
  zzEscaped (19), zzHexVal (20), zzIsBlank (21).
-/
import Derived.Test.Qxb6601335aDoorSmall
namespace Go.Proofs.Qxb6601335aDoor
open Go.RowKit

theorem isBlank_any (c : Int) (w : World) (bb : Bool) (h : isSp c = bb) : Calls Tryd.prog 21 #[.int .u8 c] w fun e w' => e = .returned (.bool bb) ∧ w = w' := by
  subst h
  by_cases h0 : c = 32
  · subst h0
    go_enter Tryd.func21, Tryd.ntmps21
    go_wp2
    go_ret
    exact ⟨rfl, rfl⟩
  · have hne : (c == 32) = false := beq_eq_false_iff_ne.2 h0
    by_cases h1 : 9 ≤ c
    · by_cases h2 : c ≤ 13
      · rw [isSp_mid h1 h2]
        go_enter Tryd.func21, Tryd.ntmps21
        go_wp2
        go_ret
        exact ⟨rfl, rfl⟩
      · rw [isSp_not h0 (by omega)]
        go_enter Tryd.func21, Tryd.ntmps21
        go_wp2
        go_ret
        exact ⟨rfl, rfl⟩
    · rw [isSp_not h0 (by omega)]
      go_enter Tryd.func21, Tryd.ntmps21
      go_wp2
      go_ret
      exact ⟨rfl, rfl⟩

theorem escaped_any (c : Int) (w : World) : Calls Tryd.prog 19 #[.int .u8 c] w fun e w' => e = .returned (.int .u8 (unesc c)) ∧ w = w' := by
  by_cases h1 : c = 97
  · subst h1
    go_enter Tryd.func19, Tryd.ntmps19
    go_wp2
    go_ret
    exact ⟨rfl, rfl⟩
  · have g1 : (c == 97) = false := beq_eq_false_iff_ne.2 h1
    by_cases h2 : c = 98
    · subst h2
      go_enter Tryd.func19, Tryd.ntmps19
      go_wp2
      go_ret
      exact ⟨rfl, rfl⟩
    · have g2 : (c == 98) = false := beq_eq_false_iff_ne.2 h2
      by_cases h3 : c = 116
      · subst h3
        go_enter Tryd.func19, Tryd.ntmps19
        go_wp2
        go_ret
        exact ⟨rfl, rfl⟩
      · have g3 : (c == 116) = false := beq_eq_false_iff_ne.2 h3
        by_cases h4 : c = 110
        · subst h4
          go_enter Tryd.func19, Tryd.ntmps19
          go_wp2
          go_ret
          exact ⟨rfl, rfl⟩
        · have g4 : (c == 110) = false := beq_eq_false_iff_ne.2 h4
          by_cases h5 : c = 114
          · subst h5
            go_enter Tryd.func19, Tryd.ntmps19
            go_wp2
            go_ret
            exact ⟨rfl, rfl⟩
          · have g5 : (c == 114) = false := beq_eq_false_iff_ne.2 h5
            have e : unesc c = c := by unfold unesc; rw [if_neg h4, if_neg h5, if_neg h3, if_neg h2, if_neg h1]
            rw [e]
            clear h1 h2 h3 h4 h5 e
            go_enter Tryd.func19, Tryd.ntmps19
            go_wp2
            go_ret
            exact ⟨rfl, rfl⟩

theorem hexVal_some (c v : Int) (w : World) (h0 : 0 ≤ c) (h1 : c ≤ 255) (h : hexv c = some v) : Calls Tryd.prog 20 #[.int .u8 c] w fun e w' => e = .returned (.tuple #[.int .u8 v, .bool true]) ∧ w = w' := by
  by_cases hd : 48 ≤ c ∧ c ≤ 57
  · obtain ⟨a, b⟩ := hd
    rw [hexv_digit a b] at h
    cases h
    go_enter Tryd.func20, Tryd.ntmps20
    go_wp2
    go_ret2
    exact ⟨rfl, rfl⟩
  · by_cases hl : 97 ≤ c ∧ c ≤ 102
    · obtain ⟨a, b⟩ := hl
      rw [hexv_lower a b] at h
      have e : v = c - 97 + 10 := by cases h; omega
      subst e
      clear h hd
      go_enter Tryd.func20, Tryd.ntmps20
      go_wp2
      go_ret2
      exact ⟨rfl, rfl⟩
    · by_cases hu : 65 ≤ c ∧ c ≤ 70
      · obtain ⟨a, b⟩ := hu
        rw [hexv_upper a b] at h
        have e : v = c - 65 + 10 := by cases h; omega
        subst e
        clear h hd hl
        go_enter Tryd.func20, Tryd.ntmps20
        go_wp2
        go_ret2
        exact ⟨rfl, rfl⟩
      · rw [hexv_none hd hl hu] at h
        cases h

theorem hexVal_none (c : Int) (w : World) (h : hexv c = none) : Calls Tryd.prog 20 #[.int .u8 c] w fun e w' => e = .returned (.tuple #[.int .u8 0, .bool false]) ∧ w = w' := by
  have hd : ¬ (48 ≤ c ∧ c ≤ 57) := fun ⟨a, b⟩ => by rw [hexv_digit a b] at h; cases h
  have hl : ¬ (97 ≤ c ∧ c ≤ 102) := fun ⟨a, b⟩ => by rw [hexv_lower a b] at h; cases h
  have hu : ¬ (65 ≤ c ∧ c ≤ 70) := fun ⟨a, b⟩ => by rw [hexv_upper a b] at h; cases h
  clear h
  go_enter Tryd.func20, Tryd.ntmps20
  go_wp2
  all_goals go_ret2
  all_goals exact ⟨rfl, rfl⟩

end Go.Proofs.Qxb6601335aDoor
