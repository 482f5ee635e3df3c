/-
  FnAllDigitsMatchesCountModel (3).
-/
import Derived.Test.Qxb6601140aDigits
namespace Go.Proofs.Qxb6601140a
open Go.RowKit

/-- How many of the first k bytes are digits. -/
def cntTo (s : ByteArray) (k : Nat) : Nat := ((s.data.toList.take k).countP isDig)

theorem cntTo_zero (s : ByteArray) : cntTo s 0 = 0 := by simp [cntTo]
theorem cntTo_le (s : ByteArray) (k : Nat) : cntTo s k ≤ k := by
  unfold cntTo
  exact Nat.le_trans List.countP_le_length (List.length_take_le _ _)
theorem cntTo_succ (s : ByteArray) (k : Nat) (h : k < s.size) : cntTo s (k + 1) = cntTo s k + if isDig s[k] = true then 1 else 0 := by
  unfold cntTo
  rw [List.take_succ_eq_append_getElem (by simpa using h), List.countP_append]
  congr 1
  show List.countP isDig [s[k]] = _
  simp [List.countP_cons]
theorem adB_cnt (s : ByteArray) : adB s.data.toList = (decide (0 < cntTo s s.size) && decide (cntTo s s.size = s.size)) := by
  have e : s.data.toList.length = s.size := by simp
  have e2 : cntTo s s.size = s.data.toList.countP isDig := by
    unfold cntTo
    rw [List.take_of_length_le (by omega)]
  rw [e2, ← e]
  unfold adB
  generalize s.data.toList = l
  rw [Bool.eq_iff_iff]
  simp only [Bool.and_eq_true, Bool.not_eq_true', List.isEmpty_eq_false_iff, List.all_eq_true, decide_eq_true_eq, List.countP_eq_length]
  constructor
  · rintro ⟨h1, h2⟩
    have := (List.countP_eq_length (p := isDig)).2 h2
    exact ⟨by rw [this]; exact List.length_pos_iff.2 h1, h2⟩
  · rintro ⟨h1, h2⟩
    refine ⟨fun h => ?_, h2⟩
    subst h
    simp at h1

theorem dig_yes {c : UInt8} (h1 : 48 ≤ c.toNat) (h2 : c.toNat ≤ 57) : isDig c = true := by simp [isDig, h1, h2]
theorem dig_no {c : UInt8} (h : ¬ (48 ≤ c.toNat ∧ c.toNat ≤ 57)) : isDig c = false := by
  unfold isDig
  by_cases e : 48 ≤ c.toNat
  · have : ¬ c.toNat ≤ 57 := fun h' => h ⟨e, h'⟩
    simp [this]
  · simp [e]

theorem zzBytes_any (s : ByteArray) (w : World) (hs : s.size ≤ maxLen) : Calls Try.prog 6 #[.string s] w fun e w' => (∃ bb : Bool, e = .returned (.bool bb) ∧ Hid (bb = true → s.size ≤ 1048576)) ∧ w' = w := by
  unfold maxLen at hs
  by_cases h : 1048576 < s.size
  · refine Calls.mono (R := fun e w' => e = .returned (.bool false) ∧ w' = w) ?_ (fun _ _ ⟨h1, h2⟩ => ⟨⟨false, h1, fun h => by cases h⟩, h2⟩)
    go_enter Try.func6, Try.ntmps6
    go_wp2
    go_ret
    exact ⟨rfl, rfl⟩
  · refine Calls.mono (R := fun e w' => e = .returned (.bool true) ∧ w' = w) ?_ (fun _ _ ⟨h1, h2⟩ => ⟨⟨true, h1, fun _ => by omega⟩, h2⟩)
    go_enter Try.func6, Try.ntmps6
    go_wp2
    go_ret
    exact ⟨rfl, rfl⟩

set_option maxHeartbeats 400000 in
theorem count_walk (s : ByteArray) (w : World) (hs : s.size ≤ maxLen) :
    Calls Try.prog 3 #[.string s] w fun e w' => e = .returned (.bool true) ∧ w' = w := by
  have hz := zzBytes_any s w hs
  have ha := zzAllDigits_any s w hs
  go_enter Try.func3, Try.ntmps3
  go_wp2_with fail
  refine hz.mono ?_
  rintro e w1 ⟨⟨bb, rfl, hb⟩, hw⟩
  obtain rfl := hw.symm
  clear hw hz
  cases bb
  · go_wp2
    go_ret
    exact ⟨rfl, rfl⟩
  have hsz : s.size ≤ 1048576 := hb.out rfl
  clear hb hs
  go_wp2_with fail
  refine ha.mono ?_
  rintro e w1 ⟨rfl, hw⟩
  obtain rfl := hw.symm
  clear hw ha
  generalize hB : adB s.data.toList = B
  have HB : Hid (B = (decide (0 < cntTo s s.size) && decide (cntTo s s.size = s.size))) := by rw [← hB]; exact adB_cnt s
  clear hB
  go_wp2
  go_loop [4, 5] (fun t i => ∃ k c : Nat, k ≤ s.size ∧ i = .int .i64 k ∧ t = .int .i64 c ∧ c ≤ k ∧ Hid (c = cntTo s k)) (fun _ i => s.size - (intOf i).toNat)
  case atStart => exact ⟨0, 0, Nat.zero_le _, rfl, rfl, Nat.le_refl _, (cntTo_zero s).symm⟩
  case round =>
    obtain ⟨k, c, hk, rfl, rfl, hck, hc⟩ := hrel
    by_cases hlt : k < s.size
    · have hsucc := cntTo_succ s k hlt
      by_cases hdig : 48 ≤ s[k].toNat ∧ s[k].toNat ≤ 57
      · have N : Hid (c + 1 = cntTo s (k + 1)) := by rw [dig_yes hdig.1 hdig.2] at hsucc; simp at hsucc; rw [hsucc, hc.out]; rfl
        obtain ⟨g1, g2⟩ := hdig
        clear hsucc hc
        go_wp2
        go_round
        case rel => exact ⟨k + 1, c + 1, by omega, by go_num, by go_num, by omega, N⟩
        case measure => simp [intOf]; omega
      · have N : Hid (c = cntTo s (k + 1)) := by rw [dig_no hdig] at hsucc; simp at hsucc; rw [hsucc, hc.out]; rfl
        have hby : s[k].toNat < 256 := s[k].toNat_lt
        clear hsucc hc
        by_cases g1 : 48 ≤ s[k].toNat
        · have g2 : 57 < s[k].toNat := by omega
          clear hdig
          go_wp2
          go_round
          case rel => exact ⟨k + 1, c, by omega, by go_num, by go_num, by omega, N⟩
          case measure => simp [intOf]; omega
        · clear hdig
          have hwr : IntKind.u8.wrap ((s[k].toNat : Int) - 48) = (s[k].toNat : Int) - 48 + 256 := by
            rw [IntKind.wrap_u8]
            omega
          go_wp2
          go_round
          case rel => exact ⟨k + 1, c, by omega, by go_num, by go_num, by omega, N⟩
          case measure => simp [intOf]; omega
    · have hkk : k = s.size := by omega
      have HF : Hid (B = (decide (0 < c) && decide (c = s.size))) := by
        have := hc.out
        rw [hkk] at this
        rw [this]
        exact HB.out
      clear hc HB hkk
      by_cases h0 : 0 < c
      · by_cases h1 : c = s.size
        · have hB : B = true := by rw [HF.out]; simp [h0]; exact h1
          subst hB
          have g : ((c : Int) == (s.size : Int)) = true := beq_iff_eq.2 (by omega)
          clear h1 HF
          go_wp2
          go_ret
          exact ⟨rfl, rfl⟩
        · have hB : B = false := by rw [HF.out]; simp [h1]
          subst hB
          have g : ((c : Int) == (s.size : Int)) = false := beq_eq_false_iff_ne.2 (by omega)
          clear h1 HF
          go_wp2
          go_ret
          exact ⟨rfl, rfl⟩
      · have hB : B = false := by rw [HF.out]; simp [h0]
        subst hB
        have g : decide ((0 : Int) < (c : Int)) = false := decide_eq_false (by omega)
        clear HF
        go_wp2
        go_ret
        exact ⟨rfl, rfl⟩

end Go.Proofs.Qxb6601140a
