/-
  money.allDigits (9), money.ZZallDigits (7), zzBytes_FnAllDigitsMatchesCountModel (6).
-/
import Derived.Test.Qxb6601140aRows
import Derived.WalkKit
import Derived.WalkSpells
import Derived.WalkLawsBesides
namespace Go.Proofs.Qxb6601140a
open Go.RowKit

def isDig (c : UInt8) : Bool := decide (48 ≤ c.toNat) && decide (c.toNat ≤ 57)
/-- One or more ASCII digits. -/
def adB (l : List UInt8) : Bool := !l.isEmpty && l.all isDig

theorem adB_bad {l : List UInt8} {k : Nat} (hk : k < l.length) (h : isDig l[k] = false) : adB l = false := by
  unfold adB
  have : l.all isDig = false := by
    rw [List.all_eq_false]
    exact ⟨l[k], List.getElem_mem hk, by simp [h]⟩
  rw [this, Bool.and_false]

theorem adB_good {l : List UInt8} (h0 : 0 < l.length) (h : ∀ k (hk : k < l.length), isDig l[k] = true) : adB l = true := by
  unfold adB
  rw [Bool.and_eq_true]
  refine ⟨by cases l <;> simp_all, ?_⟩
  rw [List.all_eq_true]
  intro x hx
  obtain ⟨k, hk, rfl⟩ := List.getElem_of_mem hx
  exact h k hk

set_option maxHeartbeats 400000 in
theorem allDigits_any (s : ByteArray) (w : World) (hs : s.size ≤ maxLen) :
    Calls Try.prog 9 #[.string s] w fun e w' => e = .returned (.bool (adB s.data.toList)) ∧ w' = w := by
  unfold maxLen at hs
  by_cases h0 : s.size = 0
  · have e : s = ⟨#[]⟩ := by
      apply ByteArray.ext
      exact Array.eq_empty_of_size_eq_zero h0
    subst e
    go_enter Try.func9, Try.ntmps9
    go_wp2
    go_ret
    exact ⟨rfl, rfl⟩
  · have hemp : s.toList.isEmpty = false := by
      rw [← decide_eq_emptyBytes]
      exact decide_eq_false (fun h => h0 (by rw [h]; rfl))
    have hlen : s.data.toList.length = s.size := by simp
    have hget : ∀ k (hk : k < s.size), s.data.toList[k]'(by omega) = s[k] := fun k hk => by rfl
    have HL : Hid (s.data.toList.length = s.size ∧ ∀ k (hk : k < s.data.toList.length) (hk' : k < s.size), s.data.toList[k] = s[k]) := ⟨hlen, fun k _ hk => hget k hk⟩
    clear hlen hget
    go_enter Try.func9, Try.ntmps9
    go_wp2
    clear hemp
    go_loop [3] (fun i => ∃ k : Nat, k ≤ s.size ∧ i = .int .i64 k ∧ Hid (∀ j (hj : j < s.size), j < k → isDig s[j] = true)) (fun i => s.size - (intOf i).toNat)
    case atStart => exact ⟨0, Nat.zero_le _, rfl, fun j _ h => by omega⟩
    case round =>
      obtain ⟨k, hk, rfl, hd⟩ := hrel
      by_cases hlt : k < s.size
      · by_cases hdig : 48 ≤ s[k].toNat ∧ s[k].toNat ≤ 57
        · obtain ⟨g1, g2⟩ := hdig
          have N : Hid (∀ j (hj : j < s.size), j < k + 1 → isDig s[j] = true) := fun j hj h => by
            by_cases e : j = k
            · subst e; simp [isDig, g1, g2]
            · exact hd.out j hj (by omega)
          clear hd
          go_wp2
          go_round
          case rel => exact ⟨k + 1, by omega, by go_num, N⟩
          case measure => simp [intOf]; omega
        · have hkl : k < s.data.toList.length := by rw [HL.out.1]; exact hlt
          have HF : Hid (adB s.data.toList = false) := adB_bad hkl (by
            rw [HL.out.2 k hkl hlt]
            unfold isDig
            by_cases e : 48 ≤ s[k].toNat
            · have : ¬ s[k].toNat ≤ 57 := fun h => hdig ⟨e, h⟩
              simp [this]
            · simp [e])
          clear hd hkl
          by_cases g1 : 48 ≤ s[k].toNat
          · have g2 : 57 < s[k].toNat := by omega
            clear hdig
            go_wp2
            go_ret
            exact ⟨by rw [HF.out]; rfl, rfl⟩
          · clear hdig
            go_wp2
            go_ret
            exact ⟨by rw [HF.out]; rfl, rfl⟩
      · have HF : Hid (adB s.data.toList = true) := adB_good (by rw [HL.out.1]; omega) (fun j hj => by
          rw [HL.out.2 j hj (by have := HL.out.1; omega)]
          exact hd.out j (by have := HL.out.1; omega) (by have := HL.out.1; omega))
        clear hd
        go_wp2
        go_ret
        exact ⟨by rw [HF.out]; rfl, rfl⟩

theorem zzAllDigits_any (s : ByteArray) (w : World) (hs : s.size ≤ maxLen) :
    Calls Try.prog 7 #[.string s] w fun e w' => e = .returned (.bool (adB s.data.toList)) ∧ w' = w := by
  go_enter Try.func7, Try.ntmps7
  go_wp2_with fail
  refine (allDigits_any s _ hs).mono ?_
  rintro e w1 ⟨rfl, rfl⟩
  go_wp2
  go_ret
  exact ⟨rfl, rfl⟩

end Go.Proofs.Qxb6601140a
