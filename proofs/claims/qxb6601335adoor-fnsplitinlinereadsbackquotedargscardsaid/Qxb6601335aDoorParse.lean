/-
  internal/strconv.lower (31), internal/strconv.ParseUint (29) and strconv.ParseUint (28) at two bytes, base 16, 8 bits; resp.hexByte (27).
-/
import Derived.Test.Qxb6601335aDoorErr
import Derived.Test.Qxb6601335aDoorPlain
import Derived.Lib.ConvBytes
import Derived.Lib.AtoiAllMem
import Derived.Laws.Strings3
import Derived.Laws.Closers25
import Derived.Laws.Closers25b
namespace Go.Proofs.Qxb6601335aDoor
open Go.RowKit

theorem lower_any (c : Int) (w : World) :
    Calls Tryd.prog 31 #[.int .u8 c] w fun e w' => e = .returned (.int .u8 (lowB c)) ∧ w' = w := by
  go_enter Tryd.func31, Tryd.ntmps31
  go_wp2
  go_ret
  exact ⟨rfl, rfl⟩

/-- What the inner ParseUint answers. -/
def hexTup : Option Int → Value
  | some v => .tuple #[.int .u64 v, .nilIface]
  | none => .tuple #[.int .u64 0, .iface 46 (.int .i64 2)]

set_option maxHeartbeats 2000000 in
set_option maxRecDepth 100000 in
theorem parseIn (t : ByteArray) (c0 c1 : Int) (ht : t.size = 2) (hc0 : 0 ≤ c0 ∧ c0 ≤ 255) (hc1 : 0 ≤ c1 ∧ c1 ≤ 255) (e0 : ((t.data.toList.getD 0 0).toNat : Int) = c0) (e1 : ((t.data.toList.getD 1 0).toNat : Int) = c1) (w : World) :
    Calls Tryd.prog 29 #[.string t, .int .i64 16, .int .i64 8] w fun e w' => e = .returned (hexTup (hex2 [c0, c1])) ∧ w' = Lib.bytesWorld w 5 t := by
  have hemp : t.toList.isEmpty = false := by
    rw [← decide_eq_emptyBytes]
    exact decide_eq_false (fun h => by rw [h] at ht; cases ht)
  have hcv := Lib.run_convert_string_bytes (P := Tryd.prog) w 9 22 5 t (u := .string) Tryd.underlying9 Tryd.underlying22 Tryd.underlying5
  have hB0 : (Lib.bytesWorld w 5 t).cell? ⟨w.heap.size, 0, none⟩ = some (.int .u8 c0) := by rw [Lib.bytesWorld_cell w 5 t 0 (by omega), e0]
  have hB1 : (Lib.bytesWorld w 5 t).cell? ⟨w.heap.size, 1, none⟩ = some (.int .u8 c1) := by rw [Lib.bytesWorld_cell w 5 t 1 (by omega), e1]
  rw [ht] at hcv
  obtain ⟨W1, hW1⟩ : ∃ W1, W1 = Lib.bytesWorld w 5 t := ⟨_, rfl⟩
  rw [← hW1] at hcv hB0 hB1 ⊢
  clear hW1 e0 e1
  obtain ⟨C, hC⟩ : ∃ C : Nat → Int, C 0 = c0 ∧ C 1 = c1 ∧ ∀ k, 0 ≤ C k ∧ C k ≤ 255 := ⟨fun k => if k = 0 then c0 else c1, rfl, rfl, fun k => by dsimp only; split <;> assumption⟩
  obtain ⟨rfl, rfl, hCb⟩ := hC
  have hB : ∀ k, k < 2 → W1.cell? ⟨w.heap.size, k, none⟩ = some (.int .u8 (C k)) := fun k hk => by
    rcases (show k = 0 ∨ k = 1 by omega) with rfl | rfl <;> assumption
  clear hc0 hc1 hB0 hB1
  go_enter Tryd.func29, Tryd.ntmps29
  go_wp2
  clear hcv hemp
  go_loop [12, 13, 101] (fun vu vn vi => ∃ (k : Nat) (a : Int), vu = .bool false ∧ vn = .int .u64 a ∧ vi = .int .i64 k ∧ k ≤ 2 ∧ Hid (HexAt C k a)) (fun _ _ vi => 2 - (intOf vi).toNat)
  case atStart => exact ⟨0, 0, rfl, rfl, rfl, by omega, HexAt.start C⟩
  case round =>
    obtain ⟨k, a, rfl, rfl, rfl, hk, hh⟩ := hrel
    by_cases hkn : k < 2
    · have hc := hB k hkn
      obtain ⟨hb0, hb1⟩ := hCb k
      obtain ⟨ha0, ha1⟩ := hh.out.bound hkn
      obtain ⟨hl0, hl1, hl2, hl3, hl4⟩ := lowB_spec hb0 hb1
      by_cases hdig : 48 ≤ C k ∧ C k ≤ 57
      · obtain ⟨hd0, hd1⟩ := hdig
        have S : Hid (∀ m, m = a * 16 + (C k - 48) → HexAt C (k + 1) m) := fun m hm => hh.out.step hkn (hexv_digit hd0 hd1) hm
        clear hh hB hl2 hl3 hl4 hCb
        go_wp2
        go_round
        case rel => exact ⟨k + 1, _, rfl, rfl, by go_num, by omega, S.out _ (by omega)⟩
        case measure => simp [intOf]; omega
      · by_cases hlow : 97 ≤ C k ∧ C k ≤ 102
        · obtain ⟨hd0, hd1⟩ := hlow
          have S : Hid (∀ m, m = a * 16 + (C k - 87) → HexAt C (k + 1) m) := fun m hm => hh.out.step hkn (hexv_lower hd0 hd1) hm
          have hlo := hl2 ⟨hd0, hd1⟩
          clear hh hB hl2 hl3 hl4 hCb hl0 hl1
          go_wp2_with (go_at_call 31; refine (lower_any _ _).mono ?_; rintro e w' ⟨rfl, rfl⟩)
          go_round
          case rel => exact ⟨k + 1, _, rfl, rfl, by go_num, by omega, S.out _ (by omega)⟩
          case measure => simp [intOf]; omega
        · by_cases hup : 65 ≤ C k ∧ C k ≤ 70
          · obtain ⟨hd0, hd1⟩ := hup
            have S : Hid (∀ m, m = a * 16 + (C k - 55) → HexAt C (k + 1) m) := fun m hm => hh.out.step hkn (hexv_upper hd0 hd1) hm
            have hlo := hl3 ⟨hd0, hd1⟩
            clear hh hB hl2 hl3 hl4 hCb hl0 hl1
            go_wp2_with (go_at_call 31; refine (lower_any _ _).mono ?_; rintro e w' ⟨rfl, rfl⟩)
            go_round
            case rel => exact ⟨k + 1, _, rfl, rfl, by go_num, by omega, S.out _ (by omega)⟩
            case measure => simp [intOf]; omega
          · have hbad : Hid (hex2 [C 0, C 1] = none) := hh.out.bad hkn (hexv_none hdig hlow hup)
            have hl5 := hl4 hlow hup
            clear hh hB hl2 hl3 hl4 hCb hlow hup
            go_wp2_with (go_at_call 31; refine (lower_any _ _).mono ?_; rintro e w' ⟨rfl, rfl⟩)
            all_goals go_ret2
            all_goals exact ⟨by rw [hbad.out]; rfl, rfl⟩
    · obtain rfl : k = 2 := by omega
      have hd : Hid (hex2 [C 0, C 1] = some a) := hh.out.done
      clear hh hB hCb
      go_wp2
      go_ret2
      exact ⟨by rw [hd.out]; rfl, rfl⟩

end Go.Proofs.Qxb6601335aDoor
