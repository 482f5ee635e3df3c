/-
  strconv.ParseUint (28) at two bytes, base 16, 8 bits; resp.hexByte (27).
-/
import Derived.Test.Qxb6601335aDoorParse
import Derived.Laws.BytesArg
import Derived.Deep.QuietTactic
import Derived.BigQuiet
namespace Go.Proofs.Qxb6601335aDoor
open Go.RowKit

set_option maxHeartbeats 400000 in
theorem parseOut_ok (t : ByteArray) (c0 c1 v : Int) (ht : t.size = 2) (hc0 : 0 ≤ c0 ∧ c0 ≤ 255) (hc1 : 0 ≤ c1 ∧ c1 ≤ 255) (e0 : ((t.data.toList.getD 0 0).toNat : Int) = c0) (e1 : ((t.data.toList.getD 1 0).toNat : Int) = c1) (w : World) (hv : hex2 [c0, c1] = some v) :
    Calls Tryd.prog 28 #[.string t, .int .i64 16, .int .i64 8] w fun e w' => e = .returned (.tuple #[.int .u64 v, .nilIface]) ∧ Below w.heap.size w w' := by
  have hp := parseIn t c0 c1 ht hc0 hc1 e0 e1 w
  rw [hv] at hp
  clear e0 e1 hv
  have hb := Lib.bytesWorld_below w 5 t
  generalize Lib.bytesWorld w 5 t = w1 at hp hb
  go_enter Tryd.func28, Tryd.ntmps28
  go_wp2_with fail
  refine hp.mono ?_
  rintro e w2 ⟨rfl, rfl⟩
  simp only [hexTup]
  go_wp2
  go_ret2
  exact ⟨rfl, hb⟩

set_option maxHeartbeats 400000 in
theorem parseOut_bad (t : ByteArray) (c0 c1 : Int) (ht : t.size = 2) (hc0 : 0 ≤ c0 ∧ c0 ≤ 255) (hc1 : 0 ≤ c1 ∧ c1 ≤ 255) (e0 : ((t.data.toList.getD 0 0).toNat : Int) = c0) (e1 : ((t.data.toList.getD 1 0).toNat : Int) = c1) (w : World) (hv : hex2 [c0, c1] = none)
    (ev : Value) (hev : w.cell? ⟨0, 0, none⟩ = some ev) (hev2 : ev = .nilIface ∨ ∃ te pe, ev = .iface te pe) :
    Calls Tryd.prog 28 #[.string t, .int .i64 16, .int .i64 8] w fun e w' => ∃ N, e = .returned (.tuple #[.int .u64 0, .iface 48 (.pointer (some ⟨N, 0, none⟩))]) ∧ Below w.heap.size w w' := by
  have hp := parseIn t c0 c1 ht hc0 hc1 e0 e1 w
  rw [hv] at hp
  clear e0 e1 hv
  have hb := Lib.bytesWorld_below w 5 t
  generalize Lib.bytesWorld w 5 t = w1 at hp hb
  have hlim : t.size ≤ 281474976710656 := by omega
  have hte := fun fn => toError_any fn t 16 8 ev w1 hlim (cell_later hb hev) hev2
  clear hev hev2 ht
  go_enter Tryd.func28, Tryd.ntmps28
  go_wp2_with fail
  refine hp.mono ?_
  rintro e w2 ⟨rfl, rfl⟩
  simp only [hexTup]
  go_wp2_with fail
  refine (hte _).mono ?_
  rintro e w3 ⟨N, rfl, hb3⟩
  go_wp2
  go_ret2
  exact ⟨N, rfl, hb.trans (hb3.mono hb.size)⟩

set_option maxHeartbeats 400000 in
theorem hexByte_short (ao : Option Addr) (l c : Nat) (w : World) (hl : l < 2) :
    Calls Tryd.prog 27 #[.slice ao l c] w fun e w' => e = .returned (.tuple #[.int .u8 0, .bool false]) ∧ Below w.heap.size w w' := by
  go_enter Tryd.func27, Tryd.ntmps27
  go_wp2
  go_ret2
  exact ⟨rfl, Below.refl _ _⟩

theorem str2 (c0 c1 : Int) (hc0 : 0 ≤ c0 ∧ c0 ≤ 255) (hc1 : 0 ≤ c1 ∧ c1 ≤ 255) : (strOfNums [c0, c1]).size = 2 ∧ (((strOfNums [c0, c1]).data.toList.getD 0 0).toNat : Int) = c0 ∧ (((strOfNums [c0, c1]).data.toList.getD 1 0).toNat : Int) = c1 := by
  refine ⟨strOfNums_size _, ?_, ?_⟩
  · simp [strOfNums_data]; omega
  · simp [strOfNums_data]; omega

set_option maxHeartbeats 400000 in
theorem hexByte_ok (b o l c : Nat) (c0 c1 v : Int) (w : World) (hl : 2 ≤ l) (hlc : l ≤ c) (hc0 : 0 ≤ c0 ∧ c0 ≤ 255) (hc1 : 0 ≤ c1 ∧ c1 ≤ 255) (h0 : w.cell? ⟨b, o, none⟩ = some (.int .u8 c0)) (h1 : w.cell? ⟨b, o + 1, none⟩ = some (.int .u8 c1)) (hv : hex2 [c0, c1] = some v) :
    Calls Tryd.prog 27 #[.slice (some ⟨b, o, none⟩) l c] w fun e w' => e = .returned (.tuple #[.int .u8 v, .bool true]) ∧ Below w.heap.size w w' := by
  have hcv := fun cap => run_convert_bytes_arg (P := Tryd.prog) w 22 5 Tryd.underlying22 Tryd.underlying5 b o 2 cap [c0, c1] rfl (fun i hi => by
    rcases (show i = 0 ∨ i = 1 by omega) with rfl | rfl <;> assumption) 9 Tryd.underlying9
  obtain ⟨k1, k2, k3⟩ := str2 c0 c1 hc0 hc1
  have hp := parseOut_ok (strOfNums [c0, c1]) c0 c1 v k1 hc0 hc1 k2 k3 w hv
  have hvb := hex2_bound hv
  clear k2 k3 h0 h1 hv
  generalize strOfNums [c0, c1] = t at hcv hp k1
  go_enter Tryd.func27, Tryd.ntmps27
  go_wp2_with fail
  refine hp.mono ?_
  rintro e w2 ⟨rfl, hb⟩
  go_wp2
  go_region
  all_goals go_wp2
  go_ret2
  exact ⟨rfl, hb.drew⟩

set_option maxHeartbeats 400000 in
theorem hexByte_bad (b o l c : Nat) (c0 c1 : Int) (w : World) (hl : 2 ≤ l) (hlc : l ≤ c) (hc0 : 0 ≤ c0 ∧ c0 ≤ 255) (hc1 : 0 ≤ c1 ∧ c1 ≤ 255) (h0 : w.cell? ⟨b, o, none⟩ = some (.int .u8 c0)) (h1 : w.cell? ⟨b, o + 1, none⟩ = some (.int .u8 c1)) (hv : hex2 [c0, c1] = none)
    (ev : Value) (hev : w.cell? ⟨0, 0, none⟩ = some ev) (hev2 : ev = .nilIface ∨ ∃ te pe, ev = .iface te pe) :
    Calls Tryd.prog 27 #[.slice (some ⟨b, o, none⟩) l c] w fun e w' => e = .returned (.tuple #[.int .u8 0, .bool false]) ∧ Below w.heap.size w w' := by
  have hcv := fun cap => run_convert_bytes_arg (P := Tryd.prog) w 22 5 Tryd.underlying22 Tryd.underlying5 b o 2 cap [c0, c1] rfl (fun i hi => by
    rcases (show i = 0 ∨ i = 1 by omega) with rfl | rfl <;> assumption) 9 Tryd.underlying9
  obtain ⟨k1, k2, k3⟩ := str2 c0 c1 hc0 hc1
  have hp := parseOut_bad (strOfNums [c0, c1]) c0 c1 k1 hc0 hc1 k2 k3 w hv ev hev hev2
  clear k2 k3 h0 h1 hv hev hev2
  generalize strOfNums [c0, c1] = t at hcv hp k1
  go_enter Tryd.func27, Tryd.ntmps27
  go_wp2_with fail
  refine hp.mono ?_
  rintro e w2 ⟨N, rfl, hb⟩
  go_wp2
  go_region
  all_goals go_wp2
  go_ret2
  exact ⟨rfl, hb.drew⟩

end Go.Proofs.Qxb6601335aDoor
