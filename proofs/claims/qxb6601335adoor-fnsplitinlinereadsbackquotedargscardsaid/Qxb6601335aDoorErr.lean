/-
  The road of strconv's error: internal/stringslite.Clone (37), strconv.syntaxError (33), strconv.toError (30). After the shelf's own texts of these three, turned to this program's numbers.
-/
import Derived.Test.Qxb6601335aDoorCopy
import Derived.Lib.Strings
import Derived.Lib.Walk
import Derived.Lib.BufferWrite
import Derived.Lib.UnsafeStr
import Derived.Lib.Hide
import Derived.Lib.AtoiErrMem
import Derived.Lib.IfaceEq
import Derived.RegionTactic
import Derived.Deep.RegionWith
import Derived.BigCall
import Derived.BigGuard
namespace Go.Proofs.Qxb6601335aDoor
open Go.RowKit

set_option maxHeartbeats 1000000 in
set_option maxRecDepth 100000 in
theorem strClone (s : ByteArray) (w : World) (hlim : s.size ≤ 281474976710656) :
    Calls Tryd.prog 37 #[.string s] w fun e w' => e = .returned (.string s) ∧ Below w.heap.size w w' := by
  by_cases h0 : s.size = 0
  · have hs : s = ⟨#[]⟩ := by
      apply ByteArray.ext
      exact Array.eq_empty_of_size_eq_zero h0
    subst hs
    go_enter Tryd.func37, Tryd.ntmps37
    go_wp2
    go_ret
    exact ⟨rfl, Below.refl _ _⟩
  · obtain ⟨i0, hi, hz0, hz1, hz2⟩ := info_parts Tryd.info5
    have hco : Tryd.prog.cellsOf 5 = 1 := by simp [Program.cellsOf, hi, hz1]
    obtain ⟨M, hM⟩ : ∃ M, M = madeCells (Value.int .u8 0).cells (((s.size : Nat) : Int).toNat * i0.size) := ⟨_, rfl⟩
    have hMs : M.size = s.size := by rw [hM, size_madeCells, hz1]; simp
    have hmk : ∀ W : World, (Instr.makeSlice 22 (.int .i64 (s.size : Int)) (.int .i64 (s.size : Int))).run Tryd.prog W = .ok (.slice (some ⟨W.heap.size, 0, none⟩) s.size s.size) (W.alloc (.cells M 5)) := fun W => by
      have h := run_make (P := Tryd.prog) W 22 5 i0 (.int .u8 0) Tryd.underlying22 hi hz0 .i64 .i64 (s.size : Int) (s.size : Int) (by omega) (by omega) (by rw [hz2]; omega) (by omega)
      rw [← hM] at h
      simpa using h
    clear hM
    have hcp := Lib.run_copy_row_string (P := Tryd.prog) (w.alloc (.cells M 5)) 22 9 3 5 w.heap.size 0 s.size s.size s M 5 Tryd.underlying22 Tryd.size5 (heap_alloc_new w _) (Nat.le_refl _) (by omega)
    obtain ⟨Y, hY⟩ : ∃ Y, Y = (M.toList.take 0 ++ Lib.byteCells s.data.toList ++ M.toList.drop (0 + s.size)).toArray := ⟨_, rfl⟩
    rw [← hY] at hcp
    have hYl : Y.toList = Lib.byteCells s.data.toList := by
      rw [hY, List.toList_toArray, List.take_zero, List.nil_append, List.drop_of_length_le (by rw [Array.length_toList]; omega), List.append_nil]
    have hYs : Y.size = s.size := by rw [← Array.length_toList, hYl, Lib.byteCells_length, ← Lib.size_eq]
    have hgY : ((w.alloc (.cells M 5)).setRow w.heap.size Y).heap[w.heap.size]? = some (.cells Y 5 (0, 0)) := setRow_heap _ _ M _ 5 (0, 0) (heap_alloc_new w _)
    have hne : s.data.toList ≠ [] := fun e => h0 (by rw [Lib.size_eq, e]; rfl)
    have hUS := Lib.run_unsafeString_row (P := Tryd.prog) ((w.alloc (.cells M 5)).setRow w.heap.size Y) 56 3 9 5 Tryd.underlying56 hco w.heap.size Y.size (by unfold World.shape?; rw [hgY]) s.data.toList hne (by rw [← Lib.size_eq]; omega) (by rw [← Lib.size_eq]; omega)
      (fun j x hx => Lib.cells_of_row hgY Y.size j _ (by rw [List.take_of_length_le (by rw [Array.length_toList]; exact Nat.le_refl _), hYl]; simp [Lib.byteCells, hx]))
    rw [← Lib.size_eq] at hUS
    clear hY
    go_enter Tryd.func37, Tryd.ntmps37
    go_wp2
    go_ret
    have hb1 : Below w.heap.size w (w.alloc (.cells M 5)) := (Below.refl _ w).alloc (Nat.le_refl _) _
    have hb2 : Below w.heap.size (w.alloc (.cells M 5)) ((w.alloc (.cells M 5)).setRow w.heap.size Y) := ⟨rfl, rfl, rfl, by simp, fun k hk => setRow_other _ _ _ _ (by omega)⟩
    exact ⟨rfl, Lib.below_freeze (hb1.trans hb2) (p := ⟨w.heap.size, 0, none⟩) (Nat.le_refl _) _⟩

set_option maxHeartbeats 1000000 in
set_option maxRecDepth 100000 in
theorem syntaxError_any (fn s : ByteArray) (ev : Value) (w : World) (hlim : s.size ≤ 281474976710656) (hv : w.cell? ⟨0, 0, none⟩ = some ev) (hev : ev = .nilIface ∨ ∃ te pe, ev = .iface te pe) :
    Calls Tryd.prog 33 #[.string fn, .string s] w fun e w' => ∃ N, e = .returned (.pointer (some ⟨N, 0, none⟩)) ∧ Below w.heap.size w w' := by
  rcases hev with rfl | ⟨te, pe, rfl⟩
  all_goals (
    have hG : 0 < w.heap.size := Lib.lt_of_cell hv
    have hvd : w.drew.cell? ⟨0, 0, none⟩ = some _ := hv
    go_enter Tryd.func33, Tryd.ntmps33
    go_wp2
    go_region_with (
        go_at_call 37
        refine (strClone s _ hlim).mono ?_
        rintro e w2 ⟨rfl, hbel⟩
        have hv2 : w2.cell? ⟨0, 0, none⟩ = some _ := (hbel.cell (show (⟨0, 0, none⟩ : Addr).block < w.drew.heap.size from hG)).trans hvd)
    all_goals (
      go_wp2
      go_ret
      have hs2 : w.heap.size ≤ w2.heap.size := hbel.size
      exact ⟨_, rfl, ((Below.drew (Below.refl _ w)).trans hbel).alloc hs2 _⟩))

set_option maxHeartbeats 1000000 in
set_option maxRecDepth 100000 in
theorem toError_any (fn s : ByteArray) (base bits : Int) (ev : Value) (w : World) (hlim : s.size ≤ 281474976710656) (hv : w.cell? ⟨0, 0, none⟩ = some ev) (hev : ev = .nilIface ∨ ∃ te pe, ev = .iface te pe) :
    Calls Tryd.prog 30 #[.string fn, .string s, .int .i64 base, .int .i64 bits, .iface 46 (.int .i64 2)] w fun e w' => ∃ N, e = .returned (.iface 48 (.pointer (some ⟨N, 0, none⟩))) ∧ Below w.heap.size w w' := by
  have heq : ∀ W, (binOp .eql 42 (.iface 46 (.int .i64 2)) (.iface 46 (.int .i64 2))).run Tryd.prog W = .ok (.bool true) W := fun W => Lib.run_eql_iface_int W 2 2 Tryd.underlying42 (by kernel_rfl) Tryd.underlying46
  go_enter Tryd.func30, Tryd.ntmps30
  go_wp2_with (go_at_call 33; refine (syntaxError_any fn s ev _ hlim ?_ hev).mono ?_)
  · exact hv
  rintro e w2 ⟨N, rfl, h3⟩
  go_wp2
  go_ret
  exact ⟨N, rfl, h3⟩

end Go.Proofs.Qxb6601335aDoor
