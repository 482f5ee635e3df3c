/-
  zzCopyBytes (function 15): a copy in a new row.
-/
import Derived.Test.Qxb6601335aDoorRows
import Derived.Test.Qxb6601335aDoorMem
namespace Go.Proofs.Qxb6601335aDoor
open Go.RowKit

theorem Tryd.info5 : (Tryd.prog.info? 5).map (fun i => (i.zero, i.size, i.bytes)) = some (some (.int .u8 0), 1, 1) := by kernel_rfl
theorem Tryd.info22 : (Tryd.prog.info? 22).map (fun i => (i.zero, i.size, i.bytes)) = some (some (.slice none 0 0), 1, 24) := by kernel_rfl
theorem Tryd.size5 : (Tryd.prog.info? 5).map (·.size) = some 1 := by kernel_rfl

theorem copyBytes_none (w : World) :
    Calls Tryd.prog 8 #[.slice none 0 0] w fun e w' => e = .returned (.slice none 0 0) ∧ w' = w := by
  have hnil := fun (w : World) => Lib.run_eql_slice_nil (P := Tryd.prog) w 22 5 none 0 0 0 0 Tryd.underlying22
  go_enter Tryd.func8, Tryd.ntmps8
  go_wp2
  go_ret
  exact ⟨rfl, rfl⟩

set_option maxHeartbeats 400000 in
theorem copyBytes_some (w : World) (ad : Addr) (l c : Nat) (Z : Nat → Int) (hl : l ≤ 1048576) (hz : Holds8 w (some ad) l Z) :
    Calls Tryd.prog 8 #[.slice (some ad) l c] w fun e w' => e = .returned (.slice (some ⟨w.heap.size, 0, none⟩) l l) ∧ w'.rowIs w.heap.size 5 l (fun i => .int .u8 (Z i)) ∧ Below w.heap.size w w' ∧ w'.heap.size = w.heap.size + 1 := by
  have hnil := fun (w : World) => Lib.run_eql_slice_nil (P := Tryd.prog) w 22 5 (some ad) l c 0 0 Tryd.underlying22
  have hmk := run_make_row' (P := Tryd.prog) 22 5 (.int .u8 0) 1 Tryd.underlying22 Tryd.info5 rfl .i64 .i64 l (by omega) (by omega)
  obtain ⟨cs, hcs, hlen⟩ : ∃ cs : List Value, (∀ i, i < l → cs[i]? = some (.int .u8 (Z i))) ∧ cs.length = l :=
    ⟨(List.range l).map fun i => .int .u8 (Z i), fun i hi => by simp [hi], by simp⟩
  have hcp := run_copy_fresh (P := Tryd.prog) w 22 22 3 5 ad l c (.int .u8 0) 5 cs Tryd.underlying22 Tryd.size5 hlen
    (fun j v hv => by
      have hj : j < l := by have := (List.getElem?_eq_some_iff.1 hv).1; omega
      rw [hcs j hj] at hv
      obtain ⟨b, o, e, hc, _⟩ := hz j hj
      cases e
      cases hv
      rw [Addr.add_lit]
      exact hc)
    (fun v hv => by
      obtain ⟨j, hj, rfl⟩ := List.getElem_of_mem hv
      have := hcs j (by omega)
      rw [List.getElem?_eq_getElem hj] at this
      rw [Option.some.inj this]
      rfl)
  have R : (w.alloc (.cells cs.toArray 5)).rowIs w.heap.size 5 l (fun i => .int .u8 (Z i)) :=
    ⟨cs.toArray, Deep.blk_alloc_new _ _, by simpa using hlen, fun i hi => by simpa using hcs i hi⟩
  clear hcs hlen hz
  go_enter Tryd.func8, Tryd.ntmps8
  go_wp2
  go_ret
  exact ⟨rfl, R, (Below.refl _ _).alloc (Nat.le_refl _) _, by simp⟩

end Go.Proofs.Qxb6601335aDoor
