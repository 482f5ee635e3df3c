/-
  FnSplitInlineMatchesAutomaton (3): splitInline and the automaton answer alike.
-/
import Derived.Test.Qxb6601335aDoorUnesc
import Derived.Test.Qxb6601335aDoorAuto
import Derived.Test.Qxb6601335aDoorLaid
namespace Go.Proofs.Qxb6601335aDoor
open Go.RowKit

/-- Some bool. -/
def AnyBool (e : Ending) : Prop := ∃ bb, e = .returned (.bool bb)
theorem AnyBool.mk {v : Value} {bb : Bool} (h : v = .bool bb) : AnyBool (.returned v) := ⟨bb, by rw [h]⟩

theorem bytesM_any (w : World) (ao : Option Addr) (l c : Nat) : Calls Tryd.prog 7 #[.slice ao l c] w fun e w' => AnyBool e ∧ w = w' := by
  by_cases h : 1048576 < l
  · go_enter Tryd.func7, Tryd.ntmps7
    go_wp2
    go_ret
    exact ⟨AnyBool.mk rfl, rfl⟩
  · go_enter Tryd.func7, Tryd.ntmps7
    go_wp2
    go_ret
    exact ⟨AnyBool.mk rfl, rfl⟩

set_option maxHeartbeats 400000 in
set_option maxRecDepth 100000 in
theorem split_nil (w : World) : Calls Tryd.prog 18 #[.slice none 0 0] w fun e w' => ∃ g : Addr, e = .returned (.tuple #[.slice (some g) 0 0, .bool true]) ∧ Below w.heap.size w w' := by
  go_enter Tryd.func18, Tryd.ntmps18
  go_wp2
  refine wp_loop_rounds 1 ?_
  rw [rounds_succ]
  go_wp2
  go_step3
  go_wp2
  refine wp_loop_rounds 1 ?_
  rw [rounds_succ]
  go_wp2_with fail
  refine (clone_zero _ _ _ (fun _ => 0) (fun _ _ => 0)).mono ?_
  rintro e w1 ⟨rfl, I⟩
  have hb := I.below
  clear I
  go_wp2
  try rw [Exit.noGoto_ret]
  go_ret2
  exact ⟨_, rfl, hb⟩

set_option maxHeartbeats 400000 in
theorem zzsplit_nil (w : World) : Calls Tryd.prog 9 #[.slice none 0 0] w fun e w' => ∃ g : Addr, e = .returned (.tuple #[.slice (some g) 0 0, .bool true]) ∧ Below w.heap.size w w' := by
  have hsp := split_nil w
  go_enter Tryd.func9, Tryd.ntmps9
  go_wp2_with fail
  refine hsp.mono ?_
  rintro e w' ⟨g, rfl, hb⟩
  go_wp2
  go_ret2
  exact ⟨g, rfl, hb⟩

set_option maxHeartbeats 400000 in
set_option maxRecDepth 100000 in
theorem auto_nil (w : World) : Calls Tryd.prog 10 #[.slice none 0 0] w fun e w' => e = .returned (.tuple #[.slice none 0 0, .bool true]) ∧ w' = w := by
  go_enter Tryd.func10, Tryd.ntmps10
  go_wp2
  refine wp_loop_rounds 1 ?_
  rw [rounds_succ]
  go_wp2
  go_ret2
  exact ⟨rfl, rfl⟩

set_option maxHeartbeats 400000 in
theorem match_nil (w : World) : Calls Tryd.prog 3 #[.slice none 0 0] w fun e w' => e = .returned (.bool true) ∧ Below w.heap.size w w' := by
  go_enter Tryd.func3, Tryd.ntmps3
  go_wp2_with fail
  refine (bytesM_any _ _ _ _).mono ?_
  rintro e w1 ⟨⟨bb, rfl⟩, rfl⟩
  cases bb
  · go_wp2
    go_ret
    exact ⟨rfl, Below.refl _ _⟩
  go_wp2_with fail
  refine (copyBytes_none _).mono ?_
  rintro e w1 ⟨rfl, hw⟩
  obtain rfl := hw.symm
  clear hw
  go_wp2_with fail
  refine (zzsplit_nil _).mono ?_
  rintro e w1 ⟨g, rfl, hb⟩
  go_wp2_with fail
  refine (auto_nil _).mono ?_
  rintro e w2 ⟨rfl, hw⟩
  obtain rfl := hw.symm
  clear hw
  go_wp2_with fail
  refine (laid_zero _ _ _ _ _).mono ?_
  rintro e w2 ⟨rfl, m, rfl⟩
  go_wp2
  go_ret
  exact ⟨rfl, below_drewN hb _⟩

set_option maxHeartbeats 400000 in
theorem match_some (w : World) (ad : Addr) (l c : Nat) (zs : List Int) (hzl : zs.length = l) (H : Holds8 w (some ad) l (fun i => zs.getD i 0)) (ev : Value) (hev : w.cell? ⟨0, 0, none⟩ = some ev) (hev2 : ev = .nilIface ∨ ∃ te pe, ev = .iface te pe) :
    Calls Tryd.prog 3 #[.slice (some ad) l c] w fun e w' => e = .returned (.bool true) ∧ Below w.heap.size w w' := by
  have HE : Hid (w.cell? ⟨0, 0, none⟩ = some ev) := hev
  have HE2 : Hid (ev = .nilIface ∨ ∃ te pe, ev = .iface te pe) := hev2
  have HZ : Hid (zs.length = l) := hzl
  clear hev hev2 hzl
  by_cases hbig : 1048576 < l
  · go_enter Tryd.func3, Tryd.ntmps3
    go_wp2_with fail
    refine (bytesM_any _ _ _ _).mono ?_
    rintro e w1 ⟨⟨bb, rfl⟩, rfl⟩
    cases bb
    · go_wp2
      go_ret
      exact ⟨rfl, Below.refl _ _⟩
    · go_wp2
      go_ret
      exact ⟨rfl, Below.refl _ _⟩
  · go_enter Tryd.func3, Tryd.ntmps3
    go_wp2_with fail
    refine (bytesM_any _ _ _ _).mono ?_
    rintro e w1 ⟨⟨bb, rfl⟩, rfl⟩
    cases bb
    · go_wp2
      go_ret
      exact ⟨rfl, Below.refl _ _⟩
    go_wp2_with fail
    refine (copyBytes_some _ ad l c (fun i => zs.getD i 0) (by omega) H).mono ?_
    rintro e w1 ⟨rfl, row, b1, hs1⟩
    have H1 : Holds8 w1 (some ⟨w.heap.size, 0, none⟩) l (fun i => zs.getD i 0) := Holds8.ofRow row (fun i hi => ⟨by omega, by rw [Nat.zero_add]⟩) (fun i hi => by
      obtain ⟨_, _, _, _, h⟩ := H i hi
      exact h)
    have hev1 := cell_later b1 HE.out
    clear H row hs1
    go_wp2_with fail
    refine (zzsplit_walk _ w.heap.size 0 l l zs (by omega) (Nat.le_refl _) HZ.out H1 ev hev1 HE2.out).mono ?_
    intro e w2 hp
    cases hR : splitP zs with
    | none =>
      rw [hR] at hp
      obtain ⟨b2, rfl⟩ := hp
      have H2 := H1.below b2
      have b12 := b1.trans (b2.mono b1.size)
      have HA : Hid (autoRun zs 0 0 [] [] = none) := by rw [← splitP_auto]; exact hR
      have hnil := fun (w : World) => Lib.run_eql_slice_nil (P := Tryd.prog) w 25 22 none 0 0 0 0 Tryd.underlying25
      clear hR H1 b1 hev1 b2
      go_wp2_with fail
      refine (auto_walk _ w.heap.size 0 l l zs (by omega) HZ.out H2).mono ?_
      intro e w3 hq
      rw [HA.out] at hq
      obtain ⟨b3, rfl⟩ := hq
      have b13 := b12.trans (b3.mono b12.size)
      clear H2 b12 b3 HA
      go_wp2
      go_ret
      exact ⟨rfl, b13⟩
    | some xs =>
      rw [hR] at hp
      obtain ⟨b2, ht, hn, g, GA, rfl, HG⟩ := hp
      have H2 := H1.below b2
      have b12 := b1.trans (b2.mono b1.size)
      have HA : Hid (autoRun zs 0 0 [] [] = some xs) := by rw [← splitP_auto]; exact hR
      clear hR H1 b1 hev1 b2
      go_wp2_with fail
      refine (auto_walk _ w.heap.size 0 l l zs (by omega) HZ.out H2).mono ?_
      intro e w3 hq
      rw [HA.out] at hq
      obtain ⟨b3, va, rfl, J⟩ := hq
      obtain ⟨ao, cap, A, C, hv, HW, _⟩ := J.holds
      subst hv
      have b13 := b12.trans (b3.mono b12.size)
      have HG3 := HG.below b3
      have hL : ∀ r, r < xs.length → lenOf xs r ≤ 1048576 := fun r hr => by
        have := sumTo_step (lenOf xs) hr
        have e : tot xs = sumTo (lenOf xs) xs.length := rfl
        omega
      clear H2 b12 b3 HA J HG
      go_wp2_with fail
      refine (laid_any _ g ao xs.length _ _ GA A (lenOf xs) C (byteOf xs) (by omega) hL HG3 HW).mono ?_
      rintro e w4 ⟨rfl, m, rfl⟩
      go_wp2
      go_ret
      exact ⟨rfl, below_drewN b13 _⟩

end Go.Proofs.Qxb6601335aDoor
