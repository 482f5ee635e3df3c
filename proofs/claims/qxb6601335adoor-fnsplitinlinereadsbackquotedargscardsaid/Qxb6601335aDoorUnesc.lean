/-
  resp.ZZsplitInline (9); FnUnescapeAgreesWithSplitInline (6).
-/
import Derived.Test.Qxb6601335aDoorSplit
import Derived.Deep.QuietTactic
import Derived.BigQuiet
namespace Go.Proofs.Qxb6601335aDoor
open Go.RowKit

theorem zzsplit_walk (w : World) (b o l cp : Nat) (zs : List Int) (hl : l ≤ 1099511627776) (hlc : l ≤ cp) (hzl : zs.length = l) (H : Holds8 w (some ⟨b, o, none⟩) l (fun i => zs.getD i 0)) (ev : Value) (hev : w.cell? ⟨0, 0, none⟩ = some ev) (hev2 : ev = .nilIface ∨ ∃ te pe, ev = .iface te pe) :
    Calls Tryd.prog 9 #[.slice (some ⟨b, o, none⟩) l cp] w fun e w' => SplitPost w l (splitP zs) e w' := by
  have hsp := split_walk w b o l cp zs hl hlc hzl H ev hev hev2
  clear H hev hev2 hzl
  go_enter Tryd.func9, Tryd.ntmps9
  go_wp2_with fail
  refine hsp.mono ?_
  intro e w' hp
  cases hR : splitP zs with
  | none =>
    rw [hR] at hp
    obtain ⟨hb, rfl⟩ := hp
    go_wp2
    go_ret2
    exact SplitPost.no hR rfl hb
  | some xs =>
    rw [hR] at hp
    obtain ⟨hb, h1, h2, g, GA, rfl, H⟩ := hp
    go_wp2
    go_ret2
    exact SplitPost.yes hR h1 h2 rfl H hb

/-- The line of four bytes. -/
theorem split_escape (c : Int) : splitP [34, 92, c, 34] = some [[unesc c]] := by
  have e1 : argL 5 0 [34, 92, c, 34] [] = some ([], [unesc c]) := by
    rw [argL_open (by decide) (.inl rfl), argL_esc (by split <;> rfl), argL_close_end (by decide)]
    rfl
  have e2 : skipSp [34, 92, c, 34] = [34, 92, c, 34] := skipSp_no (by decide)
  show splitL 5 [34, 92, c, 34] [] = _
  rw [splitL_go e2 e1, splitL_end rfl]
  rfl

set_option maxHeartbeats 400000 in
theorem unescape_law (c : Int) (hc : 0 ≤ c ∧ c ≤ 255) (w : World) (ev : Value) (hev : w.cell? ⟨0, 0, none⟩ = some ev) (hev2 : ev = .nilIface ∨ ∃ te pe, ev = .iface te pe) :
    Calls Tryd.prog 6 #[.int .u8 c] w fun e w' => e = .returned (.bool true) ∧ Below w.heap.size w w' := by
  have row : (w.alloc (.cells #[.int .u8 34, .int .u8 92, .int .u8 c, .int .u8 34] 5)).rowIs w.heap.size 5 4 (fun i => .int .u8 ([34, 92, c, 34].getD i 0)) :=
    ⟨_, Deep.blk_alloc_new _ _, rfl, fun i hi => by
      rcases (show i = 0 ∨ i = 1 ∨ i = 2 ∨ i = 3 by omega) with rfl | rfl | rfl | rfl <;> rfl⟩
  have H : Holds8 (w.alloc (.cells #[.int .u8 34, .int .u8 92, .int .u8 c, .int .u8 34] 5)) (some ⟨w.heap.size, 0, none⟩) 4 (fun i => [34, 92, c, 34].getD i 0) :=
    Holds8.ofRow row (fun i hi => ⟨by omega, by rw [Nat.zero_add]⟩) (fun i hi => by
      rcases (show i = 0 ∨ i = 1 ∨ i = 2 ∨ i = 3 by omega) with rfl | rfl | rfl | rfl
      · show (0 : Int) ≤ 34 ∧ (34 : Int) ≤ 255; omega
      · show (0 : Int) ≤ 92 ∧ (92 : Int) ≤ 255; omega
      · exact hc
      · show (0 : Int) ≤ 34 ∧ (34 : Int) ≤ 255; omega)
  have b0 : Below w.heap.size w (w.alloc (.cells #[.int .u8 34, .int .u8 92, .int .u8 c, .int .u8 34] 5)) := (Below.refl _ _).alloc (Nat.le_refl _) _
  have hsp := zzsplit_walk _ w.heap.size 0 4 4 [34, 92, c, 34] (by omega) (by omega) rfl H ev (cell_later b0 hev) hev2
  clear H row hev hev2
  go_enter Tryd.func6, Tryd.ntmps6
  go_wp2_with fail
  refine hsp.mono ?_
  intro e w1 hp
  rw [split_escape] at hp
  obtain ⟨hb, _, _, g, GA, rfl, HH⟩ := hp
  obtain ⟨b1, o1, e1, hc1, h8⟩ := HH 0 (by simp)
  cases e1
  obtain ⟨b2, o2, e2, hc2, _⟩ := h8 0 (by simp [lenOf])
  have e3 : GA 0 = ⟨b2, o2, none⟩ := Option.some.inj e2
  have hc1' : w1.cell? ⟨b1, o1, none⟩ = some (.slice (some (GA 0)) 1 1) := hc1
  rw [e3] at hc1'
  have hc2' : w1.cell? ⟨b2, o2, none⟩ = some (.int .u8 (unesc c)) := hc2
  have b1' := b0.trans (hb.mono b0.size)
  clear hsp HH h8 hc1 hc2 e2 e3 b0 hb
  go_wp2
  go_quiet ((go_at_call 17; exact Calls.quiet_of_same (zzunescape_any _ _)))
  go_wp2
  go_ret
  exact ⟨rfl, below_drewN b1' _⟩

end Go.Proofs.Qxb6601335aDoor
