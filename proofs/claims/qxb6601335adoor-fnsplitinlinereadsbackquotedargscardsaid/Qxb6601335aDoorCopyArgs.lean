/-
  zzCopyArgs (function 9): a deep copy, every row in a new block.
-/
import Derived.Test.Qxb6601335aDoorCopy
namespace Go.Proofs.Qxb6601335aDoor
open Go.RowKit

/-- Behind k rounds of zzCopyArgs. -/
structure CopyInv (w : World) (n : Nat) (A : Nat → Option Addr) (L : Nat → Nat) (Z : Nat → Nat → Int) (G : Nat → Nat) (k : Nat) (wr : World) : Prop where
  below : Below w.heap.size w wr
  top : wr.rowIs w.heap.size 22 n (fun r => if r < k then .slice ((A r).map fun _ => ⟨G r, 0, none⟩) (L r) (L r) else .slice none 0 0)
  rows : ∀ r, r < k → A r ≠ none → w.heap.size < G r ∧ wr.rowIs (G r) 5 (L r) (fun i => .int .u8 (Z r i))

theorem CopyInv.start (w : World) (n : Nat) (A : Nat → Option Addr) (L : Nat → Nat) (Z : Nat → Nat → Int) (G : Nat → Nat) : CopyInv w n A L Z G 0 (w.alloc (.cells (madeCells #[.slice none 0 0] n) 22)) :=
  ⟨(Below.refl _ _).alloc (Nat.le_refl _) _, (World.rowIs_made w (.slice none 0 0) n 22).congr (fun i _ => by simp), fun r hr => by omega⟩

theorem CopyInv.step_none {w : World} {n : Nat} {A : Nat → Option Addr} {L : Nat → Nat} {Z : Nat → Nat → Int} {G : Nat → Nat} {k : Nat} {wr : World} (h : CopyInv w n A L Z G k wr) (hA : A k = none) (hL : L k = 0) :
    CopyInv w n A L Z G (k + 1) (wr.setCell ⟨w.heap.size, k, none⟩ (.slice none 0 0)) := by
  refine ⟨h.below.setCell (Nat.le_refl _) _, (h.top.set k _).congr (fun i _ => ?_), fun r hr hne => ?_⟩
  · by_cases e : i = k
    · subst e; simp [hA, hL]
    · by_cases e2 : i < k
      · simp [e, e2, show i < k + 1 by omega]
      · simp [e, e2, show ¬ i < k + 1 by omega]
  · have e : r ≠ k := fun e => by subst e; exact hne hA
    obtain ⟨h1, h2⟩ := h.rows r (by omega) hne
    exact ⟨h1, h2.setOther (by simp; omega) _⟩

theorem CopyInv.step_some {w : World} {n : Nat} {A : Nat → Option Addr} {L : Nat → Nat} {Z : Nat → Nat → Int} {G : Nat → Nat} {k : Nat} {wr w1 : World} (h : CopyInv w n A L Z G k wr) (hA : A k ≠ none)
    (hb : Below wr.heap.size wr w1) (hr : w1.rowIs wr.heap.size 5 (L k) (fun i => .int .u8 (Z k i))) :
    CopyInv w n A L Z (fun r => if r = k then wr.heap.size else G r) (k + 1) (w1.setCell ⟨w.heap.size, k, none⟩ (.slice (some ⟨wr.heap.size, 0, none⟩) (L k) (L k))) := by
  have hlt := h.top.lt
  have t1 : w1.rowIs w.heap.size 22 n _ := h.top.of_block (hb.block _ hlt)
  refine ⟨(h.below.trans (hb.mono (by omega))).setCell (Nat.le_refl _) _, (t1.set k _).congr (fun i _ => ?_), fun r hr' hne => ?_⟩
  · by_cases e : i = k
    · subst e
      obtain ⟨x, hx⟩ := Option.ne_none_iff_exists'.1 hA
      simp [hx]
    · by_cases e2 : i < k
      · simp [e, e2, show i < k + 1 by omega]
      · simp [e, e2, show ¬ i < k + 1 by omega]
  · by_cases e : r = k
    · subst e
      simp only [if_true]
      exact ⟨hlt, hr.setOther (by simp; omega) _⟩
    · obtain ⟨h1, h2⟩ := h.rows r (by omega) hne
      simp only [if_neg e]
      exact ⟨h1, (h2.of_block (hb.block _ h2.lt)).setOther (by simp; omega) _⟩

theorem copyArgs_none (w : World) :
    Calls Tryd.prog 14 #[.slice none 0 0] w fun e w' => e = .returned (.slice none 0 0) ∧ w' = w := by
  have hnil := fun (w : World) => Lib.run_eql_slice_nil (P := Tryd.prog) w 25 22 none 0 0 0 0 Tryd.underlying25
  go_enter Tryd.func14, Tryd.ntmps14
  go_wp2
  go_ret
  exact ⟨rfl, rfl⟩

set_option maxHeartbeats 400000 in
theorem copyArgs_zero (w : World) (ad : Addr) (c : Nat) (A : Nat → Option Addr) (L : Nat → Nat) (Z : Nat → Nat → Int) :
    Calls Tryd.prog 14 #[.slice (some ad) 0 c] w fun e w' => e = .returned (.slice (some ⟨w.heap.size, 0, none⟩) 0 0) ∧ ∃ G, CopyInv w 0 A L Z G 0 w' := by
  have hnil := fun (w : World) => Lib.run_eql_slice_nil (P := Tryd.prog) w 25 22 (some ad) 0 c 0 0 Tryd.underlying25
  have hmk : ∀ w, (Instr.makeSlice 25 (.int .i64 0) (.int .i64 0)).run Tryd.prog w = .ok (.slice (some ⟨w.heap.size, 0, none⟩) 0 0) (w.alloc (.cells (madeCells #[.slice none 0 0] 0) 22)) := run_make_row' (P := Tryd.prog) 25 22 (.slice none 0 0) 24 Tryd.underlying25 Tryd.info22 rfl .i64 .i64 0 (by omega) (by omega)
  have R := CopyInv.start w 0 A L Z (fun _ => 0)
  go_enter Tryd.func14, Tryd.ntmps14
  go_wp2
  refine wp_loop_rounds 1 ?_
  rw [rounds_succ]
  go_wp2
  go_ret
  exact ⟨rfl, _, R⟩

set_option maxHeartbeats 400000 in
theorem copyArgs_some (w : World) (b o n c : Nat) (A : Nat → Option Addr) (L C : Nat → Nat) (Z : Nat → Nat → Int) (hn : n ≤ 65536) (H : Holds88 w (some ⟨b, o, none⟩) n A L C Z) (hL : ∀ r, r < n → L r ≤ 1048576) (hA : ∀ r, r < n → A r = none → L r = 0 ∧ C r = 0) :
    Calls Tryd.prog 14 #[.slice (some ⟨b, o, none⟩) n c] w fun e w' => e = .returned (.slice (some ⟨w.heap.size, 0, none⟩) n n) ∧ ∃ G, CopyInv w n A L Z G n w' := by
  have hnil := fun (w : World) => Lib.run_eql_slice_nil (P := Tryd.prog) w 25 22 (some ⟨b, o, none⟩) n c 0 0 Tryd.underlying25
  have hmk := run_make_row' (P := Tryd.prog) 25 22 (.slice none 0 0) 24 Tryd.underlying25 Tryd.info22 rfl .i64 .i64 n (by omega) (by omega)
  have R := CopyInv.start w n A L Z (fun _ => 0)
  go_enter Tryd.func14, Tryd.ntmps14
  go_wp2
  clear hnil hmk
  go_loopw [4] (fun i wr => ∃ k G, k ≤ n ∧ i = .int .i64 (k : Nat) ∧ CopyInv w n A L Z G k wr) (fun i _ => n - (intOf i).toNat)
  case atStart => exact ⟨0, fun _ => 0, Nat.zero_le _, rfl, R⟩
  case round =>
    obtain ⟨k, G, hk, rfl, I⟩ := hrel
    clear R
    by_cases hlt : k < n
    · obtain ⟨b', o', e, hcell, h8⟩ := H k hlt
      cases e
      have hc : wr.cell? ⟨b, o + k, none⟩ = some (.slice (A k) (L k) (C k)) := (I.below.cell (by exact lt_of_cell hcell)).trans hcell
      have h8' : Holds8 wr (A k) (L k) (Z k) := h8.below I.below
      have hLk := hL k hlt
      have hAk := hA k hlt
      have hsz := I.top.lt
      clear hcell h8 hL hA H
      cases hq : A k with
      | none =>
        obtain ⟨hL0, hC0⟩ := hAk hq
        rw [hq, hL0, hC0] at hc
        have hct : ∃ v, wr.cell? ⟨w.heap.size, k, none⟩ = some v := ⟨_, I.top.cell hlt⟩
        obtain ⟨v0, hct⟩ := hct
        have hfz : wr.frozen? ⟨w.heap.size, k, none⟩ = false := I.top.frozen k
        have S := I.step_none hq hL0
        clear hAk hq hL0 hC0 h8' I hLk
        go_wp2_with (go_at_call 8; refine (copyBytes_none _).mono ?_; rintro e w' ⟨rfl, rfl⟩)
        go_roundw
        case rel => exact ⟨k + 1, G, by omega, by go_num, S⟩
        case measure => simp [intOf]; omega
      | some ad =>
        rw [hq] at hc h8'
        go_wp2_with fail
        refine (copyBytes_some _ ad (L k) (C k) (Z k) hLk h8').mono ?_
        rintro e w1 ⟨rfl, hr1, hb1, hs1⟩
        have hct : ∃ v, w1.cell? ⟨w.heap.size, k, none⟩ = some v := ⟨_, cell_later hb1 (I.top.cell hlt)⟩
        obtain ⟨v0, hct⟩ := hct
        have hfz : w1.frozen? ⟨w.heap.size, k, none⟩ = false := (hb1.frozen hsz).trans (I.top.frozen k)
        have S := I.step_some (by rw [hq]; simp) hb1 hr1
        clear hAk hq h8' I hLk hr1 hb1 hs1 hc
        go_wp2
        go_roundw
        case rel => exact ⟨k + 1, _, by omega, by go_num, S⟩
        case measure => simp [intOf]; omega
    · obtain rfl : k = n := by omega
      go_wp2
      go_ret
      exact ⟨rfl, _, I⟩

theorem copyArgs_any (w : World) (ad : Addr) (n c : Nat) (A : Nat → Option Addr) (L C : Nat → Nat) (Z : Nat → Nat → Int) (hn : n ≤ 65536) (H : Holds88 w (some ad) n A L C Z) (hL : ∀ r, r < n → L r ≤ 1048576) (hA : ∀ r, r < n → A r = none → L r = 0 ∧ C r = 0) :
    Calls Tryd.prog 14 #[.slice (some ad) n c] w fun e w' => e = .returned (.slice (some ⟨w.heap.size, 0, none⟩) n n) ∧ ∃ G, CopyInv w n A L Z G n w' := by
  by_cases h : n = 0
  · subst h
    exact copyArgs_zero w ad c A L Z
  · obtain ⟨b, o, e, _⟩ := H 0 (by omega)
    cases e
    exact copyArgs_some w b o n c A L C Z hn H hL hA

/-- What zzCopyArgs hands back, read as a slice of byte slices. -/
theorem CopyInv.holds {w : World} {n : Nat} {A : Nat → Option Addr} {L : Nat → Nat} {Z : Nat → Nat → Int} {G : Nat → Nat} {wr : World} (I : CopyInv w n A L Z G n wr) (hA : ∀ r, r < n → A r = none → L r = 0) (hz : ∀ r, r < n → ∀ i, i < L r → 0 ≤ Z r i ∧ Z r i ≤ 255) :
    Holds88 wr (some ⟨w.heap.size, 0, none⟩) n (fun r => (A r).map fun _ => ⟨G r, 0, none⟩) L L Z := by
  intro r hr
  refine ⟨w.heap.size, 0, rfl, by rw [Nat.zero_add, I.top.cell hr, if_pos hr], ?_⟩
  cases hq : A r with
  | none => intro i hi; have := hA r hr hq; omega
  | some ad =>
    have R := (I.rows r hr (by rw [hq]; simp)).2
    have goal : Holds8 wr (some ⟨G r, 0, none⟩) (L r) (Z r) := Holds8.ofRow R (fun i hi => ⟨by omega, by rw [Nat.zero_add]⟩) (hz r hr)
    dsimp only
    rw [hq]
    exact goal

end Go.Proofs.Qxb6601335aDoor
