/-
  Rows.FnSplitInlineReadsBackQuotedArgsCardSaid: the row, then the tied card.
-/
import Derived.Test.Qxb6601335aDoorRead
import Derived.Test.Qxb6601335aDoorLaid2
import Derived.Test.Qxb6601335aDoorTie
import Derived.Test.Qxb6601335aDoorCards
import Derived.ChangeOld
import Derived.Deep.Matrix
namespace Go.Proofs.Qxb6601335aDoor.fnSplitInlineReadsBackQuotedArgs
open Go.ChangeShapes Go.WideShapes Go.ChangeAt Go.RowKit
set_option linter.unusedVariables false

/-- What the reader gives of a slice of byte slices, in the walk's words. -/
theorem holds88_of {w : World} {a : Addr} {len cap : Nat} {A : Nat → Option Addr} {L C : Nat → Nat} {Z : Nat → List Int} (hl : len ≤ cap)
    (hrow : ∀ r, r < cap → w.cell? (a.add r) = some (.slice (A r) (L r) (C r)) ∧ L r ≤ C r ∧ C r ≤ maxLen ∧ (Z r).length = C r ∧ (∀ n ∈ Z r, (Lit.int .u8 n).wf = true) ∧ (A r = none → C r = 0) ∧
        ∀ a', A r = some a' → 0 ≤ a'.block ∧ ∀ c, c < C r → w.cell? (a'.add c) = some (.int .u8 ((Z r).getD c 0))) :
    Holds88 w (some a) len A L C (fun r i => (Z r).getD i 0) ∧ ∀ r, r < len → A r = none → L r = 0 ∧ C r = 0 := by
  refine ⟨fun r hr => ?_, fun r hr h => ?_⟩
  · have hspot : a.spot = none := by simpa [Addr.add] using World.cell?_spot (hrow 0 (by omega)).1
    obtain ⟨b, o, spot⟩ := a
    simp only at hspot
    subst hspot
    obtain ⟨h1, h2, h3, h4, h5, h6, h7⟩ := hrow r (by omega)
    rw [add_plain] at h1
    refine ⟨b, o, rfl, h1, fun i hi => ?_⟩
    cases hq : A r with
    | none => have := h6 hq; omega
    | some a' =>
      obtain ⟨_, h8⟩ := h7 a' hq
      have hs' : a'.spot = none := by simpa [Addr.add] using World.cell?_spot (h8 0 (by omega))
      obtain ⟨b', o', spot'⟩ := a'
      simp only at hs'
      subst hs'
      have h9 := h8 i (by omega)
      rw [add_plain] at h9
      have hm : (Z r).getD i 0 ∈ Z r := by
        rw [List.getD_eq_getElem?_getD, List.getElem?_eq_getElem (by omega)]
        exact List.getElem_mem _
      have hb := bounds_u8 (h5 _ hm)
      exact ⟨b', o', rfl, h9, hb.1, hb.2⟩
  · obtain ⟨_, h2, _, _, _, h6, _⟩ := hrow r (by omega)
    have := h6 h
    omega

set_option maxRecDepth 100000 in
theorem lifted (os : Os) (started : os.Started) (H : Type) (enc : TypeId × Value → H) :
    ReturnsInHanded {} Tryd.checked os 4 .any (fun w args => (Rows.fnSplitInlineReadsBackQuotedArgsSpec.pre enc Tryd.prog Tryd.f4 [] false w args ∧ laidMetH Tryd.prog Rows.fnUnescapeAgreesWithSplitInlineRow.laid w) ∧ sizedMet enc Tryd.prog Tryd.f4 (OpenSpec.ofChange Rows.fnSplitInlineReadsBackQuotedArgsSpec) false w args)
      (Rows.fnSplitInlineReadsBackQuotedArgsSpec.post enc Tryd.prog Tryd.f4 false true false false) := by
  refine returnsInHanded_of_change_and (C := Tryd.checked) (X := fun w _ => laidMetH Tryd.prog Rows.fnUnescapeAgreesWithSplitInlineRow.laid w) (fun _ _ _ hh h => h.of_heap hh) own started (by kernel_rfl) Tryd.func4
    (ChangeSpec.witness_shaped (enc := enc) (C := Tryd.checked) (os := os) (X := fun w _ => laidMetH Tryd.prog Rows.fnUnescapeAgreesWithSplitInlineRow.laid w) false (World.doorLaid Tryd.prog 400 os) #[.slice none 0 0] 8 rfl (World.shaped_of_RefB (by kernel_rfl) (by kernel_rfl)) (by kernel_rfl) (by kernel_rfl) (by kernel_rfl) (door_met os _)) ?_
  intro W base args ds gs before hval0 hW _ _ hL _
  have hval : ∀ (j : Nat) t v, Tryd.f4.params[j]? = some t → args[j]? = some v → Value.okWide Tryd.prog W .any base t v := hval0
  have hW' := hW
  obtain ⟨p, q, hA0, hV, rfl, hfz, hnd⟩ := hW
  have hA : DataW.TrodAll enc Tryd.prog W 0 (fun _ => true) true Tryd.f4.params.toList args.toList ds p := hA0
  rw [Tryd.params4] at hA hval
  obtain ⟨v0, vs0, d0, ds0, p0, q0, hargs, rfl, rfl, h0, r0⟩ := trodAll_cons hA
  obtain ⟨rfl, rfl, rfl⟩ := trodAll_nil r0
  obtain rfl : args = #[v0] := by cases args; simp_all
  obtain ⟨rfl, rfl⟩ := trodVars_none hV
  obtain ⟨a0, len0, cap0, rfl⟩ := okWide_slice Tryd.underlying25 (hval 0 25 v0 rfl rfl)
  have k0 := h0
  have lt0 : ∀ x ∈ p0, x.block < W.heap.size := by obtain ⟨m, hm⟩ := k0; exact DataW.trod_lt m _ _ _ hm
  obtain ⟨te, pe, hev⟩ := errSyntax_cell hL
  have walk : Calls Tryd.prog 4 #[.slice a0 len0 cap0] W fun e w' => e = .returned (.bool true) ∧ Below W.heap.size W w' := by
    obtain ⟨fuel, hf⟩ := h0
    rcases Deep.open_int_rows Tryd.underlying25 Tryd.underlying22 Tryd.underlying5 (by kernel_rfl) (by kernel_rfl) hf with ⟨hcs, _⟩ | ⟨a, len, cap, A, L, C, Z, hcs, _, hl, hm, _, hrow⟩
    · simp [Value.cells] at hcs
      obtain ⟨rfl, rfl, rfl⟩ := hcs
      exact read_nil W
    · simp [Value.cells] at hcs
      obtain ⟨rfl, rfl, rfl⟩ := hcs
      obtain ⟨h1, h2⟩ := holds88_of hl hrow
      exact read_some W a _ _ A L C _ h1 h2 _ hev (.inr ⟨te, pe, rfl⟩)
  clear hA0 hval0
  refine walk.mono fun e W' ⟨he, bel⟩ => ?_
  subst he
  exact ⟨_, rfl, _, _, _, [], _, [], hW', trodAll_mk1 (shut_bool Tryd.underlying4 _), (trodAll_cons_mk (Below.trod laidOut (by kernel_rfl) (of_decide_eq_true (by kernel_rfl)) k0 bel lt0) trodAll_mk0), rfl, bel.frame _, fun h => by cases h⟩

theorem over : Rows.FnSplitInlineReadsBackQuotedArgsSaid :=
  OpenClaim.holds_of_wide 4 Tryd.f4 rfl rfl rfl rfl rfl rfl rfl ⟨rfl, rfl, rfl, rfl, rfl⟩ rfl rfl rfl rfl rfl (by kernel_rfl) Tryd.func4 (by kernel_rfl)
    (of_decide_eq_true (by kernel_rfl)) (by unfold Func.isWrapper; first | (rw [if_pos (by decide +kernel)]; kernel_rfl) | (rw [if_neg (by decide +kernel)]; exact ⟨rfl, rfl⟩))
    (fun os started H enc _ => lifted os started H enc)

/-- The statement: the tied card. -/
theorem proved : Rows.FnSplitInlineReadsBackQuotedArgsCardSaid :=
  Claim7.holds_tied_plain_at .later [] [.data, .data, .data, .sentinel, .sentinel] true Rows.fnSplitInlineReadsBackQuotedArgsCard.stood.harness true
    over (fun _ h => by cases h) (by kernel_rfl) (fun _ h => by cases h) fnSplitInlineReadsBackQuotedArgs_row_tie rfl ⟨rfl, rfl⟩ (by kernel_rfl) rfl
    (fun f fn hf hfn => by
      obtain rfl : f = 4 := Option.some.inj ((show Tryd.prog.funcNamed Rows.fnSplitInlineReadsBackQuotedArgsRow.func = some 4 by kernel_rfl).symm.trans hf) |>.symm
      obtain rfl : fn = Tryd.f4 := (Option.some.inj (Tryd.func4.symm.trans hfn)).symm
      exact ⟨by kernel_rfl, fun j t ht => by
        rw [Tryd.params4] at ht
        have hm : t ∈ [25] := by simpa using Array.mem_of_getElem? ht
        have hall : ([25].all fun u => !Tryd.prog.wantsStandIn u) = true := by kernel_rfl
        exact (show Tryd.prog.wantsStandIn t = false by simpa using List.all_eq_true.1 hall t hm)⟩)
    (by kernel_rfl)

end Go.Proofs.Qxb6601335aDoor.fnSplitInlineReadsBackQuotedArgs
