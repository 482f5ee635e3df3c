/-
  splitInline's rounds as relations between places in the line: one lemma a way.
-/
import Derived.Test.Qxb6601335aDoorSplitP
import Derived.Test.Qxb6601335aDoorMem
namespace Go.Proofs.Qxb6601335aDoor

theorem drop_at {zs : List Int} {k : Nat} (h : k < zs.length) : zs.drop k = zs.getD k 0 :: zs.drop (k + 1) := by
  rw [List.drop_eq_getElem_cons h]
  simp [List.getD, List.getElem?_eq_getElem h]

theorem drop_end {zs : List Int} {k : Nat} (h : zs.length ≤ k) : zs.drop k = [] := List.drop_eq_nil_of_le h

/-- Where the loop over one argument stands: begun at place k2, now at k3, the quote q open, the bytes 'arg' gathered. -/
structure ArgRel (zs : List Int) (k2 k3 : Nat) (q : Int) (arg : List Int) : Prop where
  lo : k2 ≤ k3
  hi : k3 ≤ zs.length
  len : arg.length + k2 ≤ k3
  quote : q = 0 ∨ q = 34 ∨ q = 39
  runs : ∃ f, zs.length + 1 ≤ k3 + f ∧ argL f q (zs.drop k3) arg = argL (zs.length - k2 + 1) 0 (zs.drop k2) []

theorem ArgRel.start {zs : List Int} {k2 : Nat} (h : k2 ≤ zs.length) : ArgRel zs k2 k2 0 [] :=
  ⟨Nat.le_refl _, h, by simp, .inl rfl, zs.length - k2 + 1, by omega, rfl⟩

/-- What the loop comes to. -/
def argEnd (zs : List Int) (k2 : Nat) : Option (List Int × List Int) := argL (zs.length - k2 + 1) 0 (zs.drop k2) []

section
variable {zs : List Int} {k2 k : Nat} {q : Int} {arg : List Int}

theorem ArgRel.step {k' : Nat} {q' : Int} {x : List Int} (h : ArgRel zs k2 k q arg) (hk : k < k') (hk' : k' ≤ zs.length) (hx : x.length + k ≤ k') (hq : q' = 0 ∨ q' = 34 ∨ q' = 39)
    (e : ∀ f, argL (f + 1) q (zs.drop k) arg = argL f q' (zs.drop k') (arg ++ x)) : ArgRel zs k2 k' q' (arg ++ x) := by
  obtain ⟨f, hf, hr⟩ := h.runs
  have := h.len
  have := h.lo
  have := h.hi
  obtain ⟨g, rfl⟩ : ∃ g, f = g + 1 := ⟨f - 1, by omega⟩
  exact ⟨by omega, hk', by simp; omega, hq, g, by omega, by rw [← e]; exact hr⟩

theorem ArgRel.ends {R : Option (List Int × List Int)} (h : ArgRel zs k2 k q arg) (e : ∀ f, argL (f + 1) q (zs.drop k) arg = R) : argEnd zs k2 = R := by
  obtain ⟨f, hf, hr⟩ := h.runs
  have := h.hi
  obtain ⟨g, rfl⟩ : ∃ g, f = g + 1 := ⟨f - 1, by omega⟩
  exact hr.symm.trans (e g)

theorem ArgRel.open (h : ArgRel zs k2 k 0 arg) (hk : k < zs.length) (hs : isSp (zs.getD k 0) = false) (hq : zs.getD k 0 = 34 ∨ zs.getD k 0 = 39) : ArgRel zs k2 (k + 1) (zs.getD k 0) arg := by
  have := h.step (x := []) (k' := k + 1) (q' := zs.getD k 0) (by omega) (by omega) (by simp) (.inr hq) (fun f => by rw [drop_at hk, argL_open hs hq, List.append_nil])
  rwa [List.append_nil] at this

theorem ArgRel.bare (h : ArgRel zs k2 k 0 arg) (hk : k < zs.length) (hs : isSp (zs.getD k 0) = false) (h1 : zs.getD k 0 ≠ 34) (h2 : zs.getD k 0 ≠ 39) : ArgRel zs k2 (k + 1) 0 (arg ++ [zs.getD k 0]) :=
  h.step (by omega) (by omega) (by simp; omega) (.inl rfl) (fun f => by rw [drop_at hk, argL_bare hs h1 h2])

theorem ArgRel.end0 (h : ArgRel zs k2 k 0 arg) (hk : zs.length ≤ k) : argEnd zs k2 = some (zs.drop k, arg) :=
  h.ends fun f => by rw [drop_end hk, argL_end0]

theorem ArgRel.sp (h : ArgRel zs k2 k 0 arg) (hk : k < zs.length) (hs : isSp (zs.getD k 0) = true) : argEnd zs k2 = some (zs.drop k, arg) :=
  h.ends fun f => by rw [drop_at hk, argL_sp hs]

theorem ArgRel.endq (h : ArgRel zs k2 k q arg) (hq : q ≠ 0) (hk : zs.length ≤ k) : argEnd zs k2 = none :=
  h.ends fun f => by rw [drop_end hk, argL_endq hq]

theorem ArgRel.close_end (h : ArgRel zs k2 k q arg) (hq : q ≠ 0) (hk : k < zs.length) (hc : zs.getD k 0 = q) (hk1 : zs.length ≤ k + 1) : argEnd zs k2 = some (zs.drop (k + 1), arg) :=
  h.ends fun f => by rw [drop_at hk, hc, drop_end hk1, argL_close_end hq]

theorem ArgRel.close (h : ArgRel zs k2 k q arg) (hq : q ≠ 0) (hk : k + 1 < zs.length) (hc : zs.getD k 0 = q) (hs : isSp (zs.getD (k + 1) 0) = true) : argEnd zs k2 = some (zs.drop (k + 1), arg) :=
  h.ends fun f => by rw [drop_at (by omega : k < zs.length), hc, drop_at hk, argL_close hq hs]

theorem ArgRel.close_bad (h : ArgRel zs k2 k q arg) (hq : q ≠ 0) (hk : k + 1 < zs.length) (hc : zs.getD k 0 = q) (hs : isSp (zs.getD (k + 1) 0) = false) : argEnd zs k2 = none :=
  h.ends fun f => by rw [drop_at (by omega : k < zs.length), hc, drop_at hk, argL_close_bad hq hs]

theorem hex2_at {j : Nat} (h : j + 1 < zs.length) : hex2 (zs.drop j) = hex2 [zs.getD j 0, zs.getD (j + 1) 0] := by
  rw [drop_at (by omega : j < zs.length), drop_at h]
  rfl

theorem hex2_short {j : Nat} (h : zs.length ≤ j + 1) : hex2 (zs.drop j) = none := by
  by_cases hj : j < zs.length
  · rw [drop_at hj, drop_end h]
    rfl
  · rw [drop_end (by omega)]
    rfl

theorem ArgRel.hex {b : Int} (h : ArgRel zs k2 k 34 arg) (hk : k + 3 < zs.length) (hc : zs.getD k 0 = 92) (hd : zs.getD (k + 1) 0 = 120) (hb : hex2 [zs.getD (k + 2) 0, zs.getD (k + 3) 0] = some b) : ArgRel zs k2 (k + 4) 34 (arg ++ [b]) :=
  h.step (by omega) (by omega) (by simp; omega) (.inr (.inl rfl)) (fun f => by
    rw [drop_at (by omega : k < zs.length), hc, drop_at (by omega : k + 1 < zs.length), hd, argL_hex (b := b) (by rw [hex2_at (by omega)]; exact hb), List.drop_drop])

theorem ArgRel.esc (h : ArgRel zs k2 k 34 arg) (hk : k + 1 < zs.length) (hc : zs.getD k 0 = 92) (hd : (if zs.getD (k + 1) 0 = 120 then hex2 (zs.drop (k + 2)) else none) = none) : ArgRel zs k2 (k + 2) 34 (arg ++ [unesc (zs.getD (k + 1) 0)]) :=
  h.step (by omega) (by omega) (by simp; omega) (.inr (.inl rfl)) (fun f => by
    rw [drop_at (by omega : k < zs.length), hc, drop_at hk, argL_esc hd])

theorem ArgRel.sq (h : ArgRel zs k2 k 39 arg) (hk : k + 1 < zs.length) (hc : zs.getD k 0 = 92) (hd : zs.getD (k + 1) 0 = 39) : ArgRel zs k2 (k + 2) 39 (arg ++ [39]) :=
  h.step (by omega) (by omega) (by simp; omega) (.inr (.inr rfl)) (fun f => by
    rw [drop_at (by omega : k < zs.length), hc, drop_at hk, hd, argL_sq])

/-- In a quote: any byte that is neither the quote's end nor an escape stands for itself. -/
theorem ArgRel.plain (h : ArgRel zs k2 k q arg) (hq : q ≠ 0) (hk : k < zs.length) (hc : zs.getD k 0 ≠ q) (hb : zs.getD k 0 = 92 → (zs.length ≤ k + 1 ∨ (q = 39 ∧ zs.getD (k + 1) 0 ≠ 39))) : ArgRel zs k2 (k + 1) q (arg ++ [zs.getD k 0]) :=
  h.step (by omega) (by omega) (by simp; omega) h.quote (fun f => by
    rw [drop_at hk]
    by_cases h92 : zs.getD k 0 = 92
    · rw [h92]
      rcases h.quote with rfl | rfl | rfl
      · exact absurd rfl hq
      · rcases hb h92 with h1 | ⟨h1, _⟩
        · rw [drop_end h1, argL_esc_end]
        · omega
      · by_cases h1 : zs.length ≤ k + 1
        · rw [drop_end h1, argL_sq_end]
        · rcases hb h92 with h2 | ⟨_, h2⟩
          · omega
          · rw [drop_at (by omega : k + 1 < zs.length), argL_sq_not h2]
    · rw [argL_plain hq hc h92])
end

/-- The bytes of all arguments together. -/
def tot (done : List (List Int)) : Nat := sumTo (fun r => (done.getD r []).length) done.length

theorem sumTo_congr {f g : Nat → Nat} {n : Nat} (h : ∀ r, r < n → f r = g r) : sumTo f n = sumTo g n := by
  induction n with
  | zero => rfl
  | succ n ih => simp only [sumTo]; rw [ih (fun r hr => h r (by omega)), h n (by omega)]

theorem tot_snoc (done : List (List Int)) (arg : List Int) : tot (done ++ [arg]) = tot done + arg.length := by
  unfold tot
  rw [List.length_append]
  show sumTo _ (done.length + 1) = _
  simp only [sumTo]
  rw [sumTo_congr (g := fun r => (done.getD r []).length) (fun r hr => by simp [List.getD, List.getElem?_append_left hr])]
  simp [List.getD]

/-- Where the loop over the arguments stands. -/
structure SplitRel (zs : List Int) (k : Nat) (done : List (List Int)) : Prop where
  hi : k ≤ zs.length
  cnt : done.length ≤ k
  bytes : tot done ≤ k
  runs : ∃ f, zs.length + 1 ≤ k + f ∧ splitL f (zs.drop k) done = splitP zs

theorem SplitRel.start (zs : List Int) : SplitRel zs 0 [] := ⟨Nat.zero_le _, Nat.zero_le _, by simp [tot, sumTo], zs.length + 1, by omega, rfl⟩

section
variable {zs : List Int} {k k2 : Nat} {done : List (List Int)}
theorem SplitRel.fin (h : SplitRel zs k done) (hs : skipSp (zs.drop k2) = skipSp (zs.drop k)) (hk : zs.length ≤ k2) : splitP zs = some done := by
  obtain ⟨f, hf, hr⟩ := h.runs
  have := h.hi
  obtain ⟨g, rfl⟩ : ∃ g, f = g + 1 := ⟨f - 1, by omega⟩
  rw [← hr, splitL_end (by rw [← hs, drop_end hk]; rfl)]

theorem SplitRel.skip_to (hs : skipSp (zs.drop k2) = skipSp (zs.drop k)) (hk : k2 < zs.length) (hc : isSp (zs.getD k2 0) = false) : skipSp (zs.drop k) = zs.getD k2 0 :: zs.drop (k2 + 1) := by
  rw [← hs, drop_at hk, skipSp_no hc]

theorem argEnd_eq (hk : k2 < zs.length) : argL ((zs.drop (k2 + 1)).length + 2) 0 (zs.getD k2 0 :: zs.drop (k2 + 1)) [] = argEnd zs k2 := by
  unfold argEnd
  rw [← drop_at hk, List.length_drop]
  congr 1
  omega

theorem SplitRel.bad (h : SplitRel zs k done) (hs : skipSp (zs.drop k2) = skipSp (zs.drop k)) (hk : k2 < zs.length) (hc : isSp (zs.getD k2 0) = false) (he : argEnd zs k2 = none) : splitP zs = none := by
  obtain ⟨f, hf, hr⟩ := h.runs
  have := h.hi
  obtain ⟨g, rfl⟩ : ∃ g, f = g + 1 := ⟨f - 1, by omega⟩
  rw [← hr, splitL_bad (SplitRel.skip_to hs hk hc) (by rw [argEnd_eq hk]; exact he)]

theorem SplitRel.next {k3 : Nat} {arg : List Int} (h : SplitRel zs k done) (hs : skipSp (zs.drop k2) = skipSp (zs.drop k)) (hk0 : k ≤ k2) (hk : k2 < zs.length) (hc : isSp (zs.getD k2 0) = false) (hk3 : k2 < k3) (hk3' : k3 ≤ zs.length) (hl : arg.length + k2 ≤ k3)
    (he : argEnd zs k2 = some (zs.drop k3, arg)) : SplitRel zs k3 (done ++ [arg]) := by
  obtain ⟨f, hf, hr⟩ := h.runs
  have := h.hi
  have := h.cnt
  have := h.bytes
  obtain ⟨g, rfl⟩ : ∃ g, f = g + 1 := ⟨f - 1, by omega⟩
  refine ⟨hk3', by simp; omega, by rw [tot_snoc]; omega, g, by omega, ?_⟩
  rw [← hr, splitL_go (SplitRel.skip_to hs hk hc) (by rw [argEnd_eq hk]; exact he)]
end

end Go.Proofs.Qxb6601335aDoor
