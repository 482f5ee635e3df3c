/-
  The model automaton as a plain function; it answers as splitP does.
-/
import Derived.Test.Qxb6601335aDoorSplitP
namespace Go.Proofs.Qxb6601335aDoor

/-- A byte read in a settled state. None: refused. -/
def settle (st h1 : Int) (cur : List Int) (out : List (List Int)) (c : Int) : Option (Int × Int × List Int × List (List Int)) :=
  if st = 0 then
    if isSp c = true then some (0, h1, cur, out) else if c = 34 then some (2, h1, [], out) else if c = 39 then some (6, h1, [], out) else some (1, h1, [c], out)
  else if st = 1 then
    if isSp c = true then some (0, h1, [], out ++ [cur]) else if c = 34 then some (2, h1, cur, out) else if c = 39 then some (6, h1, cur, out) else some (1, h1, cur ++ [c], out)
  else if st = 2 then
    if c = 34 then some (8, h1, cur, out) else if c = 92 then some (3, h1, cur, out) else some (2, h1, cur ++ [c], out)
  else if st = 6 then
    if c = 39 then some (8, h1, cur, out) else if c = 92 then some (7, h1, cur, out) else some (6, h1, cur ++ [c], out)
  else
    if isSp c = true then some (0, h1, [], out ++ [cur]) else none

/-- One step. -/
def autoStep (st h1 : Int) (cur : List Int) (out : List (List Int)) (c : Int) : Option (Int × Int × List Int × List (List Int)) :=
  if st = 3 then
    if c = 120 then some (4, h1, cur, out) else some (2, h1, cur ++ [unesc c], out)
  else if st = 4 then
    match hexv c with
    | some _ => some (5, c, cur, out)
    | none => settle 2 h1 (cur ++ [120]) out c
  else if st = 5 then
    match hexv c with
    | some lo => some (2, h1, cur ++ [((hexv h1).getD 0) * 16 + lo], out)
    | none => settle 2 h1 (cur ++ [120, h1]) out c
  else if st = 7 then
    if c = 39 then some (6, h1, cur ++ [39], out) else settle 6 h1 (cur ++ [92]) out c
  else settle st h1 cur out c

def autoRun : List Int → Int → Int → List Int → List (List Int) → Option (List (List Int))
  | [], st, _, cur, out => if st = 0 then some out else if st = 1 ∨ st = 8 then some (out ++ [cur]) else none
  | c :: t, st, h1, cur, out => match autoStep st h1 cur out c with
    | none => none
    | some (st', h', cur', out') => autoRun t st' h' cur' out'

theorem settle_h (st h h' : Int) (cur : List Int) (out : List (List Int)) (c : Int) :
    (settle st h cur out c = none ∧ settle st h' cur out c = none) ∨ ∃ s u o, s ≠ 5 ∧ settle st h cur out c = some (s, h, u, o) ∧ settle st h' cur out c = some (s, h', u, o) := by
  unfold settle
  by_cases e0 : st = 0
  · simp only [e0, if_true]
    by_cases e1 : isSp c = true
    · rw [if_pos e1, if_pos e1]; exact .inr ⟨0, cur, out, by decide, rfl, rfl⟩
    · rw [if_neg e1, if_neg e1]
      by_cases e2 : c = 34
      · rw [if_pos e2, if_pos e2]; exact .inr ⟨2, _, _, by decide, rfl, rfl⟩
      · rw [if_neg e2, if_neg e2]
        by_cases e3 : c = 39
        · rw [if_pos e3, if_pos e3]; exact .inr ⟨6, _, _, by decide, rfl, rfl⟩
        · rw [if_neg e3, if_neg e3]; exact .inr ⟨1, _, _, by decide, rfl, rfl⟩
  · rw [if_neg e0, if_neg e0]
    by_cases e0 : st = 1
    · rw [if_pos e0, if_pos e0]
      by_cases e1 : isSp c = true
      · rw [if_pos e1, if_pos e1]; exact .inr ⟨0, _, _, by decide, rfl, rfl⟩
      · rw [if_neg e1, if_neg e1]
        by_cases e2 : c = 34
        · rw [if_pos e2, if_pos e2]; exact .inr ⟨2, _, _, by decide, rfl, rfl⟩
        · rw [if_neg e2, if_neg e2]
          by_cases e3 : c = 39
          · rw [if_pos e3, if_pos e3]; exact .inr ⟨6, _, _, by decide, rfl, rfl⟩
          · rw [if_neg e3, if_neg e3]; exact .inr ⟨1, _, _, by decide, rfl, rfl⟩
    · rw [if_neg e0, if_neg e0]
      by_cases e0 : st = 2
      · rw [if_pos e0, if_pos e0]
        by_cases e2 : c = 34
        · rw [if_pos e2, if_pos e2]; exact .inr ⟨8, _, _, by decide, rfl, rfl⟩
        · rw [if_neg e2, if_neg e2]
          by_cases e3 : c = 92
          · rw [if_pos e3, if_pos e3]; exact .inr ⟨3, _, _, by decide, rfl, rfl⟩
          · rw [if_neg e3, if_neg e3]; exact .inr ⟨2, _, _, by decide, rfl, rfl⟩
      · rw [if_neg e0, if_neg e0]
        by_cases e0 : st = 6
        · rw [if_pos e0, if_pos e0]
          by_cases e2 : c = 39
          · rw [if_pos e2, if_pos e2]; exact .inr ⟨8, _, _, by decide, rfl, rfl⟩
          · rw [if_neg e2, if_neg e2]
            by_cases e3 : c = 92
            · rw [if_pos e3, if_pos e3]; exact .inr ⟨7, _, _, by decide, rfl, rfl⟩
            · rw [if_neg e3, if_neg e3]; exact .inr ⟨6, _, _, by decide, rfl, rfl⟩
        · rw [if_neg e0, if_neg e0]
          by_cases e1 : isSp c = true
          · rw [if_pos e1, if_pos e1]; exact .inr ⟨0, _, _, by decide, rfl, rfl⟩
          · rw [if_neg e1, if_neg e1]; exact .inl ⟨rfl, rfl⟩

/-- Outside the state that waits for the second digit, the remembered digit does not matter. -/
theorem autoRun_h : ∀ (rest : List Int) (st h h' : Int) (cur : List Int) (out : List (List Int)), st ≠ 5 → autoRun rest st h cur out = autoRun rest st h' cur out
  | [], _, _, _, _, _, _ => rfl
  | c :: t, st, h, h', cur, out, hst => by
    have viaSettle : ∀ s cu, (match settle s h cu out c with | none => none | some (st', h1, cur', out') => autoRun t st' h1 cur' out') = (match settle s h' cu out c with | none => none | some (st', h1, cur', out') => autoRun t st' h1 cur' out') := by
      intro s cu
      rcases settle_h s h h' cu out c with ⟨e1, e2⟩ | ⟨s', u, o, hs, e1, e2⟩
      · rw [e1, e2]
      · rw [e1, e2]
        exact autoRun_h t s' h h' u o hs
    unfold autoRun autoStep
    by_cases e3 : st = 3
    · simp only [if_pos e3]
      by_cases e : c = 120
      · simp only [if_pos e]; exact autoRun_h t 4 h h' cur out (by decide)
      · simp only [if_neg e]; exact autoRun_h t 2 h h' _ out (by decide)
    · simp only [if_neg e3]
      by_cases e4 : st = 4
      · simp only [if_pos e4]
        cases hx : hexv c with
        | some v => rfl
        | none => exact viaSettle 2 _
      · simp only [if_neg e4, if_neg hst]
        by_cases e7 : st = 7
        · simp only [if_pos e7]
          by_cases e : c = 39
          · simp only [if_pos e]; exact autoRun_h t 6 h h' _ out (by decide)
          · simp only [if_neg e]; exact viaSettle 6 _
        · simp only [if_neg e7]
          exact viaSettle st cur

section
variable {c h : Int} {t cur : List Int} {out : List (List Int)}
theorem run_0_sp (hc : isSp c = true) : autoRun (c :: t) 0 h cur out = autoRun t 0 h cur out := by simp [autoRun, autoStep, settle, hc]
theorem run_0_not (hc : isSp c = false) : autoRun (c :: t) 0 h cur out = autoRun (c :: t) 1 h [] out := by
  simp only [autoRun, autoStep, settle, hc]
  by_cases e1 : c = 34
  · simp [e1]
  · by_cases e2 : c = 39
    · simp [e2]
    · simp [e1, e2]
theorem run_1_sp (hc : isSp c = true) : autoRun (c :: t) 1 h cur out = autoRun t 0 h [] (out ++ [cur]) := by simp [autoRun, autoStep, settle, hc]
theorem run_1_dq (hc : isSp 34 = false) : autoRun (34 :: t) 1 h cur out = autoRun t 2 h cur out := by simp [autoRun, autoStep, settle, hc]
theorem run_1_sq (hc : isSp 39 = false) : autoRun (39 :: t) 1 h cur out = autoRun t 6 h cur out := by simp [autoRun, autoStep, settle, hc]
theorem run_1_else (hc : isSp c = false) (h1 : c ≠ 34) (h2 : c ≠ 39) : autoRun (c :: t) 1 h cur out = autoRun t 1 h (cur ++ [c]) out := by simp [autoRun, autoStep, settle, hc, h1, h2]
theorem run_2_close : autoRun (34 :: t) 2 h cur out = autoRun t 8 h cur out := by simp [autoRun, autoStep, settle]
theorem run_2_bs : autoRun (92 :: t) 2 h cur out = autoRun t 3 h cur out := by simp [autoRun, autoStep, settle]
theorem run_2_else (h1 : c ≠ 34) (h2 : c ≠ 92) : autoRun (c :: t) 2 h cur out = autoRun t 2 h (cur ++ [c]) out := by simp [autoRun, autoStep, settle, h1, h2]
theorem run_6_close : autoRun (39 :: t) 6 h cur out = autoRun t 8 h cur out := by simp [autoRun, autoStep, settle]
theorem run_6_bs : autoRun (92 :: t) 6 h cur out = autoRun t 7 h cur out := by simp [autoRun, autoStep, settle]
theorem run_6_else (h1 : c ≠ 39) (h2 : c ≠ 92) : autoRun (c :: t) 6 h cur out = autoRun t 6 h (cur ++ [c]) out := by simp [autoRun, autoStep, settle, h1, h2]
theorem run_8_sp (hc : isSp c = true) : autoRun (c :: t) 8 h cur out = autoRun t 0 h [] (out ++ [cur]) := by simp [autoRun, autoStep, settle, hc]
theorem run_8_not (hc : isSp c = false) : autoRun (c :: t) 8 h cur out = none := by simp [autoRun, autoStep, settle, hc]
theorem run_3_x : autoRun (120 :: t) 3 h cur out = autoRun t 4 h cur out := by simp [autoRun, autoStep]
theorem run_3_else (h1 : c ≠ 120) : autoRun (c :: t) 3 h cur out = autoRun t 2 h (cur ++ [unesc c]) out := by simp [autoRun, autoStep, h1]
theorem run_4_hex {v : Int} (hv : hexv c = some v) : autoRun (c :: t) 4 h cur out = autoRun t 5 c cur out := by simp [autoRun, autoStep, hv]
theorem run_4_not (hv : hexv c = none) : autoRun (c :: t) 4 h cur out = autoRun (c :: t) 2 h (cur ++ [120]) out := by simp [autoRun, autoStep, hv]
theorem run_5_hex {v : Int} (hv : hexv c = some v) : autoRun (c :: t) 5 h cur out = autoRun t 2 h (cur ++ [((hexv h).getD 0) * 16 + v]) out := by simp [autoRun, autoStep, hv]
theorem run_5_not (hv : hexv c = none) : autoRun (c :: t) 5 h cur out = autoRun (c :: t) 2 h (cur ++ [120, h]) out := by simp [autoRun, autoStep, hv]
theorem run_7_q : autoRun (39 :: t) 7 h cur out = autoRun t 6 h (cur ++ [39]) out := by simp [autoRun, autoStep]
theorem run_7_else (h1 : c ≠ 39) : autoRun (c :: t) 7 h cur out = autoRun (c :: t) 6 h (cur ++ [92]) out := by simp [autoRun, autoStep, h1]
end

theorem hexv_plain {c v : Int} (h : hexv c = some v) : c ≠ 34 ∧ c ≠ 92 ∧ c ≠ 39 := by
  refine ⟨fun e => ?_, fun e => ?_, fun e => ?_⟩
  · subst e
    rw [show hexv 34 = none by decide] at h
    cases h
  · subst e
    rw [show hexv 92 = none by decide] at h
    cases h
  · subst e
    rw [show hexv 39 = none by decide] at h
    cases h

/-- '\x' and what is no two digits behind it. -/
theorem run_4_bad {u : List Int} (h : Int) (arg : List Int) (out : List (List Int)) (hx : hex2 u = none) : autoRun u 4 h arg out = autoRun u 2 h (arg ++ [120]) out := by
  match u, hx with
  | [], _ => rfl
  | x :: t, hx =>
    cases hv : hexv x with
    | none => exact run_4_not hv
    | some v =>
      obtain ⟨n1, n2, _⟩ := hexv_plain hv
      rw [run_4_hex hv, run_2_else n1 n2]
      match t, hx with
      | [], _ => rfl
      | y :: t', hx =>
        have hy : hexv y = none := by
          cases hy : hexv y with
          | none => rfl
          | some l => simp [hex2, hv, hy] at hx
        rw [run_5_not hy, List.append_assoc]
        exact autoRun_h _ 2 x h _ out (by decide)

theorem run_4_good {u : List Int} {b : Int} (h : Int) (arg : List Int) (out : List (List Int)) (hx : hex2 u = some b) : autoRun u 4 h arg out = autoRun (u.drop 2) 2 h (arg ++ [b]) out := by
  match u, hx with
  | x :: y :: t, hx =>
    cases hv : hexv x with
    | none => simp [hex2, hv] at hx
    | some v =>
      cases hy : hexv y with
      | none => simp [hex2, hv, hy] at hx
      | some l =>
        simp only [hex2, hv, hy, Option.some.injEq] at hx
        rw [run_4_hex hv, run_5_hex hy, hv, ← hx]
        exact autoRun_h _ 2 x h _ out (by decide)
  | [], hx => simp [hex2] at hx
  | [_], hx => simp [hex2] at hx

/-- What the automaton goes on with behind an argument. -/
def after (h : Int) (out : List (List Int)) : Option (List Int × List Int) → Option (List (List Int))
  | none => none
  | some (r, a) => autoRun r 0 h [] (out ++ [a])

theorem run_8_after (t : List Int) (h : Int) (arg : List Int) (out : List (List Int)) :
    autoRun t 8 h arg out = after h out (match t with | [] => some ([], arg) | d :: u => if isSp d = true then some (d :: u, arg) else none) := by
  match t with
  | [] => rfl
  | d :: u =>
    cases hd : isSp d with
    | true =>
      rw [run_8_sp hd]
      simp only [hd, if_true, after]
      rw [run_0_sp hd]
    | false =>
      rw [run_8_not hd]
      simp [hd, after]

theorem arg_auto (h : Int) (out : List (List Int)) : ∀ (f : Nat) (rest arg : List Int), rest.length < f →
    (autoRun rest 1 h arg out = after h out (argL f 0 rest arg)) ∧ (autoRun rest 2 h arg out = after h out (argL f 34 rest arg)) ∧ (autoRun rest 6 h arg out = after h out (argL f 39 rest arg))
  | 0, _, _, hl => by omega
  | f + 1, [], arg, _ => by
    refine ⟨?_, ?_, ?_⟩
    · rw [argL_end0]; rfl
    · rw [argL_endq (by decide)]; rfl
    · rw [argL_endq (by decide)]; rfl
  | f + 1, c :: t, arg, hl => by
    have hlt : t.length < f := by simp at hl; omega
    obtain ⟨i1, _, _⟩ := arg_auto h out f t (arg ++ [c]) hlt
    refine ⟨?_, ?_, ?_⟩
    · cases hs : isSp c with
      | true =>
        rw [argL_sp hs, run_1_sp hs]
        simp only [after]
        rw [run_0_sp hs]
      | false =>
        by_cases e1 : c = 34
        · subst e1
          rw [argL_open hs (.inl rfl), run_1_dq hs]
          exact (arg_auto h out f t arg hlt).2.1
        · by_cases e2 : c = 39
          · subst e2
            rw [argL_open hs (.inr rfl), run_1_sq hs]
            exact (arg_auto h out f t arg hlt).2.2
          · rw [argL_bare hs e1 e2, run_1_else hs e1 e2]
            exact i1
    · by_cases e1 : c = 34
      · subst e1
        rw [run_2_close, run_8_after]
        congr 1
      · by_cases e2 : c = 92
        · subst e2
          rw [run_2_bs]
          match t, hlt with
          | [], hlt =>
            obtain ⟨g, rfl⟩ : ∃ g, f = g + 1 := ⟨f - 1, by simp at hlt; omega⟩
            rw [argL_esc_end, argL_endq (by decide)]; rfl
          | d :: u, hlt =>
            have hu : u.length < f := by simp at hlt; omega
            by_cases e3 : d = 120
            · subst e3
              rw [run_3_x]
              cases hx : hex2 u with
              | some b =>
                rw [argL_hex hx, run_4_good h arg out hx]
                exact (arg_auto h out f (u.drop 2) (arg ++ [b]) (by simp; omega)).2.1
              | none =>
                rw [argL_esc (by rw [if_pos rfl]; exact hx), run_4_bad h arg out hx]
                exact (arg_auto h out f u (arg ++ [unesc 120]) hu).2.1
            · rw [run_3_else e3, argL_esc (by rw [if_neg e3])]
              exact (arg_auto h out f u (arg ++ [unesc d]) hu).2.1
        · rw [run_2_else e1 e2, argL_plain (by decide) e1 e2]
          exact (arg_auto h out f t (arg ++ [c]) hlt).2.1
    · by_cases e1 : c = 39
      · subst e1
        rw [run_6_close, run_8_after]
        congr 1
      · by_cases e2 : c = 92
        · subst e2
          rw [run_6_bs]
          match t, hlt with
          | [], hlt =>
            obtain ⟨g, rfl⟩ : ∃ g, f = g + 1 := ⟨f - 1, by simp at hlt; omega⟩
            rw [argL_sq_end, argL_endq (by decide)]; rfl
          | d :: u, hlt =>
            have hu : u.length < f := by simp at hlt; omega
            by_cases e3 : d = 39
            · subst e3
              rw [run_7_q, argL_sq]
              exact (arg_auto h out f u (arg ++ [39]) hu).2.2
            · rw [run_7_else e3, argL_sq_not e3]
              exact (arg_auto h out f (d :: u) (arg ++ [92]) hlt).2.2
        · rw [run_6_else e1 e2, argL_plain (by decide) e1 e2]
          exact (arg_auto h out f t (arg ++ [c]) hlt).2.2

theorem argL_le : ∀ (f : Nat) (q : Int) (rest arg r a : List Int), argL f q rest arg = some (r, a) → r.length ≤ rest.length
  | 0, _, _, _, _, _, h => by simp [argL] at h
  | f + 1, q, [], arg, r, a, h => by
    by_cases hq : q = 0
    · subst hq
      rw [argL_end0] at h
      cases h
      exact Nat.le_refl _
    · rw [argL_endq hq] at h; cases h
  | f + 1, q, c :: t, arg, r, a, h => by
    have go : ∀ (q' : Int) (rest' arg' : List Int), argL f q' rest' arg' = some (r, a) → rest'.length ≤ t.length → r.length ≤ t.length + 1 := fun q' rest' arg' h1 h2 => by
      have := argL_le f q' rest' arg' r a h1
      omega
    rw [List.length_cons]
    by_cases hq : q = 0
    · subst hq
      cases hs : isSp c with
      | true => rw [argL_sp hs] at h; cases h; simp
      | false =>
        by_cases e : c = 34 ∨ c = 39
        · rw [argL_open hs e] at h; exact go _ _ _ h (Nat.le_refl _)
        · rw [argL_bare hs (fun x => e (.inl x)) (fun x => e (.inr x))] at h; exact go _ _ _ h (Nat.le_refl _)
    · by_cases e1 : c = q
      · subst e1
        match t, h with
        | [], h => rw [argL_close_end hq] at h; cases h; simp
        | d :: u, h =>
          cases hd : isSp d with
          | true => rw [argL_close hq hd] at h; cases h; simp
          | false => rw [argL_close_bad hq hd] at h; cases h
      · by_cases e2 : c = 92
        · subst e2
          by_cases e3 : q = 34
          · subst e3
            match t, h, go with
            | [], h, go => rw [argL_esc_end] at h; exact go _ _ _ h (Nat.le_refl _)
            | d :: u, h, go =>
              cases hx : (if d = 120 then hex2 u else none) with
              | some b =>
                have hd : d = 120 := by
                  by_cases e : d = 120
                  · exact e
                  · rw [if_neg e] at hx; cases hx
                subst hd
                rw [if_pos rfl] at hx
                rw [argL_hex hx] at h
                exact go _ _ _ h (by simp; omega)
              | none => rw [argL_esc hx] at h; exact go _ _ _ h (by simp)
          · by_cases e4 : q = 39
            · subst e4
              match t, h, go with
              | [], h, go => rw [argL_sq_end] at h; exact go _ _ _ h (Nat.le_refl _)
              | d :: u, h, go =>
                by_cases hd : d = 39
                · subst hd; rw [argL_sq] at h; exact go _ _ _ h (by simp)
                · rw [argL_sq_not hd] at h; exact go _ _ _ h (Nat.le_refl _)
            · have : argL (f + 1) q (92 :: t) arg = argL f q t (arg ++ [92]) := by simp [argL, hq, e1, e3, e4]
              rw [this] at h
              exact go _ _ _ h (Nat.le_refl _)
        · rw [argL_plain hq e1 e2] at h; exact go _ _ _ h (Nat.le_refl _)

theorem argL_lt {f : Nat} {c : Int} {t arg r a : List Int} (hc : isSp c = false) (h : argL (f + 1) 0 (c :: t) arg = some (r, a)) : r.length < (c :: t).length := by
  have : r.length ≤ t.length := by
    by_cases e : c = 34 ∨ c = 39
    · rw [argL_open hc e] at h; exact argL_le _ _ _ _ _ _ h
    · rw [argL_bare hc (fun x => e (.inl x)) (fun x => e (.inr x))] at h; exact argL_le _ _ _ _ _ _ h
  simp
  omega

theorem skip_auto (h : Int) (cur : List Int) (out : List (List Int)) : ∀ rest : List Int, autoRun rest 0 h cur out = autoRun (skipSp rest) 0 h cur out ∧ (skipSp rest).length ≤ rest.length ∧ ∀ c t, skipSp rest = c :: t → isSp c = false
  | [] => ⟨rfl, Nat.le_refl _, fun c t h => by cases h⟩
  | c :: t => by
    cases hs : isSp c with
    | true =>
      obtain ⟨i1, i2, i3⟩ := skip_auto h cur out t
      rw [skipSp_yes hs, run_0_sp hs]
      exact ⟨i1, by simp; omega, i3⟩
    | false =>
      rw [skipSp_no hs]
      exact ⟨rfl, Nat.le_refl _, fun c' t' e => by cases e; exact hs⟩

theorem split_auto (h : Int) : ∀ (f : Nat) (rest : List Int) (done : List (List Int)), rest.length < f → splitL f rest done = autoRun rest 0 h [] done
  | 0, _, _, hl => by omega
  | f + 1, rest, done, hl => by
    obtain ⟨i1, i2, i3⟩ := skip_auto h [] done rest
    rw [i1]
    cases hk : skipSp rest with
    | nil => rw [splitL_end hk]; rfl
    | cons c t =>
      have hc := i3 c t hk
      rw [hk] at i2
      rw [run_0_not hc, (arg_auto h done (t.length + 2) (c :: t) [] (by simp)).1]
      cases he : argL (t.length + 2) 0 (c :: t) [] with
      | none => rw [splitL_bad hk he]; rfl
      | some p =>
        obtain ⟨r, a⟩ := p
        rw [splitL_go hk he]
        exact split_auto h f r (done ++ [a]) (by have := argL_lt hc he; omega)

/-- THE LAW: the two answer alike, on every line. -/
theorem splitP_auto (zs : List Int) : splitP zs = autoRun zs 0 0 [] [] := split_auto 0 (zs.length + 1) zs [] (by omega)

end Go.Proofs.Qxb6601335aDoor
