/-
  Arguments written in double quotes, as plain functions; splitP reads them back.
-/
import Derived.Test.Qxb6601335aDoorSplitP
namespace Go.Proofs.Qxb6601335aDoor

/-- A hexadecimal digit. -/
def hexd (n : Int) (up : Bool) : Int := if n < 10 then 48 + n else if up = true then 65 + n - 10 else 97 + n - 10

theorem hexd_val (n : Int) (up : Bool) (h0 : 0 ≤ n) (h1 : n ≤ 15) : hexv (hexd n up) = some n ∧ 0 ≤ hexd n up ∧ hexd n up ≤ 255 := by
  unfold hexd
  by_cases h : n < 10
  · rw [if_pos h, hexv_digit (by omega) (by omega)]
    exact ⟨by congr 1; omega, by omega, by omega⟩
  · rw [if_neg h]
    cases up with
    | true =>
      simp only [if_true]
      rw [hexv_upper (by omega) (by omega)]
      exact ⟨by congr 1; omega, by omega, by omega⟩
    | false =>
      simp only [Bool.false_eq_true, if_false]
      rw [hexv_lower (by omega) (by omega)]
      exact ⟨by congr 1; omega, by omega, by omega⟩

/-- A byte as it stands within double quotes. -/
def qb (b : Int) : List Int :=
  if b = 34 ∨ b = 92 then [92, b] else if b = 7 then [92, 97] else if b = 8 then [92, 98] else if b = 9 then [92, 116] else if b = 10 then [92, 110] else if b = 13 then [92, 114]
  else if 32 ≤ b ∧ b ≤ 126 then [b] else [92, 120, hexd (b / 16) (b % 2 == 1), hexd (b % 16) (b % 2 == 0)]

theorem qb_len (b : Int) : 1 ≤ (qb b).length ∧ (qb b).length ≤ 4 := by
  unfold qb
  repeat (split; simp)
  simp

theorem qb_bytes (b : Int) (h0 : 0 ≤ b) (h1 : b ≤ 255) : ∀ x ∈ qb b, 0 ≤ x ∧ x ≤ 255 := by
  intro x hx
  have d1 := hexd_val (b / 16) (b % 2 == 1) (by omega) (by omega)
  have d2 := hexd_val (b % 16) (b % 2 == 0) (by omega) (by omega)
  unfold qb at hx
  by_cases c1 : b = 34 ∨ b = 92
  · rw [if_pos c1] at hx; simp at hx; rcases hx with rfl | rfl <;> omega
  rw [if_neg c1] at hx
  by_cases c2 : b = 7
  · rw [if_pos c2] at hx; simp at hx; omega
  rw [if_neg c2] at hx
  by_cases c3 : b = 8
  · rw [if_pos c3] at hx; simp at hx; omega
  rw [if_neg c3] at hx
  by_cases c4 : b = 9
  · rw [if_pos c4] at hx; simp at hx; omega
  rw [if_neg c4] at hx
  by_cases c5 : b = 10
  · rw [if_pos c5] at hx; simp at hx; omega
  rw [if_neg c5] at hx
  by_cases c6 : b = 13
  · rw [if_pos c6] at hx; simp at hx; omega
  rw [if_neg c6] at hx
  by_cases c7 : 32 ≤ b ∧ b ≤ 126
  · rw [if_pos c7] at hx; simp at hx; omega
  rw [if_neg c7] at hx
  simp at hx
  rcases hx with rfl | rfl | rfl | rfl
  · omega
  · omega
  · exact d1.2
  · exact d2.2

/-- One byte, written so, is read back in one step. -/
theorem argL_qb (b : Int) (h0 : 0 ≤ b) (h1 : b ≤ 255) (f : Nat) (rest arg : List Int) : argL (f + 1) 34 (qb b ++ rest) arg = argL f 34 rest (arg ++ [b]) := by
  have d1 := hexd_val (b / 16) (b % 2 == 1) (by omega) (by omega)
  have d2 := hexd_val (b % 16) (b % 2 == 0) (by omega) (by omega)
  unfold qb
  by_cases c1 : b = 34 ∨ b = 92
  · rw [if_pos c1]
    have e : unesc b = b := by rcases c1 with rfl | rfl <;> rfl
    show argL (f + 1) 34 (92 :: b :: rest) arg = _
    rw [argL_esc (by rw [if_neg (by omega)]), e]
  rw [if_neg c1]
  by_cases c2 : b = 7
  · rw [if_pos c2, c2]; show argL (f + 1) 34 (92 :: 97 :: rest) arg = _; rw [argL_esc (by rw [if_neg (by omega)])]; rfl
  rw [if_neg c2]
  by_cases c3 : b = 8
  · rw [if_pos c3, c3]; show argL (f + 1) 34 (92 :: 98 :: rest) arg = _; rw [argL_esc (by rw [if_neg (by omega)])]; rfl
  rw [if_neg c3]
  by_cases c4 : b = 9
  · rw [if_pos c4, c4]; show argL (f + 1) 34 (92 :: 116 :: rest) arg = _; rw [argL_esc (by rw [if_neg (by omega)])]; rfl
  rw [if_neg c4]
  by_cases c5 : b = 10
  · rw [if_pos c5, c5]; show argL (f + 1) 34 (92 :: 110 :: rest) arg = _; rw [argL_esc (by rw [if_neg (by omega)])]; rfl
  rw [if_neg c5]
  by_cases c6 : b = 13
  · rw [if_pos c6, c6]; show argL (f + 1) 34 (92 :: 114 :: rest) arg = _; rw [argL_esc (by rw [if_neg (by omega)])]; rfl
  rw [if_neg c6]
  by_cases c7 : 32 ≤ b ∧ b ≤ 126
  · rw [if_pos c7]
    show argL (f + 1) 34 (b :: rest) arg = _
    rw [argL_plain (by decide) (fun e => c1 (.inl e)) (fun e => c1 (.inr e))]
  rw [if_neg c7]
  show argL (f + 1) 34 (92 :: 120 :: hexd (b / 16) (b % 2 == 1) :: hexd (b % 16) (b % 2 == 0) :: rest) arg = _
  have hx : hex2 (hexd (b / 16) (b % 2 == 1) :: hexd (b % 16) (b % 2 == 0) :: rest) = some b := by
    simp only [hex2, d1.1, d2.1]
    congr 1
    omega
  rw [argL_hex hx]
  rfl

/-- The bytes of an argument. -/
def Byt (x : List Int) : Prop := ∀ b ∈ x, 0 ≤ b ∧ b ≤ 255

theorem argL_quoted : ∀ (x rest arg : List Int) (F : Nat), Byt x → x.length + 1 ≤ F → (rest = [] ∨ ∃ r, rest = 32 :: r) → argL F 34 (x.flatMap qb ++ 34 :: rest) arg = some (rest, arg ++ x)
  | [], rest, arg, F, _, hF, hr => by
    obtain ⟨g, rfl⟩ : ∃ g, F = g + 1 := ⟨F - 1, by simp at hF; omega⟩
    simp only [List.flatMap_nil, List.nil_append, List.append_nil]
    rcases hr with rfl | ⟨r, rfl⟩
    · rw [argL_close_end (by decide)]
    · rw [argL_close (by decide) (by decide)]
  | b :: x, rest, arg, F, hx, hF, hr => by
    obtain ⟨g, rfl⟩ : ∃ g, F = g + 1 := ⟨F - 1, by simp at hF; omega⟩
    obtain ⟨h0, h1⟩ := hx b (by simp)
    rw [List.flatMap_cons, List.append_assoc, argL_qb b h0 h1, argL_quoted x rest (arg ++ [b]) g (fun y hy => hx y (by simp [hy])) (by simp at hF; omega) hr]
    simp

theorem flat_len (x : List Int) : x.length ≤ (x.flatMap qb).length := by
  induction x with
  | nil => simp
  | cons b x ih =>
    have := (qb_len b).1
    simp only [List.flatMap_cons, List.length_append, List.length_cons]
    omega

/-- The arguments behind the first: each with a space ahead of it. -/
def tailOf : List (List Int) → List Int
  | [] => []
  | x :: xs => 32 :: 34 :: (x.flatMap qb ++ 34 :: tailOf xs)

def lineOf : List (List Int) → List Int
  | [] => []
  | x :: xs => 34 :: (x.flatMap qb ++ 34 :: tailOf xs)

theorem tailOf_form (xs : List (List Int)) : tailOf xs = [] ∨ ∃ r, tailOf xs = 32 :: r := by
  cases xs with
  | nil => exact .inl rfl
  | cons x xs => exact .inr ⟨_, rfl⟩

theorem arg_quoted (x : List Int) (xs : List (List Int)) (hx : Byt x) :
    argL ((x.flatMap qb ++ 34 :: tailOf xs).length + 2) 0 (34 :: (x.flatMap qb ++ 34 :: tailOf xs)) [] = some (tailOf xs, x) := by
  have hl := flat_len x
  rw [argL_open (by decide) (.inl rfl), argL_quoted x (tailOf xs) [] _ hx (by rw [List.length_append, List.length_cons]; omega) (tailOf_form xs)]
  rfl

theorem split_tail : ∀ (xs done : List (List Int)) (F : Nat), (∀ x ∈ xs, Byt x) → xs.length + 1 ≤ F → splitL F (tailOf xs) done = some (done ++ xs)
  | [], done, F, _, hF => by
    obtain ⟨g, rfl⟩ : ∃ g, F = g + 1 := ⟨F - 1, by simp at hF; omega⟩
    rw [splitL_end rfl, List.append_nil]
  | x :: xs, done, F, hb, hF => by
    obtain ⟨g, rfl⟩ : ∃ g, F = g + 1 := ⟨F - 1, by simp at hF; omega⟩
    have hk : skipSp (tailOf (x :: xs)) = 34 :: (x.flatMap qb ++ 34 :: tailOf xs) := by
      show skipSp (32 :: 34 :: _) = _
      rw [skipSp_yes (by decide), skipSp_no (by decide)]
    rw [splitL_go hk (arg_quoted x xs (hb x (by simp))), split_tail xs (done ++ [x]) g (fun y hy => hb y (by simp [hy])) (by simp at hF; omega)]
    simp

theorem tail_len : ∀ xs : List (List Int), xs.length ≤ (tailOf xs).length
  | [] => Nat.le_refl _
  | x :: xs => by
    have := tail_len xs
    simp only [tailOf, List.length_cons, List.length_append]
    omega

/-- THE LAW: the quoted line reads back as the arguments. -/
theorem split_line (xs : List (List Int)) (hb : ∀ x ∈ xs, Byt x) : splitP (lineOf xs) = some xs := by
  cases xs with
  | nil => rfl
  | cons x xs =>
    have hk : skipSp (lineOf (x :: xs)) = 34 :: (x.flatMap qb ++ 34 :: tailOf xs) := by
      show skipSp (34 :: _) = _
      rw [skipSp_no (by decide)]
    have := tail_len xs
    show splitL ((lineOf (x :: xs)).length + 1) (lineOf (x :: xs)) [] = _
    rw [splitL_go hk (arg_quoted x xs (hb x (by simp))), split_tail xs _ _ (fun y hy => hb y (by simp [hy])) (by simp only [lineOf, List.length_cons, List.length_append]; omega)]
    simp

theorem tailOf_snoc : ∀ (xs : List (List Int)) (y : List Int), tailOf (xs ++ [y]) = tailOf xs ++ (32 :: 34 :: (y.flatMap qb ++ [34]))
  | [], y => by simp [tailOf]
  | x :: xs, y => by
    simp only [List.cons_append, tailOf]
    rw [tailOf_snoc xs y]
    simp

theorem lineOf_snoc (xs : List (List Int)) (y : List Int) : lineOf (xs ++ [y]) = (lineOf xs ++ (if xs.length = 0 then [] else [32])) ++ [34] ++ y.flatMap qb ++ [34] := by
  cases xs with
  | nil => simp [lineOf, tailOf]
  | cons x xs =>
    simp only [List.cons_append, lineOf]
    rw [tailOf_snoc xs y]
    simp

end Go.Proofs.Qxb6601335aDoor
