/-
  What splitInline computes, as a plain function on the bytes that are left; one lemma for each way through a round.
-/
import Derived.Test.Qxb6601335aDoorPlain
namespace Go.Proofs.Qxb6601335aDoor

/-- One argument: fuel, the open quote (0: none), the bytes that are left, the argument so far. None: refused. Else the bytes behind it, and the argument. -/
def argL : Nat → Int → List Int → List Int → Option (List Int × List Int)
  | 0, _, _, _ => none
  | f + 1, q, rest, arg =>
    if q = 0 then
      match rest with
      | [] => some ([], arg)
      | c :: t => if isSp c = true then some (c :: t, arg) else if c = 34 ∨ c = 39 then argL f c t arg else argL f 0 t (arg ++ [c])
    else
      match rest with
      | [] => none
      | c :: t =>
        if c = q then
          match t with
          | [] => some ([], arg)
          | d :: u => if isSp d = true then some (d :: u, arg) else none
        else if c = 92 ∧ q = 34 then
          match t with
          | [] => argL f q [] (arg ++ [c])
          | d :: u => match (if d = 120 then hex2 u else none) with
            | some b => argL f q (u.drop 2) (arg ++ [b])
            | none => argL f q u (arg ++ [unesc d])
        else if c = 92 ∧ q = 39 then
          match t with
          | [] => argL f q [] (arg ++ [c])
          | d :: u => if d = 39 then argL f q u (arg ++ [39]) else argL f q (d :: u) (arg ++ [c])
        else argL f q t (arg ++ [c])

def skipSp : List Int → List Int
  | [] => []
  | c :: t => if isSp c = true then skipSp t else c :: t

def splitL : Nat → List Int → List (List Int) → Option (List (List Int))
  | 0, _, _ => none
  | f + 1, rest, done =>
    match skipSp rest with
    | [] => some done
    | c :: t => match argL (t.length + 2) 0 (c :: t) [] with
      | none => none
      | some (r, arg) => splitL f r (done ++ [arg])

/-- What splitInline answers. -/
def splitP (zs : List Int) : Option (List (List Int)) := splitL (zs.length + 1) zs []

section
variable {f : Nat} {q c d : Int} {t u arg : List Int}
theorem argL_end0 : argL (f + 1) 0 [] arg = some ([], arg) := by simp [argL]
theorem argL_sp (h : isSp c = true) : argL (f + 1) 0 (c :: t) arg = some (c :: t, arg) := by simp [argL, h]
theorem argL_open (h : isSp c = false) (hq : c = 34 ∨ c = 39) : argL (f + 1) 0 (c :: t) arg = argL f c t arg := by simp [argL, h, hq]
theorem argL_bare (h : isSp c = false) (h1 : c ≠ 34) (h2 : c ≠ 39) : argL (f + 1) 0 (c :: t) arg = argL f 0 t (arg ++ [c]) := by simp [argL, h, h1, h2]
theorem argL_endq (hq : q ≠ 0) : argL (f + 1) q [] arg = none := by simp [argL, hq]
theorem argL_close_end (hq : q ≠ 0) : argL (f + 1) q [q] arg = some ([], arg) := by simp [argL, hq]
theorem argL_close (hq : q ≠ 0) (h : isSp d = true) : argL (f + 1) q (q :: d :: u) arg = some (d :: u, arg) := by simp [argL, hq, h]
theorem argL_close_bad (hq : q ≠ 0) (h : isSp d = false) : argL (f + 1) q (q :: d :: u) arg = none := by simp [argL, hq, h]
theorem argL_hex {b : Int} (h : hex2 u = some b) : argL (f + 1) 34 (92 :: 120 :: u) arg = argL f 34 (u.drop 2) (arg ++ [b]) := by simp [argL, h]
theorem argL_esc (h : (if d = 120 then hex2 u else none) = none) : argL (f + 1) 34 (92 :: d :: u) arg = argL f 34 u (arg ++ [unesc d]) := by simp [argL, h]
theorem argL_esc_end : argL (f + 1) 34 [92] arg = argL f 34 [] (arg ++ [92]) := by simp [argL]
theorem argL_sq : argL (f + 1) 39 (92 :: 39 :: u) arg = argL f 39 u (arg ++ [39]) := by simp [argL]
theorem argL_sq_not (h : d ≠ 39) : argL (f + 1) 39 (92 :: d :: u) arg = argL f 39 (d :: u) (arg ++ [92]) := by simp [argL, h]
theorem argL_sq_end : argL (f + 1) 39 [92] arg = argL f 39 [] (arg ++ [92]) := by simp [argL]
theorem argL_plain (hq : q ≠ 0) (h1 : c ≠ q) (h2 : c ≠ 92) : argL (f + 1) q (c :: t) arg = argL f q t (arg ++ [c]) := by simp [argL, hq, h1, h2]
end

theorem skipSp_yes {c : Int} {t : List Int} (h : isSp c = true) : skipSp (c :: t) = skipSp t := by simp [skipSp, h]
theorem skipSp_no {c : Int} {t : List Int} (h : isSp c = false) : skipSp (c :: t) = c :: t := by simp [skipSp, h]

theorem splitL_end {f : Nat} {rest : List Int} {done : List (List Int)} (h : skipSp rest = []) : splitL (f + 1) rest done = some done := by simp [splitL, h]
theorem splitL_bad {f : Nat} {rest t : List Int} {c : Int} {done : List (List Int)} (h : skipSp rest = c :: t) (h2 : argL (t.length + 2) 0 (c :: t) [] = none) : splitL (f + 1) rest done = none := by simp [splitL, h, h2]
theorem splitL_go {f : Nat} {rest t r arg : List Int} {c : Int} {done : List (List Int)} (h : skipSp rest = c :: t) (h2 : argL (t.length + 2) 0 (c :: t) [] = some (r, arg)) : splitL (f + 1) rest done = splitL f r (done ++ [arg]) := by simp [splitL, h, h2]

end Go.Proofs.Qxb6601335aDoor
