/-
  The automaton's memory and its round, as relations.
-/
import Derived.Test.Qxb6601335aDoorSplitM
import Derived.Test.Qxb6601335aDoorSplitR
import Derived.Test.Qxb6601335aDoorAutoP
import Derived.Test.Qxb6601335aDoorSmall2
namespace Go.Proofs.Qxb6601335aDoor
open Go.RowKit

/-- 'cur = []byte{}'. -/
theorem ArgInv.reset {w0 wr : World} {arg : List Int} {v : Value} (I : ArgInv w0 arg v wr) : ArgInv w0 [] (.slice (some ⟨wr.heap.size, 0, none⟩) 0 0) (wr.alloc (.cells #[] 5)) :=
  ⟨I.below.alloc I.below.size _, ⟨rfl, .inr ⟨wr.heap.size, 0, #[], rfl, I.below.size, Deep.blk_alloc_new _ _, Nat.le_refl _, Nat.zero_le _, rfl, rfl⟩⟩, fun x hx => by cases hx⟩

/-- 'append(cur, c)', the new cell's block by its number. -/
theorem wpList_pushAt {ops : Array Oper} {rest : List Oper} {o : Oper} {a : Act} {Q : Exit → Act → World → Prop} (hgd : o.guard = none) (s x : Operand)
    (ho : o.op = .call { callee := .builtin .append, args := #[s, x], argTypes := #[22, 22] }) {w0 wr : World} {arg : List Int} {v : Value} {c : Int} (I : ArgInv w0 arg v wr) (hc : 0 ≤ c ∧ c ≤ 255) (hlen : arg.length ≤ 1099511627776)
    (gB : Nat) (hgB : gB = wr.heap.size) (hs : a.eval s = v) (hx : a.eval x = .slice (some ⟨gB, 0, none⟩) 1 1) (h : ∀ v' w', ArgInv w0 (arg ++ [c]) v' w' → wpList Tryd.prog ops Q rest (a.put o.dst v') w') :
    wpList Tryd.prog ops Q (o :: rest) a (wr.alloc (.cells #[.int .u8 c] 5)) := by
  subst hgB
  exact wpList_push hgd s x ho I hc hlen hs hx h

/-- 'append(cur, c, d)'. -/
theorem wpList_push2 {ops : Array Oper} {rest : List Oper} {o : Oper} {a : Act} {Q : Exit → Act → World → Prop} (hgd : o.guard = none) (s x : Operand)
    (ho : o.op = .call { callee := .builtin .append, args := #[s, x], argTypes := #[22, 22] }) {w0 wr : World} {arg : List Int} {v : Value} {c d : Int} (I : ArgInv w0 arg v wr) (hc : 0 ≤ c ∧ c ≤ 255) (hd : 0 ≤ d ∧ d ≤ 255) (hlen : arg.length ≤ 1099511627776)
    (hs : a.eval s = v) (hx : a.eval x = .slice (some ⟨wr.heap.size, 0, none⟩) 2 2) (h : ∀ v' w', ArgInv w0 (arg ++ [c, d]) v' w' → wpList Tryd.prog ops Q rest (a.put o.dst v') w') :
    wpList Tryd.prog ops Q (o :: rest) a (wr.alloc (.cells #[.int .u8 c, .int .u8 d] 5)) := by
  obtain ⟨i0, hi, hz0, hz1, hz2⟩ := info_parts Tryd.info5
  have hB := I.below.size
  have hrow : (wr.alloc (.cells #[.int .u8 c, .int .u8 d] 5)).rowIs wr.heap.size 5 2 (fun i => if i = 0 then .int .u8 c else .int .u8 d) :=
    ⟨_, Deep.blk_alloc_new _ _, rfl, fun i hi => by rcases (show i = 0 ∨ i = 1 by omega) with rfl | rfl <;> rfl⟩
  refine wpList_append_own _ hgd s x 22 ho w0.heap.size 5 i0 (.int .u8 0) 1 1 Tryd.underlying22 hi hz0 hz1 hz2 rfl (by decide) v _ _ hs (I.own.alloc _) ⟨wr.heap.size, 0, none⟩ 2 2 [.int .u8 c, .int .u8 d] hx rfl (fun j u hu => ?_) (fun u hu => ?_) ?_ ?_ (by simp; omega) ?_
  · match j, hu with
    | 0, hu => simp at hu; subst hu; exact hrow.cell (i := 0) (by decide)
    | 1, hu => simp at hu; subst hu; exact hrow.cell (i := 1) (by decide)
    | _ + 2, hu => simp at hu
  · simp at hu; rcases hu with rfl | rfl <;> rfl
  · unfold maxLen; omega
  · omega
  · intro v' w' hown hg _
    refine h v' w' ⟨(I.below.alloc hB _).grown hg (by simp; omega) (fun k hk => ((own_lt I.own) hk).1), ?_, fun y hy => ?_⟩
    · have e : (arg ++ [c, d]).map (Value.int .u8) = arg.map (Value.int .u8) ++ [.int .u8 c, .int .u8 d] := by simp
      rw [e, List.length_append]
      exact hown
    · rcases List.mem_append.1 hy with hy | hy
      · exact I.byte y hy
      · simp at hy; rcases hy with rfl | rfl
        · exact hc
        · exact hd

/-- What the automaton has gathered: the arguments that are done, and the one that grows. -/
def CurInv (w : World) (out : List (List Int)) (va : Value) (cur : List Int) (v : Value) (wr : World) : Prop := ∃ w0, ArgsInv w out va w0 ∧ ArgInv w0 cur v wr

theorem CurInv.start (w : World) : CurInv w [] (.slice none 0 0) [] (.slice none 0 0) w := ⟨w, ArgsInv.start w, ArgInv.nil w⟩
theorem CurInv.pushed {w w1 : World} {out : List (List Int)} {va : Value} (J : ArgsInv w out va w1) : CurInv w out va [] (.slice none 0 0) w1 := ⟨w1, J, ArgInv.nil w1⟩
theorem CurInv.mk {w w0 wr : World} {out : List (List Int)} {va v : Value} {cur : List Int} (J : ArgsInv w out va w0) (I : ArgInv w0 cur v wr) : CurInv w out va cur v wr := ⟨w0, J, I⟩

/-- Where the automaton stands. -/
structure AutoRel (zs : List Int) (k : Nat) (st h : Int) (cur : List Int) (out : List (List Int)) : Prop where
  hi : k ≤ zs.length
  state : st = 0 ∨ st = 1 ∨ st = 2 ∨ st = 3 ∨ st = 4 ∨ st = 5 ∨ st = 6 ∨ st = 7 ∨ st = 8
  len : cur.length ≤ 4 * k
  cnt : out.length ≤ k
  digit : st = 5 → ∃ v, hexv h = some v
  runs : autoRun (zs.drop k) st h cur out = autoRun zs 0 0 [] []

theorem AutoRel.start (zs : List Int) : AutoRel zs 0 0 0 [] [] := ⟨Nat.zero_le _, .inl rfl, Nat.zero_le _, Nat.zero_le _, fun h => absurd h (by decide), rfl⟩

theorem AutoRel.next {zs : List Int} {k : Nat} {st h st' h' : Int} {cur cur' : List Int} {out out' : List (List Int)} (R : AutoRel zs k st h cur out) (hk : k < zs.length)
    (hst : st' = 0 ∨ st' = 1 ∨ st' = 2 ∨ st' = 3 ∨ st' = 4 ∨ st' = 5 ∨ st' = 6 ∨ st' = 7 ∨ st' = 8) (hc : cur'.length ≤ cur.length + 3) (ho : out'.length ≤ out.length + 1) (hd : st' = 5 → ∃ v, hexv h' = some v)
    (e : autoRun (zs.getD k 0 :: zs.drop (k + 1)) st h cur out = autoRun (zs.drop (k + 1)) st' h' cur' out') : AutoRel zs (k + 1) st' h' cur' out' :=
  ⟨hk, hst, by have := R.len; omega, by have := R.cnt; omega, hd, by rw [← e, ← drop_at hk]; exact R.runs⟩

theorem AutoRel.fails {zs : List Int} {k : Nat} {st h : Int} {cur : List Int} {out : List (List Int)} (R : AutoRel zs k st h cur out) (hk : k < zs.length)
    (e : autoRun (zs.getD k 0 :: zs.drop (k + 1)) st h cur out = none) : autoRun zs 0 0 [] [] = none := by
  rw [← R.runs, drop_at hk]
  exact e

theorem AutoRel.fin {zs : List Int} {k : Nat} {st h : Int} {cur : List Int} {out : List (List Int)} (R : AutoRel zs k st h cur out) (hk : zs.length ≤ k) :
    autoRun zs 0 0 [] [] = if st = 0 then some out else if st = 1 ∨ st = 8 then some (out ++ [cur]) else none := by
  rw [← R.runs, drop_end hk]
  rfl

/-- What zzSplitModel leaves. -/
def ModelPost (w : World) (R : Option (List (List Int))) (e : Ending) (w' : World) : Prop :=
  Below w.heap.size w w' ∧ match R with
  | none => e = .returned (.tuple #[.slice none 0 0, .bool false])
  | some xs => ∃ va, e = .returned (.tuple #[va, .bool true]) ∧ ArgsInv w xs va w'

theorem ModelPost.no {w w' : World} {R : Option (List (List Int))} {e : Ending} (hR : R = none) (he : e = .returned (.tuple #[.slice none 0 0, .bool false])) (hb : Below w.heap.size w w') : ModelPost w R e w' := by
  subst hR
  exact ⟨hb, he⟩
theorem ModelPost.yes {w w' : World} {R : Option (List (List Int))} {e : Ending} {xs : List (List Int)} {va : Value} (hR : R = some xs) (he : e = .returned (.tuple #[va, .bool true])) (J : ArgsInv w xs va w') : ModelPost w R e w' := by
  subst hR
  exact ⟨J.below, va, he, J⟩

end Go.Proofs.Qxb6601335aDoor
