/-
  The memory that splitInline makes: the argument that grows, the list of those that are done.
-/
import Derived.Test.Qxb6601335aDoorCopy
import Derived.Deep.Slices
namespace Go.Proofs.Qxb6601335aDoor
open Go.RowKit

theorem own_of_block {w w' : World} {B : Nat} {e : TypeId} {v : Value} {n : Nat} {xs : List Value} (h : w.ownsRow B e 1 v n xs) (hb : ∀ g c, v.ownBlock = some g → w.heap[g]? = some (.cells c e (0, 0)) → w'.heap[g]? = w.heap[g]?) : w'.ownsRow B e 1 v n xs := by
  obtain ⟨h1, h2⟩ := h
  refine ⟨h1, ?_⟩
  rcases h2 with h2 | ⟨g, cap, cur, hv, hg, hh, r⟩
  · exact .inl h2
  · exact .inr ⟨g, cap, cur, hv, hg, by rw [hb g cur (by rw [hv]; rfl) hh]; exact hh, r⟩

theorem own_lt {w : World} {B : Nat} {e : TypeId} {v : Value} {n : Nat} {xs : List Value} (h : w.ownsRow B e 1 v n xs) {g : Nat} (hg : v.ownBlock = some g) : B ≤ g ∧ g < w.heap.size ∧ ∃ c, w.heap[g]? = some (.cells c e (0, 0)) := by
  rcases h.2 with ⟨hv, _⟩ | ⟨g', cap, cur, hv, hg', hh, _⟩
  · rw [hv] at hg; cases hg
  · rw [hv] at hg
    cases hg
    exact ⟨hg', (Array.getElem?_eq_some_iff.1 hh).1, cur, hh⟩

theorem own_later {w w' : World} {B : Nat} {e : TypeId} {v : Value} {n : Nat} {xs : List Value} (h : w.ownsRow B e 1 v n xs) (hb : Below w.heap.size w w') : w'.ownsRow B e 1 v n xs :=
  own_of_block h fun g _ _ hc => hb.block g (Array.getElem?_eq_some_iff.1 hc).1

theorem own_base {w : World} {B B' : Nat} {e : TypeId} {v : Value} {n : Nat} {xs : List Value} (h : w.ownsRow B e 1 v n xs) (hB : B' ≤ B) : w.ownsRow B' e 1 v n xs := by
  obtain ⟨h1, h2⟩ := h
  refine ⟨h1, ?_⟩
  rcases h2 with h2 | ⟨g, cap, cur, hv, hg, r⟩
  · exact .inl h2
  · exact .inr ⟨g, cap, cur, hv, by omega, r⟩

theorem own_slice {w : World} {B : Nat} {e : TypeId} {v : Value} {n : Nat} {xs : List Value} (h : w.ownsRow B e 1 v n xs) : v.oneCell' = true := by
  rcases h.2 with ⟨hv, _⟩ | ⟨g, cap, cur, hv, _⟩ <;> rw [hv] <;> rfl

theorem own_shape {w : World} {B : Nat} {e : TypeId} {v : Value} {n : Nat} {xs : List Value} (h : w.ownsRow B e 1 v n xs) : ∃ ao c, v = .slice ao n c := by
  rcases h.2 with ⟨hv, hn⟩ | ⟨g, cap, cur, hv, _⟩
  · exact ⟨none, 0, by rw [hv, hn]⟩
  · exact ⟨_, cap, hv⟩

/-- The argument that grows: since w0 its bytes 'arg' lie in a row of the call's own. -/
structure ArgInv (w0 : World) (arg : List Int) (v : Value) (wr : World) : Prop where
  below : Below w0.heap.size w0 wr
  own : wr.ownsRow w0.heap.size 5 1 v arg.length (arg.map (Value.int .u8))
  byte : ∀ x ∈ arg, 0 ≤ x ∧ x ≤ 255

theorem ArgInv.start (w0 : World) : ArgInv w0 [] (.slice (some ⟨w0.heap.size, 0, none⟩) 0 0) (w0.alloc (.cells #[] 5)) :=
  ⟨(Below.refl _ _).alloc (Nat.le_refl _) _, ⟨rfl, .inr ⟨w0.heap.size, 0, #[], rfl, Nat.le_refl _, Deep.blk_alloc_new _ _, Nat.le_refl _, Nat.zero_le _, rfl, rfl⟩⟩, fun x hx => by cases hx⟩

theorem ArgInv.nil (w0 : World) : ArgInv w0 [] (.slice none 0 0) w0 := ⟨Below.refl _ _, World.ownsRow_nil _ _ _ _, fun x hx => by cases hx⟩

theorem ArgInv.later {w0 wr w1 : World} {arg : List Int} {v : Value} (I : ArgInv w0 arg v wr) (hb : Below wr.heap.size wr w1) : ArgInv w0 arg v w1 :=
  ⟨I.below.trans (hb.mono I.below.size), own_later I.own hb, I.byte⟩

/-- 'append(arg, c)': the walk goes on with one byte more. -/
theorem wpList_push {ops : Array Oper} {rest : List Oper} {o : Oper} {a : Act} {Q : Exit → Act → World → Prop} (hgd : o.guard = none) (s x : Operand)
    (ho : o.op = .call { callee := .builtin .append, args := #[s, x], argTypes := #[22, 22] }) {w0 wr : World} {arg : List Int} {v : Value} {c : Int} (I : ArgInv w0 arg v wr) (hc : 0 ≤ c ∧ c ≤ 255) (hlen : arg.length ≤ 1099511627776)
    (hs : a.eval s = v) (hx : a.eval x = .slice (some ⟨wr.heap.size, 0, none⟩) 1 1) (h : ∀ v' w', ArgInv w0 (arg ++ [c]) v' w' → wpList Tryd.prog ops Q rest (a.put o.dst v') w') :
    wpList Tryd.prog ops Q (o :: rest) a (wr.alloc (.cells #[.int .u8 c] 5)) := by
  obtain ⟨i0, hi, hz0, hz1, hz2⟩ := info_parts Tryd.info5
  have hB := I.below.size
  refine wpList_append_own _ hgd s x 22 ho w0.heap.size 5 i0 (.int .u8 0) 1 1 Tryd.underlying22 hi hz0 hz1 hz2 rfl (by decide) v _ _ hs (I.own.alloc _) ⟨wr.heap.size, 0, none⟩ 1 1 [.int .u8 c] hx rfl (cell_one_new _ _ _) (fun u hu => ?_) ?_ ?_ (by simp; omega) ?_
  · simp at hu; subst hu; rfl
  · unfold maxLen; omega
  · omega
  · intro v' w' hown hg _
    refine h v' w' ⟨(I.below.alloc hB _).grown hg (by simp; omega) (fun k hk => ((own_lt I.own) hk).1), ?_, fun y hy => ?_⟩
    · have e : (arg ++ [c]).map (Value.int .u8) = arg.map (Value.int .u8) ++ [.int .u8 c] := by simp
      rw [e, List.length_append]
      exact hown
    · rcases List.mem_append.1 hy with hy | hy
      · exact I.byte y hy
      · simp at hy; subst hy; exact hc

/-- The arguments that are done. -/
structure ArgsInv (w : World) (done : List (List Int)) (va : Value) (wr : World) : Prop where
  below : Below w.heap.size w wr
  top : ∃ vals : List Value, wr.ownsRow w.heap.size 22 1 va done.length vals ∧ ∀ (r : Nat) (x : List Int), done[r]? = some x → ∃ v, vals[r]? = some v ∧ wr.ownsRow w.heap.size 5 1 v x.length (x.map (Value.int .u8)) ∧ ∀ y ∈ x, 0 ≤ y ∧ y ≤ 255

theorem ArgsInv.start (w : World) : ArgsInv w [] (.slice none 0 0) w := ⟨Below.refl _ _, [], World.ownsRow_nil _ _ _ _, fun r x h => by simp at h⟩

theorem ArgsInv.later {w wr w1 : World} {done : List (List Int)} {va : Value} (I : ArgsInv w done va wr) (hb : Below wr.heap.size wr w1) : ArgsInv w done va w1 := by
  obtain ⟨vals, h1, h2⟩ := I.top
  refine ⟨I.below.trans (hb.mono I.below.size), vals, own_later h1 hb, fun r x hx => ?_⟩
  obtain ⟨v, e1, e2, e3⟩ := h2 r x hx
  exact ⟨v, e1, own_later e2 hb, e3⟩

/-- 'append(args, arg)': the walk goes on with one argument more. -/
theorem wpList_pushArg {ops : Array Oper} {rest : List Oper} {o : Oper} {a : Act} {Q : Exit → Act → World → Prop} (hgd : o.guard = none) (s x : Operand)
    (ho : o.op = .call { callee := .builtin .append, args := #[s, x], argTypes := #[25, 25] }) {w w0 wr : World} {done : List (List Int)} {arg : List Int} {va v : Value} (J : ArgsInv w done va w0) (I : ArgInv w0 arg v wr) (hlen : done.length ≤ 1099511627776)
    (hs : a.eval s = va) (hx : a.eval x = .slice (some ⟨wr.heap.size, 0, none⟩) 1 1) (h : ∀ va' w', ArgsInv w (done ++ [arg]) va' w' → wpList Tryd.prog ops Q rest (a.put o.dst va') w') :
    wpList Tryd.prog ops Q (o :: rest) a (wr.alloc (.cells #[v] 22)) := by
  obtain ⟨i0, hi, hz0, hz1, hz2⟩ := info_parts Tryd.info22
  have J1 := J.later I.below
  obtain ⟨vals, h1, h2⟩ := J1.top
  have hB := J1.below.size
  have hB0 := J.below.size
  have hv := own_slice I.own
  refine wpList_append_own _ hgd s x 25 ho w.heap.size 22 i0 (.slice none 0 0) 1 24 Tryd.underlying25 hi hz0 hz1 hz2 rfl (by decide) va _ _ hs (h1.alloc _) ⟨wr.heap.size, 0, none⟩ 1 1 [v] hx rfl (cell_one_new _ _ _) (fun u hu => ?_) ?_ ?_ (by simp; omega) ?_
  · simp at hu; subst hu; exact hv
  · unfold maxLen; omega
  · omega
  · intro va' w' hown hg _
    have keep : ∀ {v2 : Value} {n : Nat} {xs : List Value}, wr.ownsRow w.heap.size 5 1 v2 n xs → w'.ownsRow w.heap.size 5 1 v2 n xs := fun {v2 n xs} hr => by
      refine own_of_block hr fun g c hg2 hc => ?_
      have hlt := (Array.getElem?_eq_some_iff.1 hc).1
      rw [hg.block g (by simp; omega) (fun e => ?_)]
      · exact Below.heap_alloc _ _ _ hlt
      · obtain ⟨_, _, c', hc'⟩ := own_lt h1 e.symm
        rw [hc] at hc'
        injection hc' with hc'
        injection hc' with _ he
        cases he
    refine h va' w' ⟨(J1.below.alloc hB _).grown hg (by simp; omega) (fun k hk => (own_lt h1 hk).1), vals ++ [v], by rw [List.length_append]; exact hown, fun r y hy => ?_⟩
    have hvl : vals.length = done.length := by simpa using h1.1
    by_cases hr : r < done.length
    · rw [List.getElem?_append_left hr] at hy
      obtain ⟨v2, e1, e2, e3⟩ := h2 r y hy
      exact ⟨v2, by rw [List.getElem?_append_left (by omega)]; exact e1, keep e2, e3⟩
    · have hr2 : r = done.length := by
        have := (List.getElem?_eq_some_iff.1 hy).1
        simp at this
        omega
      subst hr2
      simp at hy
      subst hy
      exact ⟨v, by rw [← hvl]; simp, keep (own_base I.own hB0), I.byte⟩

/-- Length and bytes of the arguments, by index. -/
def lenOf (done : List (List Int)) (r : Nat) : Nat := (done.getD r []).length
def byteOf (done : List (List Int)) (r i : Nat) : Int := (done.getD r []).getD i 0

/-- The list of arguments, read as a slice of byte slices. -/
theorem ArgsInv.holds {w wr : World} {done : List (List Int)} {va : Value} (J : ArgsInv w done va wr) :
    ∃ ao cap A C, va = .slice ao done.length cap ∧ Holds88 wr ao done.length A (lenOf done) C (byteOf done) ∧ ∀ r, r < done.length → A r = none → lenOf done r = 0 := by
  obtain ⟨vals, h1, h2⟩ := J.top
  have each : ∀ r, r < done.length → ∃ y : Option Addr × Nat, vals[r]? = some (.slice y.1 (lenOf done r) y.2) ∧ Holds8 wr y.1 (lenOf done r) (byteOf done r) ∧ (y.1 = none → lenOf done r = 0) := by
    intro r hr
    have hx : done[r]? = some (done.getD r []) := by simp [List.getD, List.getElem?_eq_getElem hr]
    have el : lenOf done r = (done.getD r []).length := rfl
    have eb : ∀ i, byteOf done r i = (done.getD r []).getD i 0 := fun _ => rfl
    rw [el]
    generalize done.getD r [] = X at hx eb
    obtain ⟨v, e1, e2, e3⟩ := h2 r _ hx
    have bt : ∀ i, i < X.length → X[i]? = some (byteOf done r i) := fun i hi => by rw [eb, List.getD_eq_getElem?_getD, List.getElem?_eq_getElem hi]; rfl
    rcases e2.2 with ⟨hv, hn⟩ | ⟨g, cap, cur, hv, hg, hh, hle, hcap, hcs, htk⟩
    · exact ⟨(none, 0), by rw [e1, hv, hn], fun i hi => by omega, fun _ => hn⟩
    · refine ⟨(some ⟨g, 0, none⟩, cap), by rw [e1, hv], fun i hi => ⟨g, 0, rfl, ?_, e3 _ (List.mem_of_getElem? (bt i hi))⟩, fun h => by cases h⟩
      have : (cur.toList.take (X.length * 1))[i]? = some (.int .u8 (byteOf done r i)) := by
        rw [htk, List.getElem?_map, bt i hi]
        rfl
      rw [List.getElem?_take_of_lt (by omega)] at this
      simp [World.cell?, hh]
      simpa using this
  obtain ⟨y, hy⟩ := Deep.choose_lt each
  rcases h1.2 with ⟨hv, hn⟩ | ⟨g, cap, cur, hv, hg, hh, hle, hcap, hcs, htk⟩
  · exact ⟨none, 0, fun r => (y r).1, fun r => (y r).2, by rw [hv, hn], fun r hr => by omega, fun r hr => by omega⟩
  · refine ⟨some ⟨g, 0, none⟩, cap, fun r => (y r).1, fun r => (y r).2, hv, fun r hr => ⟨g, 0, rfl, ?_, (hy r hr).2.1⟩, fun r hr h => (hy r hr).2.2 h⟩
    have : (cur.toList.take (done.length * 1))[r]? = some (.slice (y r).1 (lenOf done r) (y r).2) := by rw [htk]; exact (hy r hr).1
    rw [List.getElem?_take_of_lt (by omega)] at this
    simp [World.cell?, hh]
    simpa using this

end Go.Proofs.Qxb6601335aDoor
