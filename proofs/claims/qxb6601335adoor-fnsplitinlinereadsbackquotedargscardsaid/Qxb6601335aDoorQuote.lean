/-
  zzHexDigit (23), zzQuoteByte (15).
-/
import Derived.Test.Qxb6601335aDoorAutoM
import Derived.Test.Qxb6601335aDoorQuoteP
namespace Go.Proofs.Qxb6601335aDoor
open Go.RowKit

theorem hexDigit_any (n : Int) (up : Bool) (w : World) (h0 : 0 ≤ n) (h1 : n ≤ 15) : Calls Tryd.prog 23 #[.int .u8 n, .bool up] w fun e w' => e = .returned (.int .u8 (hexd n up)) ∧ w = w' := by
  by_cases h : n < 10
  · have e : hexd n up = 48 + n := by unfold hexd; rw [if_pos h]
    rw [e]
    clear e
    go_enter Tryd.func23, Tryd.ntmps23
    go_wp2
    go_ret
    exact ⟨rfl, rfl⟩
  · cases up with
    | true =>
      have e : hexd n true = 65 + n - 10 := by unfold hexd; rw [if_neg h, if_pos rfl]
      rw [e]
      clear e
      go_enter Tryd.func23, Tryd.ntmps23
      go_wp2
      go_ret
      exact ⟨rfl, rfl⟩
    | false =>
      have e : hexd n false = 97 + n - 10 := by unfold hexd; rw [if_neg h, if_neg (by decide)]
      rw [e]
      clear e
      go_enter Tryd.func23, Tryd.ntmps23
      go_wp2
      go_ret
      exact ⟨rfl, rfl⟩

/-- 'append(line, c0, c1, c2, c3)'. -/
theorem wpList_push4 {ops : Array Oper} {rest : List Oper} {o : Oper} {a : Act} {Q : Exit → Act → World → Prop} (hgd : o.guard = none) (s x : Operand)
    (ho : o.op = .call { callee := .builtin .append, args := #[s, x], argTypes := #[22, 22] }) {w0 wr : World} {arg : List Int} {v : Value} {c0 c1 c2 c3 : Int} (I : ArgInv w0 arg v wr) (hc : ∀ y ∈ [c0, c1, c2, c3], 0 ≤ y ∧ y ≤ 255) (hlen : arg.length ≤ 1099511627776)
    (hs : a.eval s = v) (hx : a.eval x = .slice (some ⟨wr.heap.size, 0, none⟩) 4 4) (h : ∀ v' w', ArgInv w0 (arg ++ [c0, c1, c2, c3]) v' w' → wpList Tryd.prog ops Q rest (a.put o.dst v') w') :
    wpList Tryd.prog ops Q (o :: rest) a (wr.alloc (.cells #[.int .u8 c0, .int .u8 c1, .int .u8 c2, .int .u8 c3] 5)) := by
  obtain ⟨i0, hi, hz0, hz1, hz2⟩ := info_parts Tryd.info5
  have hB := I.below.size
  have hrow : (wr.alloc (.cells #[.int .u8 c0, .int .u8 c1, .int .u8 c2, .int .u8 c3] 5)).rowIs wr.heap.size 5 4 (fun i => if i = 0 then .int .u8 c0 else if i = 1 then .int .u8 c1 else if i = 2 then .int .u8 c2 else .int .u8 c3) :=
    ⟨_, Deep.blk_alloc_new _ _, rfl, fun i hi => by rcases (show i = 0 ∨ i = 1 ∨ i = 2 ∨ i = 3 by omega) with rfl | rfl | rfl | rfl <;> rfl⟩
  refine wpList_append_own _ hgd s x 22 ho w0.heap.size 5 i0 (.int .u8 0) 1 1 Tryd.underlying22 hi hz0 hz1 hz2 rfl (by decide) v _ _ hs (I.own.alloc _) ⟨wr.heap.size, 0, none⟩ 4 4 [.int .u8 c0, .int .u8 c1, .int .u8 c2, .int .u8 c3] hx rfl (fun j u hu => ?_) (fun u hu => ?_) ?_ ?_ (by simp; omega) ?_
  · match j, hu with
    | 0, hu => simp at hu; subst hu; exact hrow.cell (i := 0) (by decide)
    | 1, hu => simp at hu; subst hu; exact hrow.cell (i := 1) (by decide)
    | 2, hu => simp at hu; subst hu; exact hrow.cell (i := 2) (by decide)
    | 3, hu => simp at hu; subst hu; exact hrow.cell (i := 3) (by decide)
    | _ + 4, hu => simp at hu
  · simp at hu; rcases hu with rfl | rfl | rfl | rfl <;> rfl
  · unfold maxLen; omega
  · omega
  · intro v' w' hown hg _
    refine h v' w' ⟨(I.below.alloc hB _).grown hg (by simp; omega) (fun k hk => ((own_lt I.own) hk).1), ?_, fun y hy => ?_⟩
    · have e : (arg ++ [c0, c1, c2, c3]).map (Value.int .u8) = arg.map (Value.int .u8) ++ [.int .u8 c0, .int .u8 c1, .int .u8 c2, .int .u8 c3] := by simp
      rw [e, List.length_append]
      exact hown
    · rcases List.mem_append.1 hy with hy | hy
      · exact I.byte y hy
      · exact hc y hy

theorem and1 (b : Int) (h0 : 0 ≤ b) (h1 : b ≤ 255) : bits .and .u8 b 1 = b % 2 := by
  obtain ⟨n, rfl⟩ := Int.eq_ofNat_of_zero_le h0
  have := u8_and_nat n 1 (by omega) (by omega)
  rw [show ((1 : Nat) : Int) = 1 from rfl] at this
  rw [this, Nat.and_one_is_mod]
  rfl
theorem and15 (b : Int) (h0 : 0 ≤ b) (h1 : b ≤ 255) : bits .and .u8 b 15 = b % 16 := by
  obtain ⟨n, rfl⟩ := Int.eq_ofNat_of_zero_le h0
  have := u8_and_nat n 15 (by omega) (by omega)
  rw [show ((15 : Nat) : Int) = 15 from rfl] at this
  have e : n &&& 15 = n % 16 := Nat.and_two_pow_sub_one_eq_mod n 4
  rw [this, e]
  rfl

set_option maxHeartbeats 1000000 in
theorem quoteByte_any (w0 wr : World) (arg : List Int) (v : Value) (b : Int) (I : ArgInv w0 arg v wr) (h0 : 0 ≤ b) (h1 : b ≤ 255) (hlen : arg.length ≤ 1099511627776) :
    Calls Tryd.prog 15 #[v, .int .u8 b] wr fun e w' => ∃ v', e = .returned v' ∧ ArgInv w0 (arg ++ qb b) v' w' := by
  by_cases c1 : b = 34
  · subst c1
    have e : qb 34 = [92, 34] := rfl
    rw [e]
    go_enter Tryd.func15, Tryd.ntmps15
    go_wp2_with (at_builtin; refine wpList_push2 rfl (.tmp 12) (.tmp 14) rfl (c := 92) (d := 34) I ⟨by omega, by omega⟩ ⟨by omega, by omega⟩ hlen rfl rfl ?_; intro v5 w5 I5)
    go_ret
    exact ⟨_, rfl, I5⟩
  have g1 : (b == 34) = false := beq_eq_false_iff_ne.2 c1
  by_cases c2 : b = 92
  · subst c2
    have e : qb 92 = [92, 92] := rfl
    rw [e]
    clear c1
    go_enter Tryd.func15, Tryd.ntmps15
    go_wp2_with (at_builtin; refine wpList_push2 rfl (.tmp 12) (.tmp 14) rfl (c := 92) (d := 92) I ⟨by omega, by omega⟩ ⟨by omega, by omega⟩ hlen rfl rfl ?_; intro v5 w5 I5)
    go_ret
    exact ⟨_, rfl, I5⟩
  have g2 : (b == 92) = false := beq_eq_false_iff_ne.2 c2
  by_cases c3 : b = 7
  · subst c3
    have e : qb 7 = [92, 97] := rfl
    rw [e]
    clear c1 c2
    go_enter Tryd.func15, Tryd.ntmps15
    go_wp2_with (at_builtin; refine wpList_push2 rfl (.tmp 19) (.tmp 20) rfl (c := 92) (d := 97) I ⟨by omega, by omega⟩ ⟨by omega, by omega⟩ hlen rfl rfl ?_; intro v5 w5 I5)
    go_ret
    exact ⟨_, rfl, I5⟩
  have g3 : (b == 7) = false := beq_eq_false_iff_ne.2 c3
  by_cases c4 : b = 8
  · subst c4
    have e : qb 8 = [92, 98] := rfl
    rw [e]
    clear c1 c2 c3
    go_enter Tryd.func15, Tryd.ntmps15
    go_wp2_with (at_builtin; refine wpList_push2 rfl (.tmp 25) (.tmp 26) rfl (c := 92) (d := 98) I ⟨by omega, by omega⟩ ⟨by omega, by omega⟩ hlen rfl rfl ?_; intro v5 w5 I5)
    go_ret
    exact ⟨_, rfl, I5⟩
  have g4 : (b == 8) = false := beq_eq_false_iff_ne.2 c4
  by_cases c5 : b = 9
  · subst c5
    have e : qb 9 = [92, 116] := rfl
    rw [e]
    clear c1 c2 c3 c4
    go_enter Tryd.func15, Tryd.ntmps15
    go_wp2_with (at_builtin; refine wpList_push2 rfl (.tmp 31) (.tmp 32) rfl (c := 92) (d := 116) I ⟨by omega, by omega⟩ ⟨by omega, by omega⟩ hlen rfl rfl ?_; intro v5 w5 I5)
    go_ret
    exact ⟨_, rfl, I5⟩
  have g5 : (b == 9) = false := beq_eq_false_iff_ne.2 c5
  by_cases c6 : b = 10
  · subst c6
    have e : qb 10 = [92, 110] := rfl
    rw [e]
    clear c1 c2 c3 c4 c5
    go_enter Tryd.func15, Tryd.ntmps15
    go_wp2_with (at_builtin; refine wpList_push2 rfl (.tmp 37) (.tmp 38) rfl (c := 92) (d := 110) I ⟨by omega, by omega⟩ ⟨by omega, by omega⟩ hlen rfl rfl ?_; intro v5 w5 I5)
    go_ret
    exact ⟨_, rfl, I5⟩
  have g6 : (b == 10) = false := beq_eq_false_iff_ne.2 c6
  by_cases c7 : b = 13
  · subst c7
    have e : qb 13 = [92, 114] := rfl
    rw [e]
    clear c1 c2 c3 c4 c5 c6
    go_enter Tryd.func15, Tryd.ntmps15
    go_wp2_with (at_builtin; refine wpList_push2 rfl (.tmp 43) (.tmp 44) rfl (c := 92) (d := 114) I ⟨by omega, by omega⟩ ⟨by omega, by omega⟩ hlen rfl rfl ?_; intro v5 w5 I5)
    go_ret
    exact ⟨_, rfl, I5⟩
  have g7 : (b == 13) = false := beq_eq_false_iff_ne.2 c7
  by_cases c8 : 32 ≤ b ∧ b ≤ 126
  · have e : qb b = [b] := by
      unfold qb
      rw [if_neg (by rintro (h | h); exact c1 h; exact c2 h), if_neg c3, if_neg c4, if_neg c5, if_neg c6, if_neg c7, if_pos c8]
    rw [e]
    obtain ⟨k1, k2⟩ := c8
    clear e c1 c2 c3 c4 c5 c6 c7
    go_enter Tryd.func15, Tryd.ntmps15
    go_wp2_with (at_builtin; refine wpList_push rfl (.tmp 53) (.tmp 55) rfl (c := b) I ⟨h0, h1⟩ hlen rfl rfl ?_; intro v5 w5 I5)
    go_ret
    exact ⟨_, rfl, I5⟩
  · have e : qb b = [92, 120, hexd (b / 16) (b % 2 == 1), hexd (b % 16) (b % 2 == 0)] := by
      unfold qb
      rw [if_neg (by rintro (h | h); exact c1 h; exact c2 h), if_neg c3, if_neg c4, if_neg c5, if_neg c6, if_neg c7, if_neg c8]
    have hby := qb_bytes b h0 h1
    rw [e] at hby ⊢
    have a1 := and1 b h0 h1
    have a15 := and15 b h0 h1
    have d1 := fun W => hexDigit_any (b / 16) (b % 2 == 1) W (by omega) (by omega)
    have d2 := fun W => hexDigit_any (b % 16) (b % 2 == 0) W (by omega) (by omega)
    have k : b < 32 ∨ (32 ≤ b ∧ 126 < b) := by omega
    clear e c1 c2 c3 c4 c5 c6 c7 c8
    rcases k with k | ⟨k, k2⟩ <;>
    · go_enter Tryd.func15, Tryd.ntmps15
      go_wp2_with fail
      refine (d1 _).mono ?_
      rintro e w' ⟨rfl, rfl⟩
      go_wp2_with fail
      refine (d2 _).mono ?_
      rintro e w' ⟨rfl, rfl⟩
      go_wp2_with (at_builtin; refine wpList_push4 rfl (.tmp 57) (.tmp 70) rfl (c0 := 92) (c1 := 120) (c2 := hexd (b / 16) (b % 2 == 1)) (c3 := hexd (b % 16) (b % 2 == 0)) I hby hlen rfl rfl ?_; intro v5 w5 I5)
      go_ret
      exact ⟨_, rfl, I5⟩

end Go.Proofs.Qxb6601335aDoor
