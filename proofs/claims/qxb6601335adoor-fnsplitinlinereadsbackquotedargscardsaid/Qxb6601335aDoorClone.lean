/-
  CloneArgs (function 11): the bytes in one row, the slices over it in another.
-/
import Derived.Test.Qxb6601335aDoorCopy
namespace Go.Proofs.Qxb6601335aDoor
open Go.RowKit

/-- Where clone r begins in the row of bytes (an empty one: at the row's head). -/
def offOf (L : Nat → Nat) (r : Nat) : Nat := if L r = 0 then 0 else sumTo L r

/-- Behind k rounds of CloneArgs' second loop. -/
structure CloneInv (w : World) (n : Nat) (L : Nat → Nat) (Z : Nat → Nat → Int) (k : Nat) (wr : World) : Prop where
  below : Below w.heap.size w wr
  size : wr.heap.size = w.heap.size + 2
  top : wr.rowIs (w.heap.size + 1) 22 n (fun r => if r < k then .slice (some ⟨w.heap.size, offOf L r, none⟩) (L r) (L r) else .slice none 0 0)
  data : ∃ F : Nat → Int, wr.rowIs w.heap.size 5 (sumTo L n) (fun j => .int .u8 (F j)) ∧ ∀ r, r < k → ∀ i, i < L r → F (sumTo L r + i) = Z r i

theorem CloneInv.start (w : World) (n : Nat) (L : Nat → Nat) (Z : Nat → Nat → Int) :
    CloneInv w n L Z 0 ((w.alloc (.cells (madeCells #[.int .u8 0] (sumTo L n)) 5)).alloc (.cells (madeCells #[.slice none 0 0] n) 22)) := by
  have t := World.rowIs_made (w.alloc (.cells (madeCells #[.int .u8 0] (sumTo L n)) 5)) (.slice none 0 0) n 22
  have d := (World.rowIs_made w (.int .u8 0) (sumTo L n) 5).alloc (.cells (madeCells #[.slice none 0 0] n) 22)
  rw [show (w.alloc (.cells (madeCells #[.int .u8 0] (sumTo L n)) 5)).heap.size = w.heap.size + 1 by simp] at t
  exact ⟨((Below.refl _ _).alloc (Nat.le_refl _) _).alloc (by simp) _, by simp, t.congr (fun i _ => by simp), fun _ => 0, d, fun r hr => by omega⟩

/-- The append of a row: its cells lie behind what is there. -/
theorem CloneInv.run_append {w : World} {n : Nat} {L : Nat → Nat} {Z : Nat → Nat → Int} {k : Nat} {wr : World} (I : CloneInv w n L Z k wr) (hk : k < n) (ao : Option Addr) (c : Nat) (h8 : Holds8 wr ao (L k) (Z k)) (h0 : ao = none → L k = 0) :
    ∃ w1, (Builtin.append_ #[22, 22] 22 #[.slice (some ⟨w.heap.size, 0, none⟩) (sumTo L k) (sumTo L n), .slice ao (L k) c]).run Tryd.prog wr = .ok (.slice (some ⟨w.heap.size, 0, none⟩) (sumTo L k + L k) (sumTo L n)) w1 ∧
      w1.rowIs (w.heap.size + 1) 22 n (fun r => if r < k then .slice (some ⟨w.heap.size, offOf L r, none⟩) (L r) (L r) else .slice none 0 0) ∧
      CloneInv w n L Z (k + 1) (w1.setCell ⟨w.heap.size + 1, k, none⟩ (.slice (some ⟨w.heap.size, offOf L k, none⟩) (L k) (L k))) := by
  obtain ⟨i, hi, hz0, hz1, hz2⟩ := info_parts Tryd.info5
  have hle : sumTo L k + L k ≤ sumTo L n := sumTo_step L hk
  obtain ⟨F, hd, hF⟩ := I.data
  obtain ⟨cs, hcs, hlen⟩ : ∃ cs : List Value, (∀ i, i < L k → cs[i]? = some (.int .u8 (Z k i))) ∧ cs.length = L k :=
    ⟨(List.range (L k)).map fun i => .int .u8 (Z k i), fun i hi => by simp [hi], by simp⟩
  have one : ∀ u ∈ cs, u.oneCell' = true := fun v hv => by
    obtain ⟨j, hj, rfl⟩ := List.getElem_of_mem hv
    have := hcs j (by omega)
    rw [List.getElem?_eq_getElem hj] at this
    rw [Option.some.inj this]
    rfl
  have src : Src Tryd.prog i.size 22 (.slice ao (L k) c) (L k) cs wr := by
    cases ao with
    | none =>
      have e := h0 rfl
      have : cs = [] := List.eq_nil_of_length_eq_zero (by omega)
      rw [e, this]
      exact Src.ofNil wr Tryd.underlying22 c
    | some ad =>
      refine Src.ofSlice wr Tryd.underlying22 ad (L k) c cs (by rw [hlen, hz1]; omega) (fun j u hu => ?_) one
      have hj : j < L k := by have := (List.getElem?_eq_some_iff.1 hu).1; omega
      rw [hcs j hj] at hu
      obtain ⟨b, o, e, hc, _⟩ := h8 j hj
      cases e
      cases hu
      rw [Addr.add_lit]
      exact hc
  have hrun := run_append_room_src (P := Tryd.prog) wr 22 22 22 5 i Tryd.underlying22 hi w.heap.size 0 (sumTo L k) (sumTo L n) (.slice ao (L k) c) (L k) cs src hle
    (fun j hj => by rw [hz1, Nat.mul_one, Nat.zero_add, hd.cell (by omega)]; rfl) (fun j _ => hd.frozen _)
  refine ⟨_, hrun, rowIs_setCells_other (by omega) cs _ wr I.top, ?_⟩
  rw [hz1, Nat.mul_one, Nat.zero_add]
  have hsz : ∀ (vs : List Value) (o : Nat) (x : World), (x.setCells w.heap.size o vs).heap.size = x.heap.size := by
    intro vs
    induction vs with
    | nil => intro o x; rfl
    | cons v r ih => intro o x; simp only [World.setCells]; rw [ih]; simp [World.setCell]
  refine ⟨(below_setCells (Nat.le_refl _) cs _ wr I.below).setCell (by simp) _, by simp [World.setCell, hsz, I.size], ?_, ?_⟩
  · refine ((rowIs_setCells_other (by omega) cs _ wr I.top).set k _).congr (fun i _ => ?_)
    by_cases e : i = k
    · subst e; simp
    · by_cases e2 : i < k
      · simp [e, e2, show i < k + 1 by omega]
      · simp [e, e2, show ¬ i < k + 1 by omega]
  · refine ⟨fun j => if sumTo L k ≤ j ∧ j < sumTo L k + L k then Z k (j - sumTo L k) else F j, ((rowIs_setCells cs (sumTo L k) wr _ hd).setOther (by simp) _).congr (fun j _ => ?_), fun r hr i hi => ?_⟩
    · rw [hlen]
      dsimp only
      by_cases e : sumTo L k ≤ j ∧ j < sumTo L k + L k
      · rw [if_pos e, if_pos e, hcs _ (by omega)]
        rfl
      · rw [if_neg e, if_neg e]
    · dsimp only
      by_cases e : r = k
      · subst e
        rw [if_pos (by omega), Nat.add_sub_cancel_left]
      · have := sumTo_step L (r := r) (n := k) (by omega)
        rw [if_neg (by omega)]
        exact hF r (by omega) i hi

/-- An append whose run is known, as a law for the walk. -/
theorem wpList_append_run {P : Program} {w : World} {ops : Array Oper} {rest : List Oper} {o : Oper} {a : Act} {Q : Exit → Act → World → Prop} (hgd : o.guard = none) (s x : Operand) (t : TypeId)
    (ho : o.op = .call { callee := .builtin .append, args := #[s, x], argTypes := #[t, t] }) (vs vx : Value) (hs : a.eval s = vs) (hx : a.eval x = vx) (v' : Value) (w' : World)
    (hrun : (Builtin.append_ #[t, t] o.type #[vs, vx]).run P w = .ok v' w') (h : wpList P ops Q rest (a.put o.dst v') w') : wpList P ops Q (o :: rest) a w := by
  refine wpList_plain hgd fun K hK => ?_
  unfold Oper.wp
  simp [execOp, ho, resolve, invoke, builtin, hs, hx, hrun, Result.andThen]
  exact hK _ _ h

set_option maxHeartbeats 400000 in
theorem clone_some (w : World) (b o n c : Nat) (A : Nat → Option Addr) (L C : Nat → Nat) (Z : Nat → Nat → Int) (hn : n ≤ 1099511627776) (hS : sumTo L n ≤ 1099511627776) (H : Holds88 w (some ⟨b, o, none⟩) n A L C Z) (hA : ∀ r, r < n → A r = none → L r = 0) :
    Calls Tryd.prog 26 #[.slice (some ⟨b, o, none⟩) n c] w fun e w' => e = .returned (.slice (some ⟨w.heap.size + 1, 0, none⟩) n n) ∧ CloneInv w n L Z n w' := by
  have hmk1 := run_make_room (P := Tryd.prog) 22 5 (.int .u8 0) 1 Tryd.underlying22 Tryd.info5 rfl .i64 .i64 (sumTo L n) (by omega) (by omega)
  have hmk2 := run_make_row' (P := Tryd.prog) 25 22 (.slice none 0 0) 24 Tryd.underlying25 Tryd.info22 rfl .i64 .i64 n (by omega) (by omega)
  have R := CloneInv.start w n L Z
  go_enter Tryd.func26, Tryd.ntmps26
  go_wp2
  go_loop [3, 5, 12] (fun s _ i => ∃ k T : Nat, k ≤ n ∧ i = .int .i64 k ∧ s = .int .i64 T ∧ Hid (T = sumTo L k) ∧ T ≤ sumTo L n) (fun _ _ i => n - (intOf i).toNat)
  case atStart => exact ⟨0, 0, Nat.zero_le _, rfl, rfl, rfl, Nat.zero_le _⟩
  case round =>
    obtain ⟨k, T, hk, rfl, rfl, hT, hT2⟩ := hrel
    by_cases hlt : k < n
    · obtain ⟨_, _, e, hcell, h8⟩ := H k hlt
      cases e
      have hst := sumTo_step L hlt
      have hT3 : T + L k ≤ sumTo L n := by have := hT.out; omega
      clear h8 H hA hmk1 hmk2 hst R
      go_wp2
      go_round
      case rel => exact ⟨k + 1, T + L k, by omega, by go_num, by go_num, by have := hT.out; simp only [Hid, sumTo]; omega, hT3⟩
      case measure => simp [intOf]; omega
    · obtain rfl : n = k := by omega
      have e := hT.out
      subst e
      clear hT hT2
      go_wp2
      clear hmk1 hmk2
      go_loopw [6, 8, 9, 28] (fun d _ _ i wr => ∃ k : Nat, k ≤ n ∧ i = .int .i64 k ∧ d = .slice (some ⟨w.heap.size, 0, none⟩) (sumTo L k) (sumTo L n) ∧ CloneInv w n L Z k wr) (fun _ _ _ i _ => n - (intOf i).toNat)
      case atStart => exact ⟨0, Nat.zero_le _, rfl, rfl, R⟩
      case round =>
        obtain ⟨k, hk, rfl, rfl, I⟩ := hrel
        clear R
        by_cases hlt : k < n
        · obtain ⟨_, _, e, hcell, h8⟩ := H k hlt
          cases e
          have hc : wr.cell? ⟨b, o + k, none⟩ = some (.slice (A k) (L k) (C k)) := (I.below.cell (by exact lt_of_cell hcell)).trans hcell
          obtain ⟨w1, hrun, ht, S⟩ := I.run_append hlt (A k) (C k) (h8.below I.below) (hA k hlt)
          have hle := sumTo_step L hlt
          obtain ⟨v0, hct⟩ : ∃ v, w1.cell? ⟨w.heap.size + 1, k, none⟩ = some v := ⟨_, ht.cell hlt⟩
          have hfz : w1.frozen? ⟨w.heap.size + 1, k, none⟩ = false := ht.frozen k
          clear hcell h8 H hA I ht
          have HS : ∀ x, (L k ≤ 0 → x = 0) → (1 ≤ L k → x = sumTo L k) → CloneInv w n L Z (k + 1) (w1.setCell ⟨w.heap.size + 1, k, none⟩ (.slice (some ⟨w.heap.size, x, none⟩) (L k) (L k))) := by
            intro x hx1 hx2
            have : offOf L k = x := by
              unfold offOf
              by_cases h0 : L k = 0
              · rw [if_pos h0, hx1 (by omega)]
              · rw [if_neg h0, hx2 (by omega)]
            rw [← this]
            exact S
          clear S
          by_cases h0 : L k ≤ 0
          · go_wp2_with (at_builtin; refine wpList_append_run rfl (.tmp 33) (.tmp 34) 22 rfl _ _ rfl rfl _ _ hrun ?_)
            go_roundw
            case rel => exact ⟨k + 1, by omega, by go_num, rfl, HS _ (fun _ => rfl) (fun h => by omega)⟩
            case measure => simp [intOf]; omega
          · go_wp2_with (at_builtin; refine wpList_append_run rfl (.tmp 33) (.tmp 34) 22 rfl _ _ rfl rfl _ _ hrun ?_)
            go_roundw
            case rel => exact ⟨k + 1, by omega, by go_num, rfl, HS _ (fun h => by omega) (fun _ => rfl)⟩
            case measure => simp [intOf]; omega
        · obtain rfl : n = k := by omega
          go_wp2
          go_ret
          exact ⟨rfl, I⟩

set_option maxHeartbeats 400000 in
theorem clone_zero (w : World) (ao : Option Addr) (c : Nat) (L : Nat → Nat) (Z : Nat → Nat → Int) :
    Calls Tryd.prog 26 #[.slice ao 0 c] w fun e w' => e = .returned (.slice (some ⟨w.heap.size + 1, 0, none⟩) 0 0) ∧ CloneInv w 0 L Z 0 w' := by
  have hmk1 : ∀ w, (Instr.makeSlice 22 (.int .i64 0) (.int .i64 0)).run Tryd.prog w = .ok (.slice (some ⟨w.heap.size, 0, none⟩) 0 0) (w.alloc (.cells (madeCells #[.int .u8 0] 0) 5)) :=
    run_make_room (P := Tryd.prog) 22 5 (.int .u8 0) 1 Tryd.underlying22 Tryd.info5 rfl .i64 .i64 0 (by omega) (by omega)
  have hmk2 : ∀ w, (Instr.makeSlice 25 (.int .i64 0) (.int .i64 0)).run Tryd.prog w = .ok (.slice (some ⟨w.heap.size, 0, none⟩) 0 0) (w.alloc (.cells (madeCells #[.slice none 0 0] 0) 22)) :=
    run_make_row' (P := Tryd.prog) 25 22 (.slice none 0 0) 24 Tryd.underlying25 Tryd.info22 rfl .i64 .i64 0 (by omega) (by omega)
  have R := CloneInv.start w 0 L Z
  go_enter Tryd.func26, Tryd.ntmps26
  go_wp2
  refine wp_loop_rounds 1 ?_
  rw [rounds_succ]
  go_wp2
  refine wp_loop_rounds 1 ?_
  rw [rounds_succ]
  go_wp2
  go_ret
  exact ⟨rfl, R⟩

theorem clone_any (w : World) (ao : Option Addr) (n c : Nat) (A : Nat → Option Addr) (L C : Nat → Nat) (Z : Nat → Nat → Int) (hn : n ≤ 1099511627776) (hS : sumTo L n ≤ 1099511627776) (H : Holds88 w ao n A L C Z) (hA : ∀ r, r < n → A r = none → L r = 0) :
    Calls Tryd.prog 26 #[.slice ao n c] w fun e w' => e = .returned (.slice (some ⟨w.heap.size + 1, 0, none⟩) n n) ∧ CloneInv w n L Z n w' := by
  by_cases h : n = 0
  · subst h
    exact clone_zero w ao c L Z
  · obtain ⟨b, o, rfl, _⟩ := H 0 (by omega)
    exact clone_some w b o n c A L C Z hn hS H hA

/-- What CloneArgs hands back, read as a slice of byte slices. -/
theorem CloneInv.holds {w : World} {n : Nat} {L : Nat → Nat} {Z : Nat → Nat → Int} {wr : World} (I : CloneInv w n L Z n wr) (hz : ∀ r, r < n → ∀ i, i < L r → 0 ≤ Z r i ∧ Z r i ≤ 255) :
    Holds88 wr (some ⟨w.heap.size + 1, 0, none⟩) n (fun r => some ⟨w.heap.size, offOf L r, none⟩) L L Z := by
  intro r hr
  obtain ⟨F, hd, hF⟩ := I.data
  refine ⟨w.heap.size + 1, 0, rfl, ?_, Holds8.ofRow hd (fun i hi => ?_) (hz r hr)⟩
  · rw [Nat.zero_add, I.top.cell hr, if_pos hr]
  · have e : offOf L r = sumTo L r := by unfold offOf; rw [if_neg (by omega)]
    have := sumTo_step L hr
    rw [e]
    exact ⟨by omega, by rw [hF r hr i hi]⟩

end Go.Proofs.Qxb6601335aDoor
