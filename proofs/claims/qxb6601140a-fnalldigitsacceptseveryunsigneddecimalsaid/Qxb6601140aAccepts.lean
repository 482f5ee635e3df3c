/-
  FnAllDigitsAcceptsEveryUnsignedDecimal (5).
-/
import Derived.Test.Qxb6601140aDigits
import Derived.Deep.OwnRows
import Derived.Laws.BytesArg
namespace Go.Proofs.Qxb6601140a
open Go.RowKit

/-- Behind the rounds so far: place k is the last that was written; what is left of the number fits the places before it. -/
structure DecInv (w : World) (k : Nat) (a : Int) (f : Nat → Int) (wr : World) : Prop where
  below : Below w.heap.size w wr
  row : wr.rowIs w.heap.size 25 22 (fun j => .int .u8 (f j))
  dot : f 21 = 46
  digs : ∀ j, k ≤ j → j ≤ 20 → 48 ≤ f j ∧ f j ≤ 57
  left : a.toNat < 10 ^ (k - 1)

theorem DecInv.start (w : World) (n : Int) (h1 : n ≤ 18446744073709551615) : DecInv w 21 n (fun j => if j = 21 then 46 else 0) (w.alloc (.cells #[.int .u8 0, .int .u8 0, .int .u8 0, .int .u8 0, .int .u8 0, .int .u8 0, .int .u8 0, .int .u8 0, .int .u8 0, .int .u8 0, .int .u8 0, .int .u8 0, .int .u8 0, .int .u8 0, .int .u8 0, .int .u8 0, .int .u8 0, .int .u8 0, .int .u8 0, .int .u8 0, .int .u8 0, .int .u8 46] 25)) := by
  refine ⟨(Below.refl _ _).alloc (Nat.le_refl _) _, ⟨_, Deep.blk_alloc_new _ _, rfl, fun i hi => ?_⟩, rfl, fun j hj hj' => by omega, ?_⟩
  · rcases (show i = 0 ∨ i = 1 ∨ i = 2 ∨ i = 3 ∨ i = 4 ∨ i = 5 ∨ i = 6 ∨ i = 7 ∨ i = 8 ∨ i = 9 ∨ i = 10 ∨ i = 11 ∨ i = 12 ∨ i = 13 ∨ i = 14 ∨ i = 15 ∨ i = 16 ∨ i = 17 ∨ i = 18 ∨ i = 19 ∨ i = 20 ∨ i = 21 by omega) with rfl | rfl | rfl | rfl | rfl | rfl | rfl | rfl | rfl | rfl | rfl | rfl | rfl | rfl | rfl | rfl | rfl | rfl | rfl | rfl | rfl | rfl <;> rfl
  · have : (10 : Nat) ^ (21 - 1) = 100000000000000000000 := by decide
    omega

theorem DecInv.step {w wr : World} {k : Nat} {a : Int} {f : Nat → Int} (I : DecInv w k a f wr) (h0 : 0 ≤ a) (hk : 2 ≤ k) (hk' : k ≤ 21) :
    DecInv w (k - 1) (a / 10) (fun j => if j = k - 1 then 48 + a % 10 else f j) (wr.setCell ⟨w.heap.size, k - 1, none⟩ (.int .u8 (48 + a % 10))) := by
  refine ⟨I.below.setCell (Nat.le_refl _) _, (I.row.set (k - 1) _).congr (fun j _ => ?_), ?_, fun j hj hj' => ?_, ?_⟩
  · by_cases e : j = k - 1
    · rw [if_pos e, if_pos e]
    · rw [if_neg e, if_neg e]
  · rw [if_neg (by omega)]; exact I.dot
  · by_cases e : j = k - 1
    · rw [if_pos e]; omega
    · rw [if_neg e]; exact I.digs j (by omega) hj'
  · have hl := I.left
    have e : (10 : Nat) ^ (k - 1) = 10 ^ (k - 1 - 1) * 10 := by
      rw [← Nat.pow_succ]
      congr 1
      omega
    rw [e] at hl
    have e2 : (a / 10).toNat = a.toNat / 10 := by omega
    rw [e2]
    exact (Nat.div_lt_iff_lt_mul (by decide)).2 hl

theorem DecInv.more {w wr : World} {k : Nat} {a : Int} {f : Nat → Int} (I : DecInv w k a f wr) (h0 : 1 ≤ a) : 2 ≤ k := by
  have hl := I.left
  rcases Nat.lt_or_ge k 2 with h | h
  · have : k - 1 = 0 := by omega
    rw [this, Nat.pow_zero] at hl
    omega
  · exact h

theorem Try.arr25 : Try.prog.underlying 25 = some (.array 22 5) := Try.underlying25
theorem slice_arr (W : World) (B lo hi : Nat) (h1 : lo ≤ hi) (h2 : hi ≤ 22) (h3 : lo < 22) (L H : Int) (eL : L = lo) (eH : H = hi) :
    (Instr.sliceAt 25 (.pointer (some ⟨B, 0, none⟩)) (some (.int .i64 L)) (some (.int .i64 H)) none).run Try.prog W = .ok (.slice (some ⟨B, lo, none⟩) (hi - lo) (22 - lo)) W := by
  subst eL
  subst eH
  have ea : Try.prog.arrayLen 25 = 22 := by unfold Program.arrayLen; rw [Try.arr25]
  have ee : Try.prog.elem 25 = 5 := by kernel_rfl
  have es : ∀ W, (sizeOf 5).run Try.prog W = .ok 1 W := fun _ => by kernel_rfl
  have hr := run_sliceAt_array_lh (P := Try.prog) W 25 ⟨B, 0, none⟩ (by rw [ea, ee]; exact Try.arr25) .i64 .i64 (lo : Int) (hi : Int) (by omega) (by omega) (by rw [ea]; omega)
  rw [hr, ea, ee, es]
  have hne : ¬ 22 = lo := by omega
  simp [slicedAt, Result.andThen, hne, Addr.add_lit]

/-- The numbers from place lo on. -/
def win (g : Nat → Int) (lo len : Nat) : List Int := (List.range len).map fun i => g (lo + i)

theorem conv_win {W : World} {B : Nat} {g : Nat → Int} (hr : W.rowIs B 25 22 (fun j => .int .u8 (g j))) (lo len cap : Nat) (h : lo + len ≤ 22) :
    (convert 26 9 (.slice (some ⟨B, lo, none⟩) len cap)).run Try.prog W = .ok (.string (strOfNums (win g lo len))) W :=
  run_convert_bytes_arg (P := Try.prog) W 26 5 Try.underlying26 Try.underlying5 B lo len cap (win g lo len) (by simp [win]) (fun i hi => by
    rw [hr.cell (by omega)]
    simp [win, hi]) 9 Try.underlying9

theorem size_win (g : Nat → Int) (lo len : Nat) : (strOfNums (win g lo len)).size = len := by rw [strOfNums_size]; simp [win]

theorem dig_of {x : Int} (h1 : 48 ≤ x) (h2 : x ≤ 57) : isDig (UInt8.ofNat x.toNat) = true := by
  have : (UInt8.ofNat x.toNat).toNat = x.toNat := by simp; omega
  unfold isDig
  rw [this]
  simp
  omega

theorem win_get {g : Nat → Int} {lo len k : Nat} (hk : k < ((win g lo len).map fun n => UInt8.ofNat n.toNat).length) : ((win g lo len).map fun n => UInt8.ofNat n.toNat)[k] = UInt8.ofNat (g (lo + k)).toNat := by
  simp [win]

theorem plain_yes {g : Nat → Int} {lo len : Nat} (h0 : 0 < len) (h : ∀ j, lo ≤ j → j < lo + len → 48 ≤ g j ∧ g j ≤ 57) : adB (strOfNums (win g lo len)).data.toList = true := by
  rw [strOfNums_data]
  refine adB_good (by simp [win]; exact h0) (fun k hk => ?_)
  rw [win_get hk]
  have hk' : k < len := by simpa [win] using hk
  obtain ⟨a, b⟩ := h (lo + k) (by omega) (by omega)
  exact dig_of a b

theorem plain_no {g : Nat → Int} {lo len k : Nat} (hk : k < len) (h : g (lo + k) = 45 ∨ g (lo + k) = 46) : adB (strOfNums (win g lo len)).data.toList = false := by
  rw [strOfNums_data]
  have hk' : k < ((win g lo len).map fun n => UInt8.ofNat n.toNat).length := by simp [win]; exact hk
  refine adB_bad hk' ?_
  rw [win_get hk']
  rcases h with h | h <;> (rw [h]; decide)

set_option maxHeartbeats 400000 in
theorem accepts_walk (n : Int) (h0 : 0 ≤ n) (h1 : n ≤ 18446744073709551615) (w : World) :
    Calls Try.prog 5 #[.int .u64 n] w fun e w' => e = .returned (.bool true) ∧ Below w.heap.size w w' := by
  have S := DecInv.start w n h1
  go_enter Try.func5, Try.ntmps5
  go_wp2
  go_loopw [4, 5] (fun i m wr => ∃ (k : Nat) (a : Int) (f : Nat → Int), i = .int .i64 k ∧ m = .int .u64 a ∧ 2 ≤ k ∧ k ≤ 21 ∧ 0 ≤ a ∧ a ≤ 18446744073709551615 ∧ DecInv w k a f wr) (fun i _ _ => (intOf i).toNat)
  case atStart => exact ⟨21, n, _, rfl, rfl, by omega, by omega, h0, h1, S⟩
  case round =>
    obtain ⟨k, a, f, rfl, rfl, hk, hk', ha0, ha1, I⟩ := hrel
    have N := I.step ha0 hk hk'
    obtain ⟨v0, hc⟩ : ∃ v, wr.cell? ⟨w.heap.size, k - 1, none⟩ = some v := ⟨_, I.row.cell (by omega)⟩
    have hfz : wr.frozen? ⟨w.heap.size, k - 1, none⟩ = false := I.row.frozen _
    clear S
    by_cases hz : a / 10 = 0
    · have hz' : (a / 10 == 0) = true := beq_iff_eq.2 hz
      obtain ⟨v1, hc1⟩ : ∃ v, wr.cell? ⟨w.heap.size, k - 1 - 1, none⟩ = some v := ⟨_, I.row.cell (by omega)⟩
      have hfz1 : wr.frozen? ⟨w.heap.size, k - 1 - 1, none⟩ = false := I.row.frozen _
      have hR := N.row.set (k - 1 - 1) (.int .u8 45)
      obtain ⟨g, hg⟩ : ∃ g : Nat → Int, g = fun j => if j = k - 1 - 1 then 45 else if j = k - 1 then 48 + a % 10 else f j := ⟨_, rfl⟩
      have R : ((wr.setCell ⟨w.heap.size, k - 1, none⟩ (.int .u8 (48 + a % 10))).setCell ⟨w.heap.size, k - 1 - 1, none⟩ (.int .u8 45)).rowIs w.heap.size 25 22 (fun j => .int .u8 (g j)) := hR.congr (fun j _ => by
        rw [hg]
        dsimp only
        by_cases e : j = k - 1 - 1
        · rw [if_pos e, if_pos e]
        · rw [if_neg e, if_neg e])
      have gm : g (k - 1 - 1 + 0) = 45 := by rw [hg]; simp
      have gd : g 21 = 46 := by
        rw [hg]
        dsimp only
        rw [if_neg (by omega)]
        exact N.dot
      have gs : ∀ j, k - 1 ≤ j → j < k - 1 + (21 - (k - 1)) → 48 ≤ g j ∧ g j ≤ 57 := fun j h1 h2 => by
        rw [hg]
        dsimp only
        rw [if_neg (by omega)]
        exact N.digs j (by omega) (by omega)
      have bel := N.below.setCell (p := ⟨w.heap.size, k - 1 - 1, none⟩) (Nat.le_refl _) (.int .u8 45)
      have HY : Hid (adB (strOfNums (win g (k - 1) (21 - (k - 1)))).data.toList = true) := plain_yes (by omega) gs
      have HM : Hid (adB (strOfNums (win g (k - 1 - 1) (21 - (k - 1 - 1)))).data.toList = false) := plain_no (k := 0) (by omega) (.inl gm)
      have HD : Hid (adB (strOfNums (win g (k - 1) (22 - (k - 1)))).data.toList = false) := plain_no (k := 22 - (k - 1) - 1) (by omega) (.inr (by rw [show k - 1 + (22 - (k - 1) - 1) = 21 by omega]; exact gd))
      have s1 := fun W => slice_arr W w.heap.size (k - 1) 21 (by omega) (by omega) (by omega) ((k : Int) - 1) 21 (by omega) rfl
      have s2 := fun W => slice_arr W w.heap.size (k - 1 - 1) 21 (by omega) (by omega) (by omega) ((k : Int) - 1 - 1) 21 (by omega) rfl
      have s3 := fun W => slice_arr W w.heap.size (k - 1) 22 (by omega) (by omega) (by omega) ((k : Int) - 1) 22 (by omega) rfl
      have c1 := conv_win R (k - 1) (21 - (k - 1)) (22 - (k - 1)) (by omega)
      have c2 := conv_win R (k - 1 - 1) (21 - (k - 1 - 1)) (22 - (k - 1 - 1)) (by omega)
      have c3 := conv_win R (k - 1) (22 - (k - 1)) (22 - (k - 1)) (by omega)
      have z1 := size_win g (k - 1) (21 - (k - 1))
      have z2 := size_win g (k - 1 - 1) (21 - (k - 1 - 1))
      have z3 := size_win g (k - 1) (22 - (k - 1))
      generalize strOfNums (win g (k - 1) (21 - (k - 1))) = t1 at c1 z1 HY
      generalize strOfNums (win g (k - 1 - 1) (21 - (k - 1 - 1))) = t2 at c2 z2 HM
      generalize strOfNums (win g (k - 1) (22 - (k - 1))) = t3 at c3 z3 HD
      have m1 := zzAllDigits_any t1 ((wr.setCell ⟨w.heap.size, k - 1, none⟩ (.int .u8 (48 + a % 10))).setCell ⟨w.heap.size, k - 1 - 1, none⟩ (.int .u8 45)) (by unfold maxLen; omega)
      have m2 := zzAllDigits_any t2 ((wr.setCell ⟨w.heap.size, k - 1, none⟩ (.int .u8 (48 + a % 10))).setCell ⟨w.heap.size, k - 1 - 1, none⟩ (.int .u8 45)) (by unfold maxLen; omega)
      have m3 := zzAllDigits_any t3 ((wr.setCell ⟨w.heap.size, k - 1, none⟩ (.int .u8 (48 + a % 10))).setCell ⟨w.heap.size, k - 1 - 1, none⟩ (.int .u8 45)) (by unfold maxLen; omega)
      rw [HY.out] at m1
      rw [HM.out] at m2
      rw [HD.out] at m3
      clear hz I hg gm gd gs HY HM HD z1 z2 z3 hR R N
      go_wp2_with fail
      refine m1.mono ?_
      rintro e w1 ⟨rfl, rfl⟩
      go_wp2_with fail
      refine m2.mono ?_
      rintro e w1 ⟨rfl, rfl⟩
      go_wp2_with fail
      refine m3.mono ?_
      rintro e w1 ⟨rfl, rfl⟩
      go_wp2
      go_ret
      exact ⟨rfl, bel⟩
    · have hz' : (a / 10 == 0) = false := beq_eq_false_iff_ne.2 hz
      have hm := N.more (by omega)
      clear I
      go_wp2
      go_roundw
      case rel => exact ⟨k - 1, a / 10, _, by go_num, rfl, hm, by omega, by omega, by omega, N⟩
      case measure => simp [intOf]; omega

end Go.Proofs.Qxb6601140a
