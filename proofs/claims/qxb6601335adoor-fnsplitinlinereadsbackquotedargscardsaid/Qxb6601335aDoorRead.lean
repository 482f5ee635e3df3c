/-
  FnSplitInlineReadsBackQuotedArgs (4): the quoted line reads back as the arguments.
-/
import Derived.Test.Qxb6601335aDoorUnesc
import Derived.Test.Qxb6601335aDoorLaid
import Derived.Test.Qxb6601335aDoorQuote
import Derived.Test.Qxb6601335aDoorReadP
import Derived.Test.Qxb6601335aDoorFit
import Derived.Test.Qxb6601335aDoorCopyArgs
namespace Go.Proofs.Qxb6601335aDoor
open Go.RowKit

set_option maxHeartbeats 400000 in
set_option maxRecDepth 100000 in
theorem split_none (w : World) : Calls Tryd.prog 18 #[.slice none 0 0] w fun e w' => ∃ g : Addr, e = .returned (.tuple #[.slice (some g) 0 0, .bool true]) ∧ Below w.heap.size w w' := by
  go_enter Tryd.func18, Tryd.ntmps18
  go_wp2
  refine wp_loop_rounds 1 ?_
  rw [rounds_succ]
  go_wp2
  go_step3
  go_wp2
  refine wp_loop_rounds 1 ?_
  rw [rounds_succ]
  go_wp2_with fail
  refine (clone_zero _ _ _ (fun _ => 0) (fun _ _ => 0)).mono ?_
  rintro e w1 ⟨rfl, I⟩
  have hb := I.below
  clear I
  go_wp2
  try rw [Exit.noGoto_ret]
  go_ret2
  exact ⟨_, rfl, hb⟩

set_option maxHeartbeats 400000 in
theorem zzsplit_none (w : World) : Calls Tryd.prog 9 #[.slice none 0 0] w fun e w' => ∃ g : Addr, e = .returned (.tuple #[.slice (some g) 0 0, .bool true]) ∧ Below w.heap.size w w' := by
  have hsp := split_none w
  go_enter Tryd.func9, Tryd.ntmps9
  go_wp2_with fail
  refine hsp.mono ?_
  rintro e w' ⟨g, rfl, hb⟩
  go_wp2
  go_ret2
  exact ⟨g, rfl, hb⟩

set_option maxHeartbeats 400000 in
theorem read_nil (w : World) : Calls Tryd.prog 4 #[.slice none 0 0] w fun e w' => e = .returned (.bool true) ∧ Below w.heap.size w w' := by
  have H : Holds88 w none 0 (fun _ => none) (fun _ => 0) (fun _ => 0) (fun _ _ => 0) := fun r hr => by omega
  go_enter Tryd.func4, Tryd.ntmps4
  go_wp2_with fail
  refine (bytes12_any _ _ _ _ _ _ _ _ H).mono ?_
  rintro e w1 ⟨⟨bb, rfl⟩, hw⟩
  obtain rfl := hw.symm
  clear hw
  cases bb
  · go_wp2
    go_ret
    exact ⟨rfl, Below.refl _ _⟩
  go_wp2_with fail
  refine (fit_any _ _ _ _ _ _ _ _ H).mono ?_
  rintro e w1 ⟨⟨bb, rfl, _⟩, hw⟩
  obtain rfl := hw.symm
  clear hw
  cases bb
  · go_wp2
    go_ret
    exact ⟨rfl, Below.refl _ _⟩
  go_wp2_with fail
  refine (copyArgs_none _).mono ?_
  rintro e w1 ⟨rfl, hw⟩
  obtain rfl := hw.symm
  clear hw
  go_wp2
  refine wp_loop_rounds 1 ?_
  rw [rounds_succ]
  go_wp2_with fail
  refine (zzsplit_none _).mono ?_
  rintro e w1 ⟨g, rfl, hb⟩
  go_wp2_with fail
  refine (laid_zero _ _ _ _ _).mono ?_
  rintro e w2 ⟨rfl, m, rfl⟩
  go_wp2
  go_ret
  exact ⟨rfl, below_drewN hb _⟩

set_option maxHeartbeats 400000 in
theorem read_zero (w : World) (ad : Addr) (c : Nat) (A : Nat → Option Addr) (L : Nat → Nat) (Z : Nat → Nat → Int) : Calls Tryd.prog 4 #[.slice (some ad) 0 c] w fun e w' => e = .returned (.bool true) ∧ Below w.heap.size w w' := by
  have H : Holds88 w (some ad) 0 (fun _ => none) (fun _ => 0) (fun _ => 0) (fun _ _ => 0) := fun r hr => by omega
  go_enter Tryd.func4, Tryd.ntmps4
  go_wp2_with fail
  refine (bytes12_any _ _ _ _ _ _ _ _ H).mono ?_
  rintro e w1 ⟨⟨bb, rfl⟩, hw⟩
  obtain rfl := hw.symm
  clear hw
  cases bb
  · go_wp2
    go_ret
    exact ⟨rfl, Below.refl _ _⟩
  go_wp2_with fail
  refine (fit_any _ _ _ _ _ _ _ _ H).mono ?_
  rintro e w1 ⟨⟨bb, rfl, _⟩, hw⟩
  obtain rfl := hw.symm
  clear hw
  cases bb
  · go_wp2
    go_ret
    exact ⟨rfl, Below.refl _ _⟩
  go_wp2_with fail
  refine (copyArgs_zero w ad c A L Z).mono ?_
  rintro e w1 ⟨rfl, G, I⟩
  have b1 := I.below
  clear I
  go_wp2
  refine wp_loop_rounds 1 ?_
  rw [rounds_succ]
  go_wp2_with fail
  refine (zzsplit_none _).mono ?_
  rintro e w2 ⟨g, rfl, b2⟩
  have hb := b1.trans (b2.mono b1.size)
  clear b1 b2
  go_wp2_with fail
  refine (laid_zero _ _ _ _ _).mono ?_
  rintro e w3 ⟨rfl, m, rfl⟩
  go_wp2
  go_ret
  exact ⟨rfl, below_drewN hb _⟩

set_option maxHeartbeats 1000000 in
theorem read_pos (w : World) (ad : Addr) (n c : Nat) (hn0 : 0 < n) (A : Nat → Option Addr) (C : Nat → Nat) (xs : List (List Int)) (hxs : xs.length = n) (H : Holds88 w (some ad) n A (lenOf xs) C (byteOf xs)) (hA : ∀ r, r < n → A r = none → lenOf xs r = 0 ∧ C r = 0) (hb : ∀ x ∈ xs, Byt x)
    (ev : Value) (hev : w.cell? ⟨0, 0, none⟩ = some ev) (hev2 : ev = .nilIface ∨ ∃ te pe, ev = .iface te pe) :
    Calls Tryd.prog 4 #[.slice (some ad) n c] w fun e w' => e = .returned (.bool true) ∧ Below w.heap.size w w' := by
  have HE : Hid (w.cell? ⟨0, 0, none⟩ = some ev) := hev
  have HE2 : Hid (ev = .nilIface ∨ ∃ te pe, ev = .iface te pe) := hev2
  have HX : Hid (xs.length = n) := hxs
  have HB : Hid (∀ x ∈ xs, Byt x) := hb
  have HA : Hid (∀ r, r < n → A r = none → lenOf xs r = 0 ∧ C r = 0) := hA
  clear hev hev2 hxs hb hA
  go_enter Tryd.func4, Tryd.ntmps4
  go_wp2_with fail
  refine (bytes12_any _ _ _ _ _ _ _ _ H).mono ?_
  rintro e w1 ⟨⟨bb, rfl⟩, hw⟩
  obtain rfl := hw.symm
  clear hw
  cases bb
  · go_wp2
    go_ret
    exact ⟨rfl, Below.refl _ _⟩
  go_wp2_with fail
  refine (fit_any _ _ _ _ _ _ _ _ H).mono ?_
  rintro e w1 ⟨⟨bb, rfl, hfit⟩, hw⟩
  obtain rfl := hw.symm
  clear hw
  cases bb
  · clear hfit
    go_wp2
    go_ret
    exact ⟨rfl, Below.refl _ _⟩
  obtain ⟨hn, hsum⟩ := hfit rfl
  have hL : ∀ r, r < n → lenOf xs r ≤ 1048576 := fun r hr => by
    have := sumTo_step (lenOf xs) hr
    omega
  have HS : Hid (24 * n + sumTo (lenOf xs) n ≤ 1048576) := hsum
  clear hfit hsum
  go_wp2_with fail
  refine (copyArgs_any w ad n c A (lenOf xs) C (byteOf xs) hn H hL HA.out).mono ?_
  rintro e w2 ⟨rfl, G, I⟩
  have HC := I.holds (fun r hr h => (HA.out r hr h).1) (fun r hr i hi => by
    obtain ⟨_, _, _, _, h3⟩ := H r hr
    obtain ⟨_, _, _, _, h⟩ := h3 i hi
    exact h)
  have b1 := I.below
  have hev1 : Hid (w2.cell? ⟨0, 0, none⟩ = some ev) := cell_later b1 HE.out
  clear I H HE HA
  generalize hA' : (fun r => (A r).map fun _ => (⟨G r, 0, none⟩ : Addr)) = A' at HC
  clear hA'
  have HL : Hid (∀ r, r < n → lenOf xs r ≤ 1048576) := hL
  clear hL
  go_wp2
  go_loopw [3, 4, 5] (fun vl i _ wr => ∃ (k : Nat) (line : List Int), k ≤ n ∧ i = .int .i64 k ∧ ArgInv w2 line vl wr ∧ LineRel xs k line) (fun _ i _ _ => n - (intOf i).toNat)
  case atStart => exact ⟨0, [], Nat.zero_le _, rfl, ArgInv.nil w2, LineRel.start xs⟩
  case round =>
    obtain ⟨k, line, hk, rfl, I, R⟩ := hrel
    by_cases hlt : k < n
    · have hLk := HL.out k hlt
      have hlen : line.length ≤ 1099511627776 := by
        have := R.len
        have := HS.out
        have := sumTo_mono (lenOf xs) hk
        omega
      obtain ⟨ao3, c3, rfl⟩ := own_shape I.own
      rcases Nat.eq_zero_or_pos k with hk0 | hk0
      · subst hk0
        go_wp2_with (at_builtin; refine wpList_push rfl (.tmp 27) (.tmp 28) rfl (c := 34) I ⟨by omega, by omega⟩ hlen rfl rfl ?_; intro v5 w5 I5)
        have S := R.first rfl
        clear I R hlen
        go_wp2
        go_loopw [3, 5] (fun vl j wr => ∃ (m : Nat) (line : List Int), m ≤ lenOf xs 0 ∧ j = .int .i64 m ∧ ArgInv w2 line vl wr ∧ CellRel xs 0 m line) (fun _ j _ => lenOf xs 0 - (intOf j).toNat)
        case atStart => exact ⟨0, _, Nat.zero_le _, rfl, I5, S⟩
        case round =>
          obtain ⟨m, line6, hm, rfl, I6, T⟩ := hrel
          clear I5 S
          obtain ⟨b', o', e, hcell, h8⟩ := (HC.below I6.below) 0 hlt
          cases e
          rw [Nat.zero_add] at hcell
          obtain ⟨ao6, c6, rfl⟩ := own_shape I6.own
          have hlen6 : line6.length ≤ 1099511627776 := by
            have := T.len
            have := HS.out
            have := sumTo_mono (lenOf xs) hk
            omega
          by_cases hmt : m < lenOf xs 0
          · obtain ⟨b6, o6, e6, hbyte, hz0, hz1⟩ := h8 m hmt
            rw [e6] at hcell
            have S6 := T.step hmt
            clear h8 e6 T HC
            go_wp2_with fail
            refine (quoteByte_any w2 _ line6 _ (byteOf xs 0 m) I6 hz0 hz1 hlen6).mono ?_
            rintro e w7 ⟨v7, rfl, I7⟩
            clear hcell hbyte I6
            go_wp2
            go_roundw
            case rel => exact ⟨m + 1, _, by omega, by go_num, I7, S6⟩
            case measure => simp [intOf]; omega
          · have hme : m = lenOf xs 0 := by omega
            have S6 := T.close (by rw [HX.out]; exact hlt) hme
            clear h8 T HC
            go_wp2_with (at_builtin; refine wpList_push rfl (.tmp 48) (.tmp 49) rfl (c := 34) I6 ⟨by omega, by omega⟩ hlen6 rfl rfl ?_; intro v8 w8 I8)
            go_roundw
            case rel => exact ⟨0 + 1, _, by omega, by go_num, I8, S6⟩
            case measure => simp [intOf]; omega
      · have hlen4 : (line ++ [32]).length ≤ 1099511627776 := by
          have := R.len
          have := HS.out
          have := sumTo_mono (lenOf xs) hk
          rw [List.length_append, List.length_singleton]
          omega
        have S := R.more hk0
        go_wp2_with (at_builtin; first | (refine wpList_push rfl (.tmp 24) (.tmp 25) rfl (c := 32) I ⟨by omega, by omega⟩ hlen rfl rfl ?_; intro v4 w4 I4) | (refine wpList_push rfl (.tmp 27) (.tmp 28) rfl (c := 34) I4 ⟨by omega, by omega⟩ hlen4 rfl rfl ?_; intro v5 w5 I5))
        clear I R hlen I4 hlen4
        go_wp2
        go_loopw [3, 5] (fun vl j wr => ∃ (m : Nat) (line : List Int), m ≤ lenOf xs k ∧ j = .int .i64 m ∧ ArgInv w2 line vl wr ∧ CellRel xs k m line) (fun _ j _ => lenOf xs k - (intOf j).toNat)
        case atStart => exact ⟨0, _, Nat.zero_le _, rfl, I5, S⟩
        case round =>
          obtain ⟨m, line6, hm, rfl, I6, T⟩ := hrel
          clear I5 S
          obtain ⟨b', o', e, hcell, h8⟩ := (HC.below I6.below) k hlt
          cases e
          rw [Nat.zero_add] at hcell
          obtain ⟨ao6, c6, rfl⟩ := own_shape I6.own
          have hlen6 : line6.length ≤ 1099511627776 := by
            have := T.len
            have := HS.out
            have := sumTo_mono (lenOf xs) hk
            omega
          by_cases hmt : m < lenOf xs k
          · obtain ⟨b6, o6, e6, hbyte, hz0, hz1⟩ := h8 m hmt
            rw [e6] at hcell
            have S6 := T.step hmt
            clear h8 e6 T HC
            go_wp2_with fail
            refine (quoteByte_any w2 _ line6 _ (byteOf xs k m) I6 hz0 hz1 hlen6).mono ?_
            rintro e w7 ⟨v7, rfl, I7⟩
            clear hcell hbyte I6
            go_wp2
            go_roundw
            case rel => exact ⟨m + 1, _, by omega, by go_num, I7, S6⟩
            case measure => simp [intOf]; omega
          · have hme : m = lenOf xs k := by omega
            have S6 := T.close (by rw [HX.out]; exact hlt) hme
            clear h8 T HC
            go_wp2_with (at_builtin; refine wpList_push rfl (.tmp 48) (.tmp 49) rfl (c := 34) I6 ⟨by omega, by omega⟩ hlen6 rfl rfl ?_; intro v8 w8 I8)
            go_roundw
            case rel => exact ⟨k + 1, _, by omega, by go_num, I8, S6⟩
            case measure => simp [intOf]; omega
    · obtain rfl : k = n := by omega
      have hpos := (show LineRel xs xs.length line by rw [HX.out]; exact R).pos (by rw [HX.out]; exact hn0)
      have HR : Hid (splitP line = some xs) := (show LineRel xs xs.length line by rw [HX.out]; exact R).done HB.out
      have hlen : line.length ≤ 1099511627776 := by
        have := R.len
        have := HS.out
        omega
      obtain ⟨g, cp, rfl, hcp, H8⟩ := I.holds hpos
      have b12 := b1.trans (I.below.mono b1.size)
      have HC3 := HC.below I.below
      have hev3 := cell_later I.below hev1.out
      clear I R HC b1 hev1 HB
      go_wp2_with fail
      refine (zzsplit_walk _ g 0 line.length cp line hlen hcp rfl H8 ev hev3 HE2.out).mono ?_
      intro e w4 hp
      rw [HR.out] at hp
      obtain ⟨b2, ht, hn2, g2, GA, rfl, HG⟩ := hp
      have HC4 := HC3.below b2
      have b13 := b12.trans (b2.mono b12.size)
      rw [HX.out] at HG hn2 ⊢
      clear H8 HC3 hev3 b2 b12 HR HE2
      go_wp2_with fail
      refine (laid_any _ g2 _ k _ _ GA _ (lenOf xs) (lenOf xs) (byteOf xs) (by omega) HL.out HG HC4).mono ?_
      rintro e w5 ⟨rfl, m, rfl⟩
      go_wp2
      go_ret
      exact ⟨rfl, below_drewN b13 _⟩

/-- .. at every slice of byte slices that is not nil. -/
theorem read_some (w : World) (ad : Addr) (n c : Nat) (A : Nat → Option Addr) (L C : Nat → Nat) (Z : Nat → Nat → Int) (H : Holds88 w (some ad) n A L C Z) (hA : ∀ r, r < n → A r = none → L r = 0 ∧ C r = 0)
    (ev : Value) (hev : w.cell? ⟨0, 0, none⟩ = some ev) (hev2 : ev = .nilIface ∨ ∃ te pe, ev = .iface te pe) :
    Calls Tryd.prog 4 #[.slice (some ad) n c] w fun e w' => e = .returned (.bool true) ∧ Below w.heap.size w w' := by
  by_cases h : n = 0
  · subst h
    exact read_zero w ad c A L Z
  · exact read_pos w ad n c (by omega) A C (listOf n L Z) (listOf_len _ _ _) (holds88_list H) (fun r hr h0 => by rw [listOf_lenOf hr]; exact hA r hr h0) (byt_list H) ev hev hev2

end Go.Proofs.Qxb6601335aDoor
