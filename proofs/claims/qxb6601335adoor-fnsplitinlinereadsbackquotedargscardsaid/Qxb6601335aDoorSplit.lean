/-
  resp.splitInline (18): it answers as the plain function splitP says.
-/
import Derived.Test.Qxb6601335aDoorSplitM
import Derived.Test.Qxb6601335aDoorSplitR
import Derived.Test.Qxb6601335aDoorSmall
import Derived.Test.Qxb6601335aDoorHex
import Derived.Test.Qxb6601335aDoorClone
namespace Go.Proofs.Qxb6601335aDoor
open Go.RowKit

/-- What splitInline leaves: refused: (nil, false); else the arguments, each in a slice that is not nil and capped at its end. -/
def SplitPost (w : World) (l : Nat) (R : Option (List (List Int))) (e : Ending) (w' : World) : Prop :=
  Below w.heap.size w w' ∧ match R with
  | none => e = .returned (.tuple #[.slice none 0 0, .bool false])
  | some xs => tot xs ≤ l ∧ xs.length ≤ l ∧ ∃ (g : Addr) (GA : Nat → Addr), e = .returned (.tuple #[.slice (some g) xs.length xs.length, .bool true]) ∧ Holds88 w' (some g) xs.length (fun r => some (GA r)) (lenOf xs) (lenOf xs) (byteOf xs)

theorem SplitPost.no {w w' : World} {l : Nat} {R : Option (List (List Int))} {e : Ending} (hR : R = none) (he : e = .returned (.tuple #[.slice none 0 0, .bool false])) (hb : Below w.heap.size w w') : SplitPost w l R e w' := by
  subst hR
  exact ⟨hb, he⟩

theorem SplitPost.yes {w w' : World} {l : Nat} {R : Option (List (List Int))} {e : Ending} {xs : List (List Int)} {g : Addr} {GA : Nat → Addr} (hR : R = some xs) (h1 : tot xs ≤ l) (h2 : xs.length ≤ l) (he : e = .returned (.tuple #[.slice (some g) xs.length xs.length, .bool true]))
    (H : Holds88 w' (some g) xs.length (fun r => some (GA r)) (lenOf xs) (lenOf xs) (byteOf xs)) (hb : Below w.heap.size w w') : SplitPost w l R e w' := by
  subst hR
  exact ⟨hb, h1, h2, g, GA, he, H⟩

theorem line_at {w wx : World} {b o l : Nat} {zs : List Int} (H : Holds8 w (some ⟨b, o, none⟩) l (fun i => zs.getD i 0)) (hb : Below w.heap.size w wx) {i : Nat} (hi : i < l) :
    wx.cell? ⟨b, o + i, none⟩ = some (.int .u8 (zs.getD i 0)) ∧ 0 ≤ zs.getD i 0 ∧ zs.getD i 0 ≤ 255 := by
  obtain ⟨_, _, e, h1, h2⟩ := H i hi
  cases e
  exact ⟨cell_later hb h1, h2⟩

set_option maxHeartbeats 16000000 in
set_option maxRecDepth 100000 in
theorem split_walk (w : World) (b o l cp : Nat) (zs : List Int) (hl : l ≤ 1099511627776) (hlc : l ≤ cp) (hzl : zs.length = l) (H : Holds8 w (some ⟨b, o, none⟩) l (fun i => zs.getD i 0)) (ev : Value) (hev : w.cell? ⟨0, 0, none⟩ = some ev) (hev2 : ev = .nilIface ∨ ∃ te pe, ev = .iface te pe) :
    Calls Tryd.prog 18 #[.slice (some ⟨b, o, none⟩) l cp] w fun e w' => SplitPost w l (splitP zs) e w' := by
  go_enter Tryd.func18, Tryd.ntmps18
  go_wp2
  have HZ : Hid (zs.length = l) := hzl
  have HE : Hid (w.cell? ⟨0, 0, none⟩ = some ev ∧ (ev = .nilIface ∨ ∃ te pe, ev = .iface te pe)) := ⟨hev, hev2⟩
  clear hzl hev hev2
  go_loopw [2, 4] (fun va i wr => ∃ (k : Nat) (done : List (List Int)), i = .int .i64 k ∧ k ≤ l ∧ ArgsInv w done va wr ∧ SplitRel zs k done) (fun _ i _ => l - (intOf i).toNat)
  case atStart => exact ⟨0, [], rfl, Nat.zero_le _, ArgsInv.start w, SplitRel.start zs⟩
  case round =>
    obtain ⟨k, done, rfl, hk, J, S⟩ := hrel
    rename World => w0
    go_wp2
    go_step3
    go_wp2
    go_loopw [4] (fun i wx => ∃ k2 : Nat, i = .int .i64 k2 ∧ k ≤ k2 ∧ k2 ≤ l ∧ Hid (skipSp (zs.drop k2) = skipSp (zs.drop k)) ∧ wx = w0) (fun i _ => l - (intOf i).toNat)
    case atStart => exact ⟨k, rfl, Nat.le_refl _, hk, rfl, rfl⟩
    case round =>
      obtain ⟨k2, rfl, hk2, hk2', hs, hw0⟩ := hrel
      obtain rfl := hw0.symm
      clear hw0
      by_cases h1 : k2 < l
      · obtain ⟨hc, hb0, hb1⟩ := line_at H J.below h1
        cases hsp : isSp (zs.getD k2 0) with
        | true =>
          have hs' : Hid (skipSp (zs.drop (k2 + 1)) = skipSp (zs.drop k)) := by
            have := hs.out
            rw [drop_at (by rw [HZ.out]; exact h1), skipSp_yes hsp] at this
            exact this
          have hsc := fun W => isSpace_is (zs.getD k2 0) W true hsp
          generalize zs.getD k2 0 = c at hc hsc hb0 hb1
          clear hsp hs H J S
          go_wp2_with (go_at_call 25; refine (hsc _).mono ?_; rintro e w' ⟨rfl, rfl⟩)
          go_roundw
          case rel => exact ⟨k2 + 1, by go_num, by omega, by omega, hs', trivial⟩
          case measure => simp [intOf]; omega
        | false =>
          have hne : ((k2 : Int) == (l : Int)) = false := beq_eq_false_iff_ne.2 (by omega)
          have hz1 : k2 < zs.length := by rw [HZ.out]; exact h1
          have NX : Hid (∀ (k3 : Nat) (arg : List Int), k2 < k3 → k3 ≤ l → arg.length + k2 ≤ k3 → argEnd zs k2 = some (zs.drop k3, arg) → SplitRel zs k3 (done ++ [arg])) :=
            fun k3 arg h3 h4 h5 h6 => S.next hs.out hk2 hz1 hsp h3 (by rw [HZ.out]; exact h4) h5 h6
          have BD : Hid (argEnd zs k2 = none → splitP zs = none) := fun h => S.bad hs.out hz1 hsp h
          have RS : Hid (ArgRel zs k2 k2 0 []) := ArgRel.start (by omega)
          have NS : Hid (isSp (zs.getD k2 0) = false) := hsp
          have hcnt : done.length ≤ l := Nat.le_trans S.cnt hk
          have hsc := fun W => isSpace_is (zs.getD k2 0) W false hsp
          generalize zs.getD k2 0 = c at hc hsc hb0 hb1
          clear hsp hs S hz1
          go_wp2_with (go_at_call 25; refine (hsc _).mono ?_; rintro e w' ⟨rfl, rfl⟩)
          clear hsc hc
          go_step3
          go_wp2
          go_loopw [2, 4, 5, 6] (fun x2 i v qv wx => ∃ (k3 : Nat) (q : Int) (arg : List Int), x2 = u2 ∧ i = .int .i64 k3 ∧ qv = .int .u8 q ∧ k2 ≤ k3 ∧ k3 ≤ l ∧ ArgInv w0 arg v wx ∧ Hid (ArgRel zs k2 k3 q arg)) (fun _ i _ _ _ => l - (intOf i).toNat)
          case atStart => exact ⟨k2, 0, [], rfl, rfl, rfl, Nat.le_refl _, hk2', ArgInv.start w0, RS⟩
          case round =>
            obtain ⟨k3, q, arg, hx2, rfl, rfl, hk3, hk3', I, R⟩ := hrel
            obtain rfl := hx2.symm
            clear hx2
            have bl := J.below.trans (I.below.mono J.below.size)
            have hlen : arg.length ≤ 1099511627776 := by have := R.out.len; omega
            obtain ⟨ao5, c5, hv5⟩ := own_shape I.own
            subst hv5
            by_cases hq0 : q = 0
            · subst hq0
              by_cases h3 : k3 < l
              · obtain ⟨hc, hb0, hb1⟩ := line_at H bl h3
                have hz3 : k3 < zs.length := by rw [HZ.out]; exact h3
                have hkl : ((k3 : Int) == (l : Int)) = false := beq_eq_false_iff_ne.2 (by omega)
                cases hsp : isSp (zs.getD k3 0) with
                | true =>
                  have hlt : k2 < k3 := by
                    rcases Nat.lt_or_ge k2 k3 with h | h
                    · exact h
                    · have : k3 = k2 := by omega
                      subst this
                      rw [NS.out] at hsp
                      cases hsp
                  have N : SplitRel zs k3 (done ++ [arg]) := NX.out k3 arg hlt hk3' R.out.len (R.out.sp hz3 hsp)
                  have hsc := fun W => isSpace_is (zs.getD k3 0) W true hsp
                  generalize zs.getD k3 0 = c at hc hsc hb0 hb1
                  clear hsp hz3 R NX BD RS NS H HZ HE bl hlen
                  as_aux_lemma =>
                    go_wp2_with (first | (go_at_call 25; refine (hsc _).mono ?_; rintro e w' ⟨rfl, rfl⟩) | (at_builtin; refine wpList_pushArg rfl (.tmp 175) (.tmp 177) rfl J I (Nat.le_trans hcnt hl) rfl rfl ?_; intro va' w5 J5))
                    try (rw [Exit.noGoto_normal]; go_wp2)
                    go_roundw
                    case rel => exact ⟨k3, done ++ [arg], by go_num, by omega, J5, N⟩
                    case measure => simp [intOf]; omega
                | false =>
                  have hsc := fun W => isSpace_is (zs.getD k3 0) W false hsp
                  by_cases h34 : zs.getD k3 0 = 34
                  · have N : Hid (ArgRel zs k2 (k3 + 1) 34 arg) := by
                      have := R.out.open hz3 hsp (.inl h34)
                      rwa [h34] at this
                    rw [h34] at hc hsc
                    clear h34 hsp hz3 R NX BD RS NS H HZ HE bl hlen
                    go_wp2_with ((go_at_call 25; refine (hsc _).mono ?_; rintro e w' ⟨rfl, rfl⟩))
                    go_roundw
                    case rel => exact ⟨k3 + 1, 34, _, rfl, by go_num, rfl, by omega, by omega, I, N⟩
                    case measure => simp [intOf]; omega
                  · by_cases h39 : zs.getD k3 0 = 39
                    · have N : Hid (ArgRel zs k2 (k3 + 1) 39 arg) := by
                        have := R.out.open hz3 hsp (.inr h39)
                        rwa [h39] at this
                      rw [h39] at hc hsc
                      clear h34 h39 hsp hz3 R NX BD RS NS H HZ HE bl hlen
                      go_wp2_with ((go_at_call 25; refine (hsc _).mono ?_; rintro e w' ⟨rfl, rfl⟩))
                      go_roundw
                      case rel => exact ⟨k3 + 1, 39, _, rfl, by go_num, rfl, by omega, by omega, I, N⟩
                      case measure => simp [intOf]; omega
                    · have N : Hid (ArgRel zs k2 (k3 + 1) 0 (arg ++ [zs.getD k3 0])) := R.out.bare hz3 hsp h34 h39
                      have g34 : (zs.getD k3 0 == 34) = false := beq_eq_false_iff_ne.2 h34
                      have g39 : (zs.getD k3 0 == 39) = false := beq_eq_false_iff_ne.2 h39
                      clear h34 h39 hsp hz3
                      generalize zs.getD k3 0 = c at hc hsc hb0 hb1 g34 g39 N
                      clear R NX BD RS NS H HZ HE bl
                      as_aux_lemma =>
                        go_wp2_with (first | (go_at_call 25; refine (hsc _).mono ?_; rintro e w' ⟨rfl, rfl⟩) | (at_builtin; refine wpList_push rfl (.tmp 34) (.tmp 39) rfl (c := c) I ⟨hb0, hb1⟩ hlen rfl rfl ?_; intro v5 w5 I5))
                        go_roundw
                        case rel => exact ⟨k3 + 1, 0, _, rfl, by go_num, rfl, by omega, by omega, I5, N⟩
                        case measure => simp [intOf]; omega
              · have hkl : ((k3 : Int) == (l : Int)) = true := beq_iff_eq.2 (by omega)
                have hlt : k2 < k3 := by omega
                have N : SplitRel zs k3 (done ++ [arg]) := NX.out k3 arg hlt hk3' R.out.len (R.out.end0 (by rw [HZ.out]; omega))
                clear R NX BD RS NS H HZ HE bl hlen
                as_aux_lemma =>
                  go_wp2_with ((at_builtin; refine wpList_pushArg rfl (.tmp 175) (.tmp 177) rfl J I (Nat.le_trans hcnt hl) rfl rfl ?_; intro va' w5 J5))
                  try (rw [Exit.noGoto_normal]; go_wp2)
                  go_roundw
                  case rel => exact ⟨k3, done ++ [arg], by go_num, by omega, J5, N⟩
                  case measure => simp [intOf]; omega
            · have hq0' : (q == 0) = false := beq_eq_false_iff_ne.2 hq0
              by_cases h3 : k3 < l
              · obtain ⟨hc, hb0, hb1⟩ := line_at H bl h3
                have hz3 : k3 < zs.length := by rw [HZ.out]; exact h3
                have hkl : ((k3 : Int) == (l : Int)) = false := beq_eq_false_iff_ne.2 (by omega)
                by_cases hcq : zs.getD k3 0 = q
                · rw [hcq] at hc
                  by_cases h4 : k3 + 1 < l
                  · obtain ⟨hd, hd0, hd1⟩ := line_at H bl h4
                    have hz4 : k3 + 1 < zs.length := by rw [HZ.out]; exact h4
                    cases hsp : isSp (zs.getD (k3 + 1) 0) with
                    | true =>
                      have hlt : k2 < k3 + 1 := by omega
                      have N : SplitRel zs (k3 + 1) (done ++ [arg]) := NX.out (k3 + 1) arg hlt (by omega) (by have := R.out.len; omega) (R.out.close hq0 hz4 hcq hsp)
                      have hsc := fun W => isSpace_is (zs.getD (k3 + 1) 0) W true hsp
                      clear hcq hb0 hb1
                      generalize zs.getD (k3 + 1) 0 = d at hd hsc hd0 hd1
                      clear hsp hz3 hz4 hq0 R NX BD RS NS H HZ HE bl hlen
                      as_aux_lemma =>
                        go_wp2_with (first | (go_at_call 25; refine (hsc _).mono ?_; rintro e w' ⟨rfl, rfl⟩) | (at_builtin; refine wpList_pushArg rfl (.tmp 175) (.tmp 177) rfl J I (Nat.le_trans hcnt hl) rfl rfl ?_; intro va' w5 J5))
                        try (rw [Exit.noGoto_normal]; go_wp2)
                        go_roundw
                        case rel => exact ⟨k3 + 1, done ++ [arg], by go_num, by omega, J5, N⟩
                        case measure => simp [intOf]; omega
                    | false =>
                      have HR : Hid (splitP zs = none) := BD.out (R.out.close_bad hq0 hz4 hcq hsp)
                      have hsc := fun W => isSpace_is (zs.getD (k3 + 1) 0) W false hsp
                      clear hcq hb0 hb1
                      generalize zs.getD (k3 + 1) 0 = d at hd hsc hd0 hd1
                      clear hsp hz3 hz4 hq0 R NX BD RS NS H HZ HE hlen
                      as_aux_lemma =>
                        go_wp2_with ((go_at_call 25; refine (hsc _).mono ?_; rintro e w' ⟨rfl, rfl⟩))
                        try rw [Exit.noGoto_ret]
                        go_ret2
                        exact SplitPost.no HR.out rfl bl
                  · have hlt : k2 < k3 + 1 := by omega
                    have N : SplitRel zs (k3 + 1) (done ++ [arg]) := NX.out (k3 + 1) arg hlt (by omega) (by have := R.out.len; omega) (R.out.close_end hq0 hz3 hcq (by rw [HZ.out]; omega))
                    clear hcq hb0 hb1 hz3 hq0 R NX BD RS NS H HZ HE bl hlen
                    as_aux_lemma =>
                      go_wp2_with ((at_builtin; refine wpList_pushArg rfl (.tmp 175) (.tmp 177) rfl J I (Nat.le_trans hcnt hl) rfl rfl ?_; intro va' w5 J5))
                      try (rw [Exit.noGoto_normal]; go_wp2)
                      go_roundw
                      case rel => exact ⟨k3 + 1, done ++ [arg], by go_num, by omega, J5, N⟩
                      case measure => simp [intOf]; omega
                · have gcq : (zs.getD k3 0 == q) = false := beq_eq_false_iff_ne.2 hcq
                  by_cases h92 : zs.getD k3 0 = 92
                  · by_cases h4 : k3 + 1 < l
                    · have hz4 : k3 + 1 < zs.length := by rw [HZ.out]; exact h4
                      obtain ⟨hd, hd0, hd1⟩ := line_at H bl h4
                      have hqq : q = 34 ∨ q = 39 := by rcases R.out.quote with h | h; exact absurd h hq0; exact h
                      rcases hqq with rfl | rfl
                      · rw [h92] at hc gcq hb0 hb1
                        clear hq0'
                        by_cases h6 : k3 + 3 < l
                        · obtain ⟨he, he0, he1⟩ := line_at H bl (show k3 + 2 < l by omega)
                          obtain ⟨hf, hf0, hf1⟩ := line_at H bl h6
                          have hcp : ¬ cp = k3 + 1 + 1 := by omega
                          have hx2 : hex2 (zs.drop (k3 + 2)) = hex2 [zs.getD (k3 + 2) 0, zs.getD (k3 + 3) 0] := hex2_at (by rw [HZ.out]; exact h6)
                          cases hx : hex2 [zs.getD (k3 + 2) 0, zs.getD (k3 + 3) 0] with
                          | some v =>
                            have hvb := hex2_bound hx
                            have hby := hexByte_ok b (o + (k3 + 1 + 1)) (l - (k3 + 1 + 1)) (cp - (k3 + 1 + 1)) _ _ v wr (by omega) (by omega) ⟨he0, he1⟩ ⟨hf0, hf1⟩ he (by rw [Nat.add_assoc]; exact hf) hx
                            by_cases h120 : zs.getD (k3 + 1) 0 = 120
                            · have N : Hid (ArgRel zs k2 (k3 + 4) 34 (arg ++ [v])) := R.out.hex (by rw [HZ.out]; exact h6) h92 h120 hx
                              rw [h120] at hd hd0 hd1
                              clear hx hx2 h120 h92 hcq he hf he0 he1 hf0 hf1 hz3 hz4 hq0 R NX BD RS NS H HZ HE bl
                              go_wp2_with fail
                              refine hby.mono ?_
                              rintro e w2 ⟨rfl, hb2⟩
                              have I2 := I.later hb2
                              have hd2 := cell_later hb2 hd
                              clear hby hd hb2 hc I
                              as_aux_lemma =>
                                go_wp2_with ((at_builtin; refine wpList_push rfl (.tmp 134) (.tmp 136) rfl (c := v) I2 hvb hlen rfl rfl ?_; intro v5 w5 I5))
                                go_roundw
                                case rel => exact ⟨k3 + 4, 34, _, rfl, by go_num, rfl, by omega, by omega, I5, N⟩
                                case measure => simp [intOf]; omega
                            · have N : Hid (ArgRel zs k2 (k3 + 2) 34 (arg ++ [unesc (zs.getD (k3 + 1) 0)])) := R.out.esc hz4 h92 (if_neg h120)
                              have g120 : (zs.getD (k3 + 1) 0 == 120) = false := beq_eq_false_iff_ne.2 h120
                              have hu := unesc_bound hd0 hd1
                              clear hx hx2 h120 h92 hcq he hf he0 he1 hf0 hf1 hz3 hz4 hq0
                              generalize zs.getD (k3 + 1) 0 = d at hd hd0 hd1 g120 N hu
                              clear R NX BD RS NS H HZ HE bl
                              go_wp2_with fail
                              refine hby.mono ?_
                              rintro e w2 ⟨rfl, hb2⟩
                              have I2 := I.later hb2
                              have hd2 := cell_later hb2 hd
                              clear hby hd hb2 hc I
                              as_aux_lemma =>
                                go_wp2_with (first | (go_at_call 24; refine (unescape_is _ _).mono ?_; rintro e w' ⟨rfl, rfl⟩) | (at_builtin; refine wpList_push rfl (.tmp 140) (.tmp 146) rfl (c := unesc d) I2 hu hlen rfl rfl ?_; intro v5 w5 I5))
                                go_roundw
                                case rel => exact ⟨k3 + 2, 34, _, rfl, by go_num, rfl, by omega, by omega, I5, N⟩
                                case measure => simp [intOf]; omega
                          | none =>
                            have hby := hexByte_bad b (o + (k3 + 1 + 1)) (l - (k3 + 1 + 1)) (cp - (k3 + 1 + 1)) _ _ wr (by omega) (by omega) ⟨he0, he1⟩ ⟨hf0, hf1⟩ he (by rw [Nat.add_assoc]; exact hf) hx ev (cell_later bl HE.out.1) HE.out.2
                            have N : Hid (ArgRel zs k2 (k3 + 2) 34 (arg ++ [unesc (zs.getD (k3 + 1) 0)])) := R.out.esc hz4 h92 (by rw [hx2, hx]; split <;> rfl)
                            have hu := unesc_bound hd0 hd1
                            clear hx hx2 h92 hcq he hf he0 he1 hf0 hf1 hz3 hz4 hq0
                            generalize zs.getD (k3 + 1) 0 = d at hd hd0 hd1 N hu
                            clear R NX BD RS NS H HZ HE bl
                            go_wp2_with fail
                            refine hby.mono ?_
                            rintro e w2 ⟨rfl, hb2⟩
                            have I2 := I.later hb2
                            have hd2 := cell_later hb2 hd
                            clear hby hd hb2 hc I
                            by_cases h120 : d = 120
                            · subst h120
                              as_aux_lemma =>
                                go_wp2_with (first | (go_at_call 24; refine (unescape_is _ _).mono ?_; rintro e w' ⟨rfl, rfl⟩) | (at_builtin; refine wpList_push rfl (.tmp 140) (.tmp 146) rfl (c := unesc 120) I2 hu hlen rfl rfl ?_; intro v5 w5 I5))
                                go_roundw
                                case rel => exact ⟨k3 + 2, 34, _, rfl, by go_num, rfl, by omega, by omega, I5, N⟩
                                case measure => simp [intOf]; omega
                            · have g120 : (d == 120) = false := beq_eq_false_iff_ne.2 h120
                              clear h120
                              as_aux_lemma =>
                                go_wp2_with (first | (go_at_call 24; refine (unescape_is _ _).mono ?_; rintro e w' ⟨rfl, rfl⟩) | (at_builtin; refine wpList_push rfl (.tmp 140) (.tmp 146) rfl (c := unesc d) I2 hu hlen rfl rfl ?_; intro v5 w5 I5))
                                go_roundw
                                case rel => exact ⟨k3 + 2, 34, _, rfl, by go_num, rfl, by omega, by omega, I5, N⟩
                                case measure => simp [intOf]; omega
                        · have hx : hex2 (zs.drop (k3 + 2)) = none := hex2_short (by rw [HZ.out]; omega)
                          have N : Hid (ArgRel zs k2 (k3 + 2) 34 (arg ++ [unesc (zs.getD (k3 + 1) 0)])) := R.out.esc hz4 h92 (by rw [hx]; split <;> rfl)
                          have hu := unesc_bound hd0 hd1
                          clear hx h92 hcq hz3 hz4 hq0
                          generalize zs.getD (k3 + 1) 0 = d at hd hd0 hd1 N hu
                          clear R NX BD RS NS H HZ HE bl
                          by_cases hcp : cp = k3 + 1 + 1
                          · subst hcp
                            go_wp2_with fail
                            refine (hexByte_short _ _ _ _ (by omega)).mono ?_
                            rintro e w2 ⟨rfl, hb2⟩
                            have I2 := I.later hb2
                            have hd2 := cell_later hb2 hd
                            clear hd hb2 hc I
                            by_cases h120 : d = 120
                            · subst h120
                              as_aux_lemma =>
                                go_wp2_with (first | (go_at_call 24; refine (unescape_is _ _).mono ?_; rintro e w' ⟨rfl, rfl⟩) | (at_builtin; refine wpList_push rfl (.tmp 140) (.tmp 146) rfl (c := unesc 120) I2 hu hlen rfl rfl ?_; intro v5 w5 I5))
                                go_roundw
                                case rel => exact ⟨k3 + 2, 34, _, rfl, by go_num, rfl, by omega, by omega, I5, N⟩
                                case measure => simp [intOf]; omega
                            · have g120 : (d == 120) = false := beq_eq_false_iff_ne.2 h120
                              clear h120
                              as_aux_lemma =>
                                go_wp2_with (first | (go_at_call 24; refine (unescape_is _ _).mono ?_; rintro e w' ⟨rfl, rfl⟩) | (at_builtin; refine wpList_push rfl (.tmp 140) (.tmp 146) rfl (c := unesc d) I2 hu hlen rfl rfl ?_; intro v5 w5 I5))
                                go_roundw
                                case rel => exact ⟨k3 + 2, 34, _, rfl, by go_num, rfl, by omega, by omega, I5, N⟩
                                case measure => simp [intOf]; omega
                          · go_wp2_with fail
                            refine (hexByte_short _ _ _ _ (by omega)).mono ?_
                            rintro e w2 ⟨rfl, hb2⟩
                            have I2 := I.later hb2
                            have hd2 := cell_later hb2 hd
                            clear hd hb2 hc I
                            by_cases h120 : d = 120
                            · subst h120
                              as_aux_lemma =>
                                go_wp2_with (first | (go_at_call 24; refine (unescape_is _ _).mono ?_; rintro e w' ⟨rfl, rfl⟩) | (at_builtin; refine wpList_push rfl (.tmp 140) (.tmp 146) rfl (c := unesc 120) I2 hu hlen rfl rfl ?_; intro v5 w5 I5))
                                go_roundw
                                case rel => exact ⟨k3 + 2, 34, _, rfl, by go_num, rfl, by omega, by omega, I5, N⟩
                                case measure => simp [intOf]; omega
                            · have g120 : (d == 120) = false := beq_eq_false_iff_ne.2 h120
                              clear h120
                              as_aux_lemma =>
                                go_wp2_with (first | (go_at_call 24; refine (unescape_is _ _).mono ?_; rintro e w' ⟨rfl, rfl⟩) | (at_builtin; refine wpList_push rfl (.tmp 140) (.tmp 146) rfl (c := unesc d) I2 hu hlen rfl rfl ?_; intro v5 w5 I5))
                                go_roundw
                                case rel => exact ⟨k3 + 2, 34, _, rfl, by go_num, rfl, by omega, by omega, I5, N⟩
                                case measure => simp [intOf]; omega
                      · rw [h92] at hc gcq hb0 hb1
                        by_cases h39 : zs.getD (k3 + 1) 0 = 39
                        · have N : Hid (ArgRel zs k2 (k3 + 2) 39 (arg ++ [39])) := R.out.sq hz4 h92 h39
                          rw [h39] at hd hd0 hd1
                          clear hcq h92 h39 hz3 hz4 hq0 hq0' R NX BD RS NS H HZ HE bl
                          as_aux_lemma =>
                            go_wp2_with ((at_builtin; refine wpList_push rfl (.tmp 170) (.tmp 171) rfl (c := 39) I ⟨by omega, by omega⟩ hlen rfl rfl ?_; intro v5 w5 I5))
                            go_roundw
                            case rel => exact ⟨k3 + 2, 39, _, rfl, by go_num, rfl, by omega, by omega, I5, N⟩
                            case measure => simp [intOf]; omega
                        · have N : Hid (ArgRel zs k2 (k3 + 1) 39 (arg ++ [92])) := by
                            have := R.out.plain hq0 hz3 hcq (fun _ => .inr ⟨rfl, h39⟩)
                            rwa [h92] at this
                          have g39 : (zs.getD (k3 + 1) 0 == 39) = false := beq_eq_false_iff_ne.2 h39
                          clear hcq h92 h39 hz3 hz4 hq0 hq0'
                          generalize zs.getD (k3 + 1) 0 = d at hd hd0 hd1 g39
                          clear R NX BD RS NS H HZ HE bl
                          as_aux_lemma =>
                            go_wp2_with ((at_builtin; refine wpList_push rfl (.tmp 78) (.tmp 80) rfl (c := 92) I ⟨by omega, by omega⟩ hlen rfl rfl ?_; intro v5 w5 I5))
                            go_roundw
                            case rel => exact ⟨k3 + 1, 39, _, rfl, by go_num, rfl, by omega, by omega, I5, N⟩
                            case measure => simp [intOf]; omega
                    · have N : Hid (ArgRel zs k2 (k3 + 1) q (arg ++ [92])) := by
                        have := R.out.plain hq0 hz3 hcq (fun _ => .inl (by rw [HZ.out]; omega))
                        rwa [h92] at this
                      have hqq : q = 34 ∨ q = 39 := by rcases R.out.quote with h | h; exact absurd h hq0; exact h
                      rw [h92] at hc gcq
                      have h4' : decide ((k3 : Int) + 1 < (l : Int)) = false := decide_eq_false (by omega)
                      clear hcq h92 hz3 hq0 hb0 hb1
                      rcases hqq with rfl | rfl
                      · clear hq0' R NX BD RS NS H HZ HE bl
                        as_aux_lemma =>
                          go_wp2_with ((at_builtin; refine wpList_push rfl (.tmp 78) (.tmp 80) rfl (c := 92) I ⟨by omega, by omega⟩ hlen rfl rfl ?_; intro v5 w5 I5))
                          go_roundw
                          case rel => exact ⟨k3 + 1, 34, _, rfl, by go_num, rfl, by omega, by omega, I5, N⟩
                          case measure => simp [intOf]; omega
                      · clear hq0' R NX BD RS NS H HZ HE bl
                        as_aux_lemma =>
                          go_wp2_with ((at_builtin; refine wpList_push rfl (.tmp 78) (.tmp 80) rfl (c := 92) I ⟨by omega, by omega⟩ hlen rfl rfl ?_; intro v5 w5 I5))
                          go_roundw
                          case rel => exact ⟨k3 + 1, 39, _, rfl, by go_num, rfl, by omega, by omega, I5, N⟩
                          case measure => simp [intOf]; omega
                  · have N : Hid (ArgRel zs k2 (k3 + 1) q (arg ++ [zs.getD k3 0])) := R.out.plain hq0 hz3 hcq (fun h => absurd h h92)
                    have g92 : (zs.getD k3 0 == 92) = false := beq_eq_false_iff_ne.2 h92
                    clear hcq h92 hz3 hq0
                    generalize zs.getD k3 0 = c at hc hb0 hb1 gcq g92 N
                    clear R NX BD RS NS H HZ HE bl
                    as_aux_lemma =>
                      go_wp2_with ((at_builtin; refine wpList_push rfl (.tmp 78) (.tmp 80) rfl (c := c) I ⟨hb0, hb1⟩ hlen rfl rfl ?_; intro v5 w5 I5))
                      go_roundw
                      case rel => exact ⟨k3 + 1, q, _, rfl, by go_num, rfl, by omega, by omega, I5, N⟩
                      case measure => simp [intOf]; omega
              · have hkl : ((k3 : Int) == (l : Int)) = true := beq_iff_eq.2 (by omega)
                have HR : Hid (splitP zs = none) := BD.out (R.out.endq hq0 (by rw [HZ.out]; omega))
                clear hq0 R NX BD RS NS H HZ HE hlen
                as_aux_lemma =>
                  go_wp2
                  try rw [Exit.noGoto_ret]
                  go_ret2
                  exact SplitPost.no HR.out rfl bl
      · obtain ⟨ao, cap, A, C, hv, H88, hA⟩ := J.holds
        have hR : splitP zs = some done := S.fin hs.out (by rw [HZ.out]; omega)
        have hcnt : done.length ≤ l := Nat.le_trans S.cnt hk
        have htot : tot done ≤ l := Nat.le_trans S.bytes hk
        have hz : ∀ r, r < done.length → ∀ i, i < lenOf done r → 0 ≤ byteOf done r i ∧ byteOf done r i ≤ 255 := fun r hr i hi => by
          obtain ⟨_, _, _, _, h8⟩ := H88 r hr
          obtain ⟨_, _, _, _, h⟩ := h8 i hi
          exact h
        have hb := J.below
        have HR : Hid (splitP zs = some done) := hR
        subst hv
        clear hR J S H hs
        go_wp2_with fail
        refine (clone_any _ ao _ cap A (lenOf done) C (byteOf done) (by omega) (by exact Nat.le_trans htot hl) H88 hA).mono ?_
        rintro e w1 ⟨rfl, I⟩
        have Hf := I.holds hz
        have b1 := hb.trans (I.below.mono hb.size)
        clear I H88 hA hz hb
        go_wp2
        try rw [Exit.noGoto_ret]
        go_ret2
        exact SplitPost.yes HR.out htot hcnt rfl Hf b1

end Go.Proofs.Qxb6601335aDoor
