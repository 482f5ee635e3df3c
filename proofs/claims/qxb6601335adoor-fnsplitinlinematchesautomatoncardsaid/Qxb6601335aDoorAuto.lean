/-
  zzSplitModel (10): it answers as the plain automaton does.
-/
import Derived.Test.Qxb6601335aDoorAutoM
namespace Go.Proofs.Qxb6601335aDoor
open Go.RowKit

theorem line_at' {w wx : World} {b o l : Nat} {zs : List Int} (H : Holds8 w (some ⟨b, o, none⟩) l (fun i => zs.getD i 0)) (hb : Below w.heap.size w wx) {i : Nat} (hi : i < l) :
    wx.cell? ⟨b, o + i, none⟩ = some (.int .u8 (zs.getD i 0)) ∧ 0 ≤ zs.getD i 0 ∧ zs.getD i 0 ≤ 255 := by
  obtain ⟨_, _, e, h1, h2⟩ := H i hi
  cases e
  exact ⟨cell_later hb h1, h2⟩

set_option maxHeartbeats 16000000 in
set_option maxRecDepth 100000 in
theorem auto_walk (w : World) (b o l cp : Nat) (zs : List Int) (hl : l ≤ 68719476736) (hzl : zs.length = l) (H : Holds8 w (some ⟨b, o, none⟩) l (fun i => zs.getD i 0)) :
    Calls Tryd.prog 10 #[.slice (some ⟨b, o, none⟩) l cp] w fun e w' => ModelPost w (autoRun zs 0 0 [] []) e w' := by
  go_enter Tryd.func10, Tryd.ntmps10
  go_wp2
  have HZ : Hid (zs.length = l) := hzl
  clear hzl
  go_loopw [4, 5, 6, 7, 8] (fun va v st hh i wr => ∃ (k : Nat) (s h : Int) (cur : List Int) (out : List (List Int)), i = .int .i64 k ∧ st = .int .i64 s ∧ hh = .int .u8 h ∧ k ≤ l ∧ 0 ≤ h ∧ h ≤ 255 ∧ CurInv w out va cur v wr ∧ Hid (AutoRel zs k s h cur out)) (fun _ _ _ _ i _ => l - (intOf i).toNat)
  case atStart => exact ⟨0, 0, 0, [], [], rfl, rfl, rfl, Nat.zero_le _, by omega, by omega, CurInv.start w, AutoRel.start zs⟩
  case round =>
    obtain ⟨k, s, h, cur, out, rfl, rfl, rfl, hk, hh0, hh1, M, R⟩ := hrel
    obtain ⟨w0, J, I⟩ := M
    have bl := J.below.trans (I.below.mono J.below.size)
    have hlen : cur.length ≤ 1099511627776 := by have := R.out.len; omega
    have hcnt : out.length ≤ 1099511627776 := by have := R.out.cnt; omega
    obtain ⟨ao5, c5, hv5⟩ := own_shape I.own
    subst hv5
    have hst := R.out.state
    by_cases h3 : k < l
    · obtain ⟨hc, hb0, hb1⟩ := line_at' H bl h3
      have hz3 : k < zs.length := by rw [HZ.out]; exact h3
      clear H
      rcases hst with rfl | rfl | rfl | rfl | rfl | rfl | rfl | rfl | rfl
      · cases hsp : isSp (zs.getD k 0) with
        | true =>
          have hsc := fun W => isBlank_any (zs.getD k 0) W true hsp
          have N : Hid (AutoRel zs (k + 1) 0 h cur out) := R.out.next hz3 (.inl rfl) (by simp) (by simp) (fun e => absurd e (by decide)) (run_0_sp hsp)
          generalize (zs.getD k 0) = c at hc hsc hb0 hb1
          clear hsp
          clear R HZ hz3 bl
          as_aux_lemma =>
            go_wp2_with (first | (go_at_call 21; refine (hsc _).mono ?_; rintro e w' ⟨rfl, rfl⟩))
            go_roundw
            case rel => exact ⟨k + 1, 0, h, _, _, by go_num, rfl, rfl, by omega, by omega, by omega, CurInv.mk J I, N⟩
            case measure => simp [intOf]; omega
        | false =>
          have hsc := fun W => isBlank_any (zs.getD k 0) W false hsp
          have I0 := I.reset
          by_cases h34 : zs.getD k 0 = 34
          · skip
            have N : Hid (AutoRel zs (k + 1) 2 h [] out) := R.out.next hz3 (.inr (.inr (.inl rfl))) (by simp) (by simp) (fun e => absurd e (by decide)) ((run_0_not hsp).trans (by rw [h34] at hsp ⊢; exact run_1_dq hsp))
            rw [h34] at hc hsc
            clear h34 hsp
            clear R HZ hz3 bl
            as_aux_lemma =>
              go_wp2_with (first | (go_at_call 21; refine (hsc _).mono ?_; rintro e w' ⟨rfl, rfl⟩))
              go_roundw
              case rel => exact ⟨k + 1, 2, h, _, _, by go_num, rfl, rfl, by omega, by omega, by omega, CurInv.mk J I0, N⟩
              case measure => simp [intOf]; omega
          · by_cases h39 : zs.getD k 0 = 39
            · skip
              have N : Hid (AutoRel zs (k + 1) 6 h [] out) := R.out.next hz3 (.inr (.inr (.inr (.inr (.inr (.inr (.inl rfl))))))) (by simp) (by simp) (fun e => absurd e (by decide)) ((run_0_not hsp).trans (by rw [h39] at hsp ⊢; exact run_1_sq hsp))
              rw [h39] at hc hsc
              clear h34 h39 hsp
              clear R HZ hz3 bl
              as_aux_lemma =>
                go_wp2_with (first | (go_at_call 21; refine (hsc _).mono ?_; rintro e w' ⟨rfl, rfl⟩))
                go_roundw
                case rel => exact ⟨k + 1, 6, h, _, _, by go_num, rfl, rfl, by omega, by omega, by omega, CurInv.mk J I0, N⟩
                case measure => simp [intOf]; omega
            · skip
              have N : Hid (AutoRel zs (k + 1) 1 h ([] ++ [zs.getD k 0]) out) := R.out.next hz3 (.inr (.inl rfl)) (by simp) (by simp) (fun e => absurd e (by decide)) ((run_0_not hsp).trans (run_1_else hsp h34 h39))
              have g34 : ((zs.getD k 0) == 34) = false := beq_eq_false_iff_ne.2 h34
              have g39 : ((zs.getD k 0) == 39) = false := beq_eq_false_iff_ne.2 h39
              clear h34 h39 hsp
              generalize (zs.getD k 0) = c at hc hsc hb0 hb1 g34 g39 N
              clear R HZ hz3 bl
              as_aux_lemma =>
                go_wp2_with (first | (go_at_call 21; refine (hsc _).mono ?_; rintro e w' ⟨rfl, rfl⟩) | (at_builtin; refine wpList_pushAt rfl (.tmp 92) (.tmp 94) rfl (c := c) I0 ⟨hb0, hb1⟩ (by simp) (wr.heap.size + 1) (by simp) rfl rfl ?_; intro v5 w5 I5))
                go_roundw
                case rel => exact ⟨k + 1, 1, h, _, _, by go_num, rfl, rfl, by omega, by omega, by omega, CurInv.mk J I5, N⟩
                case measure => simp [intOf]; omega
      · cases hsp : isSp (zs.getD k 0) with
        | true =>
          have hsc := fun W => isBlank_any (zs.getD k 0) W true hsp
          have N : Hid (AutoRel zs (k + 1) 0 h [] (out ++ [cur])) := R.out.next hz3 (.inl rfl) (by simp) (by simp) (fun e => absurd e (by decide)) (run_1_sp hsp)
          generalize (zs.getD k 0) = c at hc hsc hb0 hb1
          clear hsp
          clear R HZ hz3 bl
          as_aux_lemma =>
            go_wp2_with (first | (go_at_call 21; refine (hsc _).mono ?_; rintro e w' ⟨rfl, rfl⟩) | (at_builtin; refine wpList_pushArg rfl (.tmp 100) (.tmp 102) rfl J I hcnt rfl rfl ?_; intro va5 w5 J5))
            go_roundw
            case rel => exact ⟨k + 1, 0, h, _, _, by go_num, rfl, rfl, by omega, by omega, by omega, CurInv.pushed J5, N⟩
            case measure => simp [intOf]; omega
        | false =>
          have hsc := fun W => isBlank_any (zs.getD k 0) W false hsp
          by_cases h34 : zs.getD k 0 = 34
          · skip
            have N : Hid (AutoRel zs (k + 1) 2 h cur out) := R.out.next hz3 (.inr (.inr (.inl rfl))) (by simp) (by simp) (fun e => absurd e (by decide)) ((by rw [h34] at hsp ⊢; exact run_1_dq hsp))
            rw [h34] at hc hsc
            clear h34 hsp
            clear R HZ hz3 bl
            as_aux_lemma =>
              go_wp2_with (first | (go_at_call 21; refine (hsc _).mono ?_; rintro e w' ⟨rfl, rfl⟩))
              go_roundw
              case rel => exact ⟨k + 1, 2, h, _, _, by go_num, rfl, rfl, by omega, by omega, by omega, CurInv.mk J I, N⟩
              case measure => simp [intOf]; omega
          · by_cases h39 : zs.getD k 0 = 39
            · skip
              have N : Hid (AutoRel zs (k + 1) 6 h cur out) := R.out.next hz3 (.inr (.inr (.inr (.inr (.inr (.inr (.inl rfl))))))) (by simp) (by simp) (fun e => absurd e (by decide)) ((by rw [h39] at hsp ⊢; exact run_1_sq hsp))
              rw [h39] at hc hsc
              clear h34 h39 hsp
              clear R HZ hz3 bl
              as_aux_lemma =>
                go_wp2_with (first | (go_at_call 21; refine (hsc _).mono ?_; rintro e w' ⟨rfl, rfl⟩))
                go_roundw
                case rel => exact ⟨k + 1, 6, h, _, _, by go_num, rfl, rfl, by omega, by omega, by omega, CurInv.mk J I, N⟩
                case measure => simp [intOf]; omega
            · skip
              have N : Hid (AutoRel zs (k + 1) 1 h (cur ++ [zs.getD k 0]) out) := R.out.next hz3 (.inr (.inl rfl)) (by simp) (by simp) (fun e => absurd e (by decide)) (run_1_else hsp h34 h39)
              have g34 : ((zs.getD k 0) == 34) = false := beq_eq_false_iff_ne.2 h34
              have g39 : ((zs.getD k 0) == 39) = false := beq_eq_false_iff_ne.2 h39
              clear h34 h39 hsp
              generalize (zs.getD k 0) = c at hc hsc hb0 hb1 g34 g39 N
              clear R HZ hz3 bl
              as_aux_lemma =>
                go_wp2_with (first | (go_at_call 21; refine (hsc _).mono ?_; rintro e w' ⟨rfl, rfl⟩) | (at_builtin; refine wpList_push rfl (.tmp 108) (.tmp 110) rfl (c := c) I ⟨hb0, hb1⟩ hlen rfl rfl ?_; intro v5 w5 I5))
                go_roundw
                case rel => exact ⟨k + 1, 1, h, _, _, by go_num, rfl, rfl, by omega, by omega, by omega, CurInv.mk J I5, N⟩
                case measure => simp [intOf]; omega
      · skip
        by_cases h34 : zs.getD k 0 = 34
        · skip
          have N : Hid (AutoRel zs (k + 1) 8 h cur out) := R.out.next hz3 (.inr (.inr (.inr (.inr (.inr (.inr (.inr (.inr rfl)))))))) (by simp) (by simp) (fun e => absurd e (by decide)) (by rw [h34]; exact run_2_close)
          rw [h34] at hc
          clear h34
          clear R HZ hz3 bl
          as_aux_lemma =>
            go_wp2
            go_roundw
            case rel => exact ⟨k + 1, 8, h, _, _, by go_num, rfl, rfl, by omega, by omega, by omega, CurInv.mk J I, N⟩
            case measure => simp [intOf]; omega
        · by_cases h92 : zs.getD k 0 = 92
          · skip
            have N : Hid (AutoRel zs (k + 1) 3 h cur out) := R.out.next hz3 (.inr (.inr (.inr (.inl rfl)))) (by simp) (by simp) (fun e => absurd e (by decide)) (by rw [h92]; exact run_2_bs)
            rw [h92] at hc
            clear h34 h92
            clear R HZ hz3 bl
            as_aux_lemma =>
              go_wp2
              go_roundw
              case rel => exact ⟨k + 1, 3, h, _, _, by go_num, rfl, rfl, by omega, by omega, by omega, CurInv.mk J I, N⟩
              case measure => simp [intOf]; omega
          · skip
            have N : Hid (AutoRel zs (k + 1) 2 h (cur ++ [zs.getD k 0]) out) := R.out.next hz3 (.inr (.inr (.inl rfl))) (by simp) (by simp) (fun e => absurd e (by decide)) (run_2_else h34 h92)
            have g34 : ((zs.getD k 0) == 34) = false := beq_eq_false_iff_ne.2 h34
            have g92 : ((zs.getD k 0) == 92) = false := beq_eq_false_iff_ne.2 h92
            clear h34 h92
            generalize (zs.getD k 0) = c at hc hb0 hb1 g34 g92 N
            clear R HZ hz3 bl
            as_aux_lemma =>
              go_wp2_with (first | (at_builtin; refine wpList_push rfl (.tmp 118) (.tmp 120) rfl (c := c) I ⟨hb0, hb1⟩ hlen rfl rfl ?_; intro v6 w6 I6))
              go_roundw
              case rel => exact ⟨k + 1, 2, h, _, _, by go_num, rfl, rfl, by omega, by omega, by omega, CurInv.mk J I6, N⟩
              case measure => simp [intOf]; omega
      · by_cases h120 : zs.getD k 0 = 120
        · skip
          have N : Hid (AutoRel zs (k + 1) 4 h cur out) := R.out.next hz3 (.inr (.inr (.inr (.inr (.inl rfl))))) (by simp) (by simp) (fun e => absurd e (by decide)) (by rw [h120]; exact run_3_x)
          rw [h120] at hc
          clear h120
          clear R HZ hz3 bl
          as_aux_lemma =>
            go_wp2
            go_roundw
            case rel => exact ⟨k + 1, 4, h, _, _, by go_num, rfl, rfl, by omega, by omega, by omega, CurInv.mk J I, N⟩
            case measure => simp [intOf]; omega
        · skip
          have N : Hid (AutoRel zs (k + 1) 2 h (cur ++ [unesc (zs.getD k 0)]) out) := R.out.next hz3 (.inr (.inr (.inl rfl))) (by simp) (by simp) (fun e => absurd e (by decide)) (run_3_else h120)
          have g120 : ((zs.getD k 0) == 120) = false := beq_eq_false_iff_ne.2 h120
          have hu := unesc_bound hb0 hb1
          clear h120
          generalize (zs.getD k 0) = c at hc hb0 hb1 g120 hu N
          clear R HZ hz3 bl
          as_aux_lemma =>
            go_wp2_with (first | (go_at_call 19; refine (escaped_any _ _).mono ?_; rintro e w' ⟨rfl, rfl⟩) | (at_builtin; refine wpList_push rfl (.tmp 31) (.tmp 34) rfl (c := unesc c) I hu hlen rfl rfl ?_; intro v5 w5 I5))
            go_roundw
            case rel => exact ⟨k + 1, 2, h, _, _, by go_num, rfl, rfl, by omega, by omega, by omega, CurInv.mk J I5, N⟩
            case measure => simp [intOf]; omega
      · cases hx : hexv (zs.getD k 0) with
        | some v =>
          have hxv := fun W => hexVal_some (zs.getD k 0) v W hb0 hb1 hx
          have N : Hid (AutoRel zs (k + 1) 5 (zs.getD k 0) cur out) := R.out.next hz3 (.inr (.inr (.inr (.inr (.inr (.inl rfl)))))) (by simp) (by simp) (fun _ => ⟨v, hx⟩) (run_4_hex hx)
          clear hx
          generalize (zs.getD k 0) = c at hc hb0 hb1 hxv N
          clear R HZ hz3 bl
          as_aux_lemma =>
            go_wp2_with (first | (go_at_call 20; refine (hxv _).mono ?_; rintro e w' ⟨rfl, rfl⟩))
            go_roundw
            case rel => exact ⟨k + 1, 5, _, _, _, by go_num, rfl, rfl, by omega, by omega, by omega, CurInv.mk J I, N⟩
            case measure => simp [intOf]; omega
        | none =>
          have hxv := fun W => hexVal_none (zs.getD k 0) W hx
          have hlen2 : (cur ++ [120]).length ≤ 1099511627776 := by have := R.out.len; simp; omega
          by_cases h34 : zs.getD k 0 = 34
          · skip
            have N : Hid (AutoRel zs (k + 1) 8 h (cur ++ [120]) out) := R.out.next hz3 (.inr (.inr (.inr (.inr (.inr (.inr (.inr (.inr rfl)))))))) (by simp) (by simp) (fun e => absurd e (by decide)) ((run_4_not hx).trans (by rw [h34]; exact run_2_close))
            rw [h34] at hc hxv
            clear h34 hx
            clear R HZ hz3 bl
            as_aux_lemma =>
              go_wp2_with (first | (go_at_call 20; refine (hxv _).mono ?_; rintro e w' ⟨rfl, rfl⟩) | (at_builtin; refine wpList_push rfl (.tmp 45) (.tmp 46) rfl (c := 120) I ⟨by omega, by omega⟩ hlen rfl rfl ?_; intro v5 w5 I5))
              go_roundw
              case rel => exact ⟨k + 1, 8, h, _, _, by go_num, rfl, rfl, by omega, by omega, by omega, CurInv.mk J I5, N⟩
              case measure => simp [intOf]; omega
          · by_cases h92 : zs.getD k 0 = 92
            · skip
              have N : Hid (AutoRel zs (k + 1) 3 h (cur ++ [120]) out) := R.out.next hz3 (.inr (.inr (.inr (.inl rfl)))) (by simp) (by simp) (fun e => absurd e (by decide)) ((run_4_not hx).trans (by rw [h92]; exact run_2_bs))
              rw [h92] at hc hxv
              clear h34 h92 hx
              clear R HZ hz3 bl
              as_aux_lemma =>
                go_wp2_with (first | (go_at_call 20; refine (hxv _).mono ?_; rintro e w' ⟨rfl, rfl⟩) | (at_builtin; refine wpList_push rfl (.tmp 45) (.tmp 46) rfl (c := 120) I ⟨by omega, by omega⟩ hlen rfl rfl ?_; intro v5 w5 I5))
                go_roundw
                case rel => exact ⟨k + 1, 3, h, _, _, by go_num, rfl, rfl, by omega, by omega, by omega, CurInv.mk J I5, N⟩
                case measure => simp [intOf]; omega
            · skip
              have N : Hid (AutoRel zs (k + 1) 2 h ((cur ++ [120]) ++ [zs.getD k 0]) out) := R.out.next hz3 (.inr (.inr (.inl rfl))) (by simp) (by simp) (fun e => absurd e (by decide)) ((run_4_not hx).trans (run_2_else h34 h92))
              have g34 : ((zs.getD k 0) == 34) = false := beq_eq_false_iff_ne.2 h34
              have g92 : ((zs.getD k 0) == 92) = false := beq_eq_false_iff_ne.2 h92
              clear h34 h92 hx
              generalize (zs.getD k 0) = c at hc hb0 hb1 g34 g92 N hxv
              clear R HZ hz3 bl
              as_aux_lemma =>
                go_wp2_with (first | (go_at_call 20; refine (hxv _).mono ?_; rintro e w' ⟨rfl, rfl⟩) | (at_builtin; refine wpList_push rfl (.tmp 45) (.tmp 46) rfl (c := 120) I ⟨by omega, by omega⟩ hlen rfl rfl ?_; intro v5 w5 I5) | (at_builtin; refine wpList_push rfl (.tmp 118) (.tmp 120) rfl (c := c) I5 ⟨hb0, hb1⟩ hlen2 rfl rfl ?_; intro v6 w6 I6))
                go_roundw
                case rel => exact ⟨k + 1, 2, h, _, _, by go_num, rfl, rfl, by omega, by omega, by omega, CurInv.mk J I6, N⟩
                case measure => simp [intOf]; omega
      · obtain ⟨hi, hhi⟩ := R.out.digit rfl
        have hib := hexv_bound hhi
        have hhv := fun W => hexVal_some h hi W hh0 hh1 hhi
        cases hx : hexv (zs.getD k 0) with
        | some v =>
          have hvb := hexv_bound hx
          have hxv := fun W => hexVal_some (zs.getD k 0) v W hb0 hb1 hx
          have N : Hid (AutoRel zs (k + 1) 2 h (cur ++ [hi * 16 + v]) out) := R.out.next hz3 (.inr (.inr (.inl rfl))) (by simp) (by simp) (fun e => absurd e (by decide)) (by rw [run_5_hex hx, hhi]; rfl)
          clear hx hhi
          generalize (zs.getD k 0) = c at hc hb0 hb1 hxv
          clear R HZ hz3 bl
          as_aux_lemma =>
            go_wp2_with (first | (go_at_call_of 20 (Value.int IntKind.u8 h); refine (hhv _).mono ?_; rintro e w' ⟨rfl, rfl⟩) | (go_at_call_of 20 (Value.int IntKind.u8 c); refine (hxv _).mono ?_; rintro e w' ⟨rfl, rfl⟩) | (at_builtin; refine wpList_push rfl (.tmp 61) (.tmp 66) rfl (c := hi * 16 + v) I ⟨by omega, by omega⟩ hlen rfl rfl ?_; intro v5 w5 I5))
            go_roundw
            case rel => exact ⟨k + 1, 2, h, _, _, by go_num, rfl, rfl, by omega, by omega, by omega, CurInv.mk J I5, N⟩
            case measure => simp [intOf]; omega
        | none =>
          have hxv := fun W => hexVal_none (zs.getD k 0) W hx
          have hlen2 : (cur ++ [120, h]).length ≤ 1099511627776 := by have := R.out.len; simp; omega
          by_cases h34 : zs.getD k 0 = 34
          · skip
            have N : Hid (AutoRel zs (k + 1) 8 h (cur ++ [120, h]) out) := R.out.next hz3 (.inr (.inr (.inr (.inr (.inr (.inr (.inr (.inr rfl)))))))) (by simp) (by simp) (fun e => absurd e (by decide)) ((run_5_not hx).trans (by rw [h34]; exact run_2_close))
            rw [h34] at hc hxv
            clear h34 hx hhi
            clear R HZ hz3 bl
            as_aux_lemma =>
              go_wp2_with (first | (go_at_call_of 20 (Value.int IntKind.u8 h); refine (hhv _).mono ?_; rintro e w' ⟨rfl, rfl⟩) | (go_at_call_of 20 (Value.int IntKind.u8 34); refine (hxv _).mono ?_; rintro e w' ⟨rfl, rfl⟩) | (at_builtin; refine wpList_push2 rfl (.tmp 68) (.tmp 70) rfl (c := 120) (d := h) I ⟨by omega, by omega⟩ ⟨hh0, hh1⟩ hlen rfl rfl ?_; intro v5 w5 I5))
              go_roundw
              case rel => exact ⟨k + 1, 8, h, _, _, by go_num, rfl, rfl, by omega, by omega, by omega, CurInv.mk J I5, N⟩
              case measure => simp [intOf]; omega
          · by_cases h92 : zs.getD k 0 = 92
            · skip
              have N : Hid (AutoRel zs (k + 1) 3 h (cur ++ [120, h]) out) := R.out.next hz3 (.inr (.inr (.inr (.inl rfl)))) (by simp) (by simp) (fun e => absurd e (by decide)) ((run_5_not hx).trans (by rw [h92]; exact run_2_bs))
              rw [h92] at hc hxv
              clear h34 h92 hx hhi
              clear R HZ hz3 bl
              as_aux_lemma =>
                go_wp2_with (first | (go_at_call_of 20 (Value.int IntKind.u8 h); refine (hhv _).mono ?_; rintro e w' ⟨rfl, rfl⟩) | (go_at_call_of 20 (Value.int IntKind.u8 92); refine (hxv _).mono ?_; rintro e w' ⟨rfl, rfl⟩) | (at_builtin; refine wpList_push2 rfl (.tmp 68) (.tmp 70) rfl (c := 120) (d := h) I ⟨by omega, by omega⟩ ⟨hh0, hh1⟩ hlen rfl rfl ?_; intro v5 w5 I5))
                go_roundw
                case rel => exact ⟨k + 1, 3, h, _, _, by go_num, rfl, rfl, by omega, by omega, by omega, CurInv.mk J I5, N⟩
                case measure => simp [intOf]; omega
            · skip
              have N : Hid (AutoRel zs (k + 1) 2 h ((cur ++ [120, h]) ++ [zs.getD k 0]) out) := R.out.next hz3 (.inr (.inr (.inl rfl))) (by simp) (by simp) (fun e => absurd e (by decide)) ((run_5_not hx).trans (run_2_else h34 h92))
              have g34 : ((zs.getD k 0) == 34) = false := beq_eq_false_iff_ne.2 h34
              have g92 : ((zs.getD k 0) == 92) = false := beq_eq_false_iff_ne.2 h92
              clear h34 h92 hx hhi
              generalize (zs.getD k 0) = c at hc hb0 hb1 g34 g92 N hxv
              clear R HZ hz3 bl
              as_aux_lemma =>
                go_wp2_with (first | (go_at_call_of 20 (Value.int IntKind.u8 h); refine (hhv _).mono ?_; rintro e w' ⟨rfl, rfl⟩) | (go_at_call_of 20 (Value.int IntKind.u8 c); refine (hxv _).mono ?_; rintro e w' ⟨rfl, rfl⟩) | (at_builtin; refine wpList_push2 rfl (.tmp 68) (.tmp 70) rfl (c := 120) (d := h) I ⟨by omega, by omega⟩ ⟨hh0, hh1⟩ hlen rfl rfl ?_; intro v5 w5 I5) | (at_builtin; refine wpList_push rfl (.tmp 118) (.tmp 120) rfl (c := c) I5 ⟨hb0, hb1⟩ hlen2 rfl rfl ?_; intro v6 w6 I6))
                go_roundw
                case rel => exact ⟨k + 1, 2, h, _, _, by go_num, rfl, rfl, by omega, by omega, by omega, CurInv.mk J I6, N⟩
                case measure => simp [intOf]; omega
      · skip
        by_cases h39 : zs.getD k 0 = 39
        · skip
          have N : Hid (AutoRel zs (k + 1) 8 h cur out) := R.out.next hz3 (.inr (.inr (.inr (.inr (.inr (.inr (.inr (.inr rfl)))))))) (by simp) (by simp) (fun e => absurd e (by decide)) (by rw [h39]; exact run_6_close)
          rw [h39] at hc
          clear h39
          clear R HZ hz3 bl
          as_aux_lemma =>
            go_wp2
            go_roundw
            case rel => exact ⟨k + 1, 8, h, _, _, by go_num, rfl, rfl, by omega, by omega, by omega, CurInv.mk J I, N⟩
            case measure => simp [intOf]; omega
        · by_cases h92 : zs.getD k 0 = 92
          · skip
            have N : Hid (AutoRel zs (k + 1) 7 h cur out) := R.out.next hz3 (.inr (.inr (.inr (.inr (.inr (.inr (.inr (.inl rfl)))))))) (by simp) (by simp) (fun e => absurd e (by decide)) (by rw [h92]; exact run_6_bs)
            rw [h92] at hc
            clear h39 h92
            clear R HZ hz3 bl
            as_aux_lemma =>
              go_wp2
              go_roundw
              case rel => exact ⟨k + 1, 7, h, _, _, by go_num, rfl, rfl, by omega, by omega, by omega, CurInv.mk J I, N⟩
              case measure => simp [intOf]; omega
          · skip
            have N : Hid (AutoRel zs (k + 1) 6 h (cur ++ [zs.getD k 0]) out) := R.out.next hz3 (.inr (.inr (.inr (.inr (.inr (.inr (.inl rfl))))))) (by simp) (by simp) (fun e => absurd e (by decide)) (run_6_else h39 h92)
            have g39 : ((zs.getD k 0) == 39) = false := beq_eq_false_iff_ne.2 h39
            have g92 : ((zs.getD k 0) == 92) = false := beq_eq_false_iff_ne.2 h92
            clear h39 h92
            generalize (zs.getD k 0) = c at hc hb0 hb1 g39 g92 N
            clear R HZ hz3 bl
            as_aux_lemma =>
              go_wp2_with (first | (at_builtin; refine wpList_push rfl (.tmp 128) (.tmp 130) rfl (c := c) I ⟨hb0, hb1⟩ hlen rfl rfl ?_; intro v6 w6 I6))
              go_roundw
              case rel => exact ⟨k + 1, 6, h, _, _, by go_num, rfl, rfl, by omega, by omega, by omega, CurInv.mk J I6, N⟩
              case measure => simp [intOf]; omega
      · by_cases h39 : zs.getD k 0 = 39
        · skip
          have N : Hid (AutoRel zs (k + 1) 6 h (cur ++ [39]) out) := R.out.next hz3 (.inr (.inr (.inr (.inr (.inr (.inr (.inl rfl))))))) (by simp) (by simp) (fun e => absurd e (by decide)) (by rw [h39]; exact run_7_q)
          rw [h39] at hc
          clear h39
          clear R HZ hz3 bl
          as_aux_lemma =>
            go_wp2_with (first | (at_builtin; refine wpList_push rfl (.tmp 76) (.tmp 77) rfl (c := 39) I ⟨by omega, by omega⟩ hlen rfl rfl ?_; intro v5 w5 I5))
            go_roundw
            case rel => exact ⟨k + 1, 6, h, _, _, by go_num, rfl, rfl, by omega, by omega, by omega, CurInv.mk J I5, N⟩
            case measure => simp [intOf]; omega
        · have hlen2 : (cur ++ [92]).length ≤ 1099511627776 := by have := R.out.len; simp; omega
          by_cases h92 : zs.getD k 0 = 92
          · skip
            have N : Hid (AutoRel zs (k + 1) 7 h (cur ++ [92]) out) := R.out.next hz3 (.inr (.inr (.inr (.inr (.inr (.inr (.inr (.inl rfl)))))))) (by simp) (by simp) (fun e => absurd e (by decide)) ((run_7_else h39).trans (by rw [h92]; exact run_6_bs))
            rw [h92] at hc
            clear h39 h92
            clear R HZ hz3 bl
            as_aux_lemma =>
              go_wp2_with (first | (at_builtin; refine wpList_push rfl (.tmp 79) (.tmp 80) rfl (c := 92) I ⟨by omega, by omega⟩ hlen rfl rfl ?_; intro v5 w5 I5))
              go_roundw
              case rel => exact ⟨k + 1, 7, h, _, _, by go_num, rfl, rfl, by omega, by omega, by omega, CurInv.mk J I5, N⟩
              case measure => simp [intOf]; omega
          · skip
            have N : Hid (AutoRel zs (k + 1) 6 h ((cur ++ [92]) ++ [zs.getD k 0]) out) := R.out.next hz3 (.inr (.inr (.inr (.inr (.inr (.inr (.inl rfl))))))) (by simp) (by simp) (fun e => absurd e (by decide)) ((run_7_else h39).trans (run_6_else h39 h92))
            have g39 : ((zs.getD k 0) == 39) = false := beq_eq_false_iff_ne.2 h39
            have g92 : ((zs.getD k 0) == 92) = false := beq_eq_false_iff_ne.2 h92
            clear h39 h92
            generalize (zs.getD k 0) = c at hc hb0 hb1 g39 g92 N
            clear R HZ hz3 bl
            as_aux_lemma =>
              go_wp2_with (first | (at_builtin; refine wpList_push rfl (.tmp 79) (.tmp 80) rfl (c := 92) I ⟨by omega, by omega⟩ hlen rfl rfl ?_; intro v5 w5 I5) | (at_builtin; refine wpList_push rfl (.tmp 128) (.tmp 130) rfl (c := c) I5 ⟨hb0, hb1⟩ hlen2 rfl rfl ?_; intro v6 w6 I6))
              go_roundw
              case rel => exact ⟨k + 1, 6, h, _, _, by go_num, rfl, rfl, by omega, by omega, by omega, CurInv.mk J I6, N⟩
              case measure => simp [intOf]; omega
      · cases hsp : isSp (zs.getD k 0) with
        | true =>
          have hsc := fun W => isBlank_any (zs.getD k 0) W true hsp
          have N : Hid (AutoRel zs (k + 1) 0 h [] (out ++ [cur])) := R.out.next hz3 (.inl rfl) (by simp) (by simp) (fun e => absurd e (by decide)) (run_8_sp hsp)
          generalize (zs.getD k 0) = c at hc hsc hb0 hb1
          clear hsp
          clear R HZ hz3 bl
          as_aux_lemma =>
            go_wp2_with (first | (go_at_call 21; refine (hsc _).mono ?_; rintro e w' ⟨rfl, rfl⟩) | (at_builtin; refine wpList_pushArg rfl (.tmp 137) (.tmp 139) rfl J I hcnt rfl rfl ?_; intro va5 w5 J5))
            go_roundw
            case rel => exact ⟨k + 1, 0, h, _, _, by go_num, rfl, rfl, by omega, by omega, by omega, CurInv.pushed J5, N⟩
            case measure => simp [intOf]; omega
        | false =>
          have hsc := fun W => isBlank_any (zs.getD k 0) W false hsp
          have HR : Hid (autoRun zs 0 0 [] [] = none) := R.out.fails hz3 (run_8_not hsp)
          generalize (zs.getD k 0) = c at hc hsc hb0 hb1
          clear hsp
          clear R HZ hz3
          as_aux_lemma =>
            go_wp2_with (first | (go_at_call 21; refine (hsc _).mono ?_; rintro e w' ⟨rfl, rfl⟩))
            go_ret2
            exact ModelPost.no HR.out rfl bl
    · have HR : Hid (autoRun zs 0 0 [] [] = if s = 0 then some out else if s = 1 ∨ s = 8 then some (out ++ [cur]) else none) := R.out.fin (by rw [HZ.out]; omega)
      clear R HZ H
      rcases hst with rfl | rfl | rfl | rfl | rfl | rfl | rfl | rfl | rfl
      · skip
        as_aux_lemma =>
          go_wp2
          go_ret2
          exact ModelPost.yes HR.out rfl (J.later I.below)
      · skip
        as_aux_lemma =>
          go_wp2_with (at_builtin; refine wpList_pushArg rfl (.tmp 150) (.tmp 152) rfl J I hcnt rfl rfl ?_; intro va5 w5 J5)
          go_ret2
          exact ModelPost.yes HR.out rfl J5
      · skip
        as_aux_lemma =>
          go_wp2
          go_ret2
          exact ModelPost.no HR.out rfl bl
      · skip
        as_aux_lemma =>
          go_wp2
          go_ret2
          exact ModelPost.no HR.out rfl bl
      · skip
        as_aux_lemma =>
          go_wp2
          go_ret2
          exact ModelPost.no HR.out rfl bl
      · skip
        as_aux_lemma =>
          go_wp2
          go_ret2
          exact ModelPost.no HR.out rfl bl
      · skip
        as_aux_lemma =>
          go_wp2
          go_ret2
          exact ModelPost.no HR.out rfl bl
      · skip
        as_aux_lemma =>
          go_wp2
          go_ret2
          exact ModelPost.no HR.out rfl bl
      · skip
        as_aux_lemma =>
          go_wp2_with (at_builtin; refine wpList_pushArg rfl (.tmp 150) (.tmp 152) rfl J I hcnt rfl rfl ?_; intro va5 w5 J5)
          go_ret2
          exact ModelPost.yes HR.out rfl J5

end Go.Proofs.Qxb6601335aDoor
