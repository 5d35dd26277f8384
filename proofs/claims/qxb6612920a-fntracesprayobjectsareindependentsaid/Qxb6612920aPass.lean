import Derived.Test.Qxb6612920aObjs
namespace Go.Proofs.Qxb6612920a.spray
open Go.RowKit Go.PlainAid

theorem passRow_succ (a : Nat) (l : List Int) (s : PS) (k : Nat) (hk : k < l.length) : passRow a (l.take (k + 1)) s = passStep a (passRow a (l.take k) s) l[k] := by
  unfold passRow
  rw [List.take_succ_eq_append_getElem hk, List.foldl_append]
  rfl

set_option maxRecDepth 100000 in
set_option maxHeartbeats 8000000 in
theorem pass_any (ob oo hb nn lb B0 n : Nat) (held : Nat → Int) (giv tr copies : Int) (L : Int → List Int) (w : World) (h : ObjAt w ob oo hb nn held giv tr) (hl : LinksAt w lb B0 n L) (hn : n < maxLen) (hnn : nn ≤ 4096) (hL : InR nn L) (hll : ∀ a, (L a).length ≤ 1099511627776)
    (hob : ob < B0 ∧ ob ≠ lb) (hhb : hb < B0 ∧ hb ≠ lb) (hcop : copies ≤ 9223372036854775807) (hinv : giv = 0 ∨ HInv nn copies held giv tr) :
    Calls Try.prog 21 #[.pointer (some ⟨ob, oo, none⟩), .pointer (some ⟨lb, 0, none⟩)] w fun e w' => e = .returned (.bool (passF L nn held giv tr).moved) ∧ ObjAt w' ob oo hb nn (passF L nn held giv tr).held (passF L nn held giv tr).giv (passF L nn held giv tr).tr ∧ Touch ob oo hb w w' := by
  by_cases hg : giv = 0
  · have e : passF L nn held giv tr = ⟨false, held, giv, tr⟩ := if_pos hg
    rw [e]
    have H := Lib.hid h
    obtain ⟨c0, c1, c2, f1, f2, hc, hf, ne⟩ := h
    subst hg
    go_enter Try.func21, Try.ntmps21
    go_wp2_with fail
    go_ret
    exact ⟨rfl, H.out, Touch.refl _ _ _ _⟩
  · have e : passF L nn held giv tr = passTo L ⟨false, held, giv, tr⟩ nn := if_neg hg
    rw [e]
    have hinv : HInv nn copies held giv tr := hinv.resolve_left hg
    clear e
    generalize hs0 : (⟨false, held, giv, tr⟩ : PS) = s0
    have hinv0 : PSInv nn copies s0 := by subst hs0; exact hinv
    have hobj0 : ObjAt w ob oo hb nn s0.held s0.giv s0.tr := by subst hs0; exact h
    have hm0 : s0.moved = false := by subst hs0; rfl
    have c0 := h.c0
    have c1 := h.c1
    clear h hs0 hinv
    have Hobj0 := Lib.hid hobj0
    have Hinv0 := Lib.hid hinv0
    have Hl := Lib.hid hl
    clear hobj0 hinv0 hl
    go_enter Try.func21, Try.ntmps21
    go_wp2_with fail
    go_loopw [5, 19] (fun m i wr => ∃ a : Nat, a ≤ nn ∧ i = .int .i64 a ∧ m = .bool (passTo L s0 a).moved ∧ Hid (ObjAt wr ob oo hb nn (passTo L s0 a).held (passTo L s0 a).giv (passTo L s0 a).tr ∧ Touch ob oo hb w wr)) (fun _ i _ => nn - (intOf i).toNat)
    case atStart => exact ⟨0, Nat.zero_le _, rfl, by rw [show (passTo L s0 0).moved = s0.moved from rfl, hm0], Hobj0.out, Touch.refl _ _ _ _⟩
    case round =>
      obtain ⟨a, ha, rfl, rfl, Ha⟩ := hrel
      by_cases hlt : a < nn
      · have ka2 : (a : Int) < (nn : Int) := by omega
        have hlw := links_stay Hl.out Ha.out.2.only (by rintro (h | h) <;> omega) (by rintro k h1 h2 (h | h) <;> omega)
        have Hof := Lib.hid (of_any lb B0 n L (a : Int) wr hlw hn (wf_i64 (by omega) (by omega)))
        clear hlw
        have hin : ∀ b ∈ L (a : Int), 0 ≤ b ∧ b < nn := fun b hb => hL _ b hb
        have hsucc : passTo L s0 (a + 1) = passRow a (L (a : Int)) (passTo L s0 a) := rfl
        have hia := passTo_inv hL Hinv0.out a (by omega)
        have hzl := hll (a : Int)
        have Hsucc := Lib.hid hsucc
        clear hsucc
        go_wp2_with fail
        refine Hof.out.mono ?_
        rintro e w1 ⟨v, rfl, hw, hoi⟩
        subst hw
        obtain ⟨p, cap, rfl, hval⟩ := owns_val2 hoi
        clear hoi Hof
        generalize L (a : Int) = zs at *
        generalize passTo L s0 a = sa at *
        have Hval := Lib.hid hval
        have Hin := Lib.hid hin
        have Hia := Lib.hid hia
        clear hval hin hia
        go_wp2_with fail
        go_loopw [5, 26] (fun m i wr => ∃ k : Nat, k ≤ zs.length ∧ i = .int .i64 k ∧ m = .bool (passRow a (zs.take k) sa).moved ∧ Hid (PSInv nn copies (passRow a (zs.take k) sa) ∧ ObjAt wr ob oo hb nn (passRow a (zs.take k) sa).held (passRow a (zs.take k) sa).giv (passRow a (zs.take k) sa).tr ∧ Touch ob oo hb w1 wr)) (fun _ i _ => zs.length - (intOf i).toNat)
        case atStart => exact ⟨0, Nat.zero_le _, rfl, rfl, Hia.out, Ha.out.1, Touch.refl _ _ _ _⟩
        case round =>
          obtain ⟨k, hk, rfl, rfl, Hk⟩ := hrel
          by_cases hltk : k < zs.length
          · rcases Hval.out with h0 | ⟨g, hp, hg1, hg2, hcap, hcell⟩
            · rw [h0] at hltk; simp at hltk
            have hz := Hin.out zs[k] (List.getElem_mem _)
            have ck : wr.cell? ⟨g, k, none⟩ = some (.int .i64 zs[k]) := (Hk.out.2.2.only.cell ⟨g, k, none⟩ hg2 (by rintro (h | h) <;> (simp at h; omega))).trans (hcell k hltk)
            have hst := passRow_succ a zs sa k hltk
            generalize zs[k] = z at *
            obtain ⟨b, rfl⟩ : ∃ b : Nat, z = (b : Int) := ⟨z.toNat, by omega⟩
            have j1 : (0 : Int) ≤ (k : Int) := by omega
            have j2 : (k : Int) < (zs.length : Int) := by omega
            have j3 : (0 : Int) ≤ (b : Int) := by omega
            have j4 : (b : Int) < (nn : Int) := by omega
            have j5 : (0 : Int) ≤ (a : Int) := by omega
            clear hcell
            subst hp
            generalize passRow a (zs.take k) sa = s at *
            obtain ⟨hinv, hobj, htch⟩ := Hk.out
            clear Hk
            have hnext : PSInv nn copies (passStep a s (b : Int)) := passStep_inv hinv hlt (by omega)
            have Hst := Lib.hid hst
            have Hnext := Lib.hid hnext
            have Hobj := Lib.hid hobj
            have Htch := Lib.hid htch
            have ca := hobj.hc a hlt
            have cb := hobj.hc b (by omega)
            have d0 := hobj.c0
            have hbb : b < nn := by omega
            have ht0 : 0 ≤ s.tr ∧ s.tr < 1000000 := by
              have h1 := hinv.cP
              have h2 := cntP_le s.held nn
              have h3 := hinv.t0
              omega
            have hg0 : -1000000 < s.giv ∧ s.giv < 1000000 := by
              have h1 := hinv.cM
              have h2 := cntM_le s.held nn
              have h3 := cntM_nonneg s.held nn
              omega
            have hla := hinv.le hlt
            have hlb := hinv.le hbb
            clear hst hnext hobj htch hinv
            by_cases hba : b < a
            · have e : passStep a s (b : Int) = s := if_pos (by omega)
              rw [e] at Hst Hnext
              have hba' : (b : Int) < (a : Int) := by omega
              go_wp2_with fail
              go_roundw
              case rel => exact ⟨k + 1, by omega, by go_num, by rw [Hst.out], by rw [Hst.out]; exact ⟨Hnext.out, Hobj.out, Htch.out⟩⟩
              case measure => simp [intOf]; omega
            · have hba' : ¬ (b : Int) < (a : Int) := by omega
              by_cases hA : 1 < s.held a ∧ s.held b = 0
              · have e : passStep a s (b : Int) = ⟨true, handF s.held a b, handG s.held s.giv a, s.tr + 1⟩ := by
                  unfold passStep
                  rw [if_neg hba', if_pos (by simpa using hA)]
                  rfl
                rw [e] at Hst Hnext
                obtain ⟨hA1, hA2⟩ := hA
                have Hcall := Lib.hid (hand_any ob oo hb nn s.held s.giv s.tr a b wr Hobj.out hlt hbb (fun e => by rw [e] at hA1; omega) hA1 (by omega) hg0 ht0)
                go_wp2_with fail
                refine Hcall.out.mono ?_
                rintro e w2 ⟨rfl, hobj2, htch2⟩
                have Hobj2 := Lib.hid hobj2
                have Htch2 := Lib.hid (Htch.out.trans htch2)
                clear hobj2 htch2
                go_wp2_with fail
                go_roundw
                case rel => exact ⟨k + 1, by omega, by go_num, by rw [Hst.out], by rw [Hst.out]; exact ⟨Hnext.out, Hobj2.out, Htch2.out⟩⟩
                case measure => simp [intOf]; omega
              · by_cases hB : 1 < s.held b ∧ s.held a = 0
                · have e : passStep a s (b : Int) = ⟨true, handF s.held b a, handG s.held s.giv b, s.tr + 1⟩ := by
                    unfold passStep
                    rw [if_neg hba', if_neg (by simpa using hA), if_pos (by simpa using hB)]
                    rfl
                  rw [e] at Hst Hnext
                  obtain ⟨hB1, hB2⟩ := hB
                  have hA1 : ¬ 1 < s.held a := by omega
                  have Hcall := Lib.hid (hand_any ob oo hb nn s.held s.giv s.tr b a wr Hobj.out hbb hlt (fun e => by rw [e] at hB1; omega) hB1 (by omega) hg0 ht0)
                  clear hA
                  go_wp2_with fail
                  refine Hcall.out.mono ?_
                  rintro e w2 ⟨rfl, hobj2, htch2⟩
                  have Hobj2 := Lib.hid hobj2
                  have Htch2 := Lib.hid (Htch.out.trans htch2)
                  clear hobj2 htch2
                  go_wp2_with fail
                  go_roundw
                  case rel => exact ⟨k + 1, by omega, by go_num, by rw [Hst.out], by rw [Hst.out]; exact ⟨Hnext.out, Hobj2.out, Htch2.out⟩⟩
                  case measure => simp [intOf]; omega
                · have e : passStep a s (b : Int) = s := by
                    unfold passStep
                    rw [if_neg hba', if_neg (by simpa using hA), if_neg (by simpa using hB)]
                  rw [e] at Hst Hnext
                  have cases4 : (¬ 1 < s.held a ∧ ¬ 1 < s.held b) ∨ (¬ 1 < s.held a ∧ 1 < s.held b ∧ ¬ s.held a = 0) ∨ (1 < s.held a ∧ ¬ s.held b = 0 ∧ ¬ 1 < s.held b) ∨ (1 < s.held a ∧ ¬ s.held b = 0 ∧ 1 < s.held b ∧ ¬ s.held a = 0) := by omega
                  clear hA hB
                  rcases cases4 with ⟨q1, q2⟩ | ⟨q1, q2, q3⟩ | ⟨q1, q2, q3⟩ | ⟨q1, q2, q3, q4⟩
                  all_goals
                    go_wp2_with fail
                    go_roundw
                    case rel => exact ⟨k + 1, by omega, by go_num, by rw [Hst.out], by rw [Hst.out]; exact ⟨Hnext.out, Hobj.out, Htch.out⟩⟩
                    case measure => simp [intOf]; omega
          · have j2 : ¬ (k : Int) < (zs.length : Int) := by omega
            have hk' : zs.take k = zs := List.take_of_length_le (by omega)
            rw [hk'] at Hk
            have hmv : (passRow a (zs.take k) sa).moved = (passRow a zs sa).moved := by rw [hk']
            clear hk'
            have Hmv := Lib.hid hmv
            clear hmv
            go_wp2_with fail
            go_roundw
            case rel =>
              refine ⟨_, _, _, _, ⟨a + 1, by omega, ?_, ?_, ?_⟩, rfl, rfl, rfl, rfl⟩
              · go_num
              · rw [Hsucc.out, Hmv.out]
              · rw [Hsucc.out]; exact ⟨Hk.out.2.1, Ha.out.2.trans Hk.out.2.2⟩
            case measure => simp [intOf]; omega
      · have ka2 : ¬ (a : Int) < (nn : Int) := by omega
        obtain rfl : a = nn := by omega
        go_wp2_with fail
        go_ret
        exact ⟨rfl, Ha.out⟩
end Go.Proofs.Qxb6612920a.spray
