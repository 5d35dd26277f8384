import Derived.Test.Qxb6612920aReady
import Derived.Deep.QuietTactic
import Derived.BigQuiet
namespace Go.Proofs.Qxb6612920a.spray
open Go.RowKit Go.PlainAid

theorem below_on {a b c : World} (h : Below a.heap.size a b) (k : Below b.heap.size b c) : Below a.heap.size a c :=
  h.trans ⟨k.os, k.tape, k.output, k.size, fun i hi => k.block i (Nat.lt_of_lt_of_le hi h.size)⟩

set_option maxRecDepth 100000 in
set_option maxHeartbeats 8000000 in
theorem law_any (copies f e n : Int) (nv fv cv qv pv qtv ptv lv : Value) (nodes first : List Int) (cs : List (List (Int × Int))) (qS pS qT pT ls : List Int) (w : World) (hcop : -9223372036854775808 ≤ copies ∧ copies ≤ 9223372036854775807)
    (h1 : InAt w .i64 nv nodes) (h2 : InAt w .i64 fv first) (h3 : InChg w cv cs) (h4 : InAt w .i32 qv qS) (h5 : InAt w .i32 pv pS) (h6 : InAt w .i64 qtv qT) (h7 : InAt w .i64 ptv pT) (h8 : InAt w .i64 lv ls)
    (rq : R32 qS) (rp : R32 pS) (rc : ∀ s k, -2147483648 ≤ ((cs.getD s []).getD k (0, 0)).2 ∧ ((cs.getD s []).getD k (0, 0)).2 ≤ 2147483647) (hl3 : cs.length ≤ 9223372036854775807) :
    Calls Try.prog 3 #[.int .i64 copies, nv, fv, cv, qv, pv, qtv, ptv, .int .i64 f, .int .i64 e, .int .i64 n, lv] w fun r w' => r = .returned (.bool true) ∧ Below w.heap.size w w' := by
  obtain ⟨p1, c1, rfl, -⟩ := id h1
  obtain ⟨p2, c2, rfl, -⟩ := id h2
  obtain ⟨p3, c3, rfl, -⟩ := id h3
  obtain ⟨p4, c4, rfl, -⟩ := id h4
  obtain ⟨p5, c5, rfl, -⟩ := id h5
  obtain ⟨p6, c6, rfl, -⟩ := id h6
  obtain ⟨p7, c7, rfl, -⟩ := id h7
  obtain ⟨p8, c8, rfl, -⟩ := id h8
  have H1 := Lib.hid h1
  have H2 := Lib.hid h2
  have H3 := Lib.hid h3
  have H4 := Lib.hid h4
  have H5 := Lib.hid h5
  have H6 := Lib.hid h6
  have H7 := Lib.hid h7
  have H8 := Lib.hid h8
  have Rq := Lib.hid rq
  have Rp := Lib.hid rp
  have Rc := Lib.hid rc
  have Hcop := Lib.hid hcop
  clear h1 h2 h3 h4 h5 h6 h7 h8 rq rp rc hcop
  go_enter Try.func3, Try.ntmps3
  go_wp2_with fail
  refine (bytes_any copies f e n p1 p2 p4 p5 p6 p7 p8 nodes.length first.length qS.length pS.length qT.length pT.length ls.length c1 c2 c4 c5 c6 c7 c8 (.slice p3 cs.length c3) cs w H3.out hl3).mono ?_
  rintro r w1 ⟨b, rfl, hb1, -⟩
  have B1 := Lib.hid hb1
  clear hb1
  cases b
  · go_wp2_with fail
    go_ret
    exact ⟨rfl, B1.out⟩
  go_wp2_with fail
  refine (size_any p1 p2 p4 p5 p6 p7 p8 nodes.length first.length qS.length pS.length qT.length pT.length ls.length c1 c2 c4 c5 c6 c7 c8 (.slice p3 cs.length c3) cs w1 (H3.out.stay B1.out)).mono ?_
  rintro r w2 ⟨b, rfl, hb2, hF2⟩
  have B2 := Lib.hid (below_on B1.out hb2)
  have F2 := Lib.hid hF2
  clear hb2 hF2 B1
  cases b
  · go_wp2_with fail
    go_ret
    exact ⟨rfl, B2.out⟩
  have S2 := Lib.hid (F2.out rfl)
  clear F2
  go_wp2_with fail
  refine (domain_any nodes.length f e n (.slice p2 first.length c2) (.slice p3 cs.length c3) (.slice p4 qS.length c4) (.slice p5 pS.length c5) (.slice p6 qT.length c6) (.slice p7 pT.length c7) (.slice p8 ls.length c8) first cs qS pS qT pT ls w2 (H2.out.stay B2.out) (H3.out.stay B2.out) (H4.out.stay B2.out) (H5.out.stay B2.out) (H6.out.stay B2.out) (H7.out.stay B2.out) (H8.out.stay B2.out) Rq.out Rp.out Rc.out S2.out.2.1 S2.out.2.2.2.2.2.2.2.2.1).mono ?_
  rintro r w3 ⟨b, rfl, hb3, hF3⟩
  have B3 := Lib.hid (below_on B2.out hb3)
  have F3 := Lib.hid hF3
  clear hb3 hF3 B2
  cases b
  · go_wp2_with fail
    go_ret
    exact ⟨rfl, B3.out⟩
  have D := Lib.hid (F3.out rfl)
  clear F3 Rq Rp Rc
  obtain ⟨s1, s2, s4, s5, s6, s7, s8, s3, s9, s10⟩ := S2.out
  have S9 := Lib.hid s9
  have S10 := Lib.hid s10
  clear s9 s10 S2
  go_wp2_with fail
  refine (clone_ints _ nodes w3 (H1.out.stay B3.out) (by omega)).mono ?_
  rintro r w4 ⟨v, rfl, hr4, hb4⟩
  obtain ⟨q1, d1, rfl, -⟩ := id hr4
  have R1 := Lib.hid hr4
  have B4 := Lib.hid hb4
  clear hr4 hb4 H1
  go_wp2_with fail
  refine (clone_ints _ first w4 (H2.out.stay (below_on B3.out B4.out)) (by omega)).mono ?_
  rintro r w5 ⟨v, rfl, hr5, hb5⟩
  obtain ⟨q2, d2, rfl, -⟩ := id hr5
  have R2 := Lib.hid hr5
  have B5 := Lib.hid hb5
  have A5 := Lib.hid (below_on (below_on B3.out B4.out) hb5)
  clear hr5 hb5 H2
  go_wp2_with fail
  refine (clone_chg _ cs w5 (H3.out.stay A5.out) (by omega) (fun s hs => by have := S9.out s hs; omega)).mono ?_
  rintro r w6 ⟨v, rfl, hr6, hb6⟩
  obtain ⟨q3, d3, rfl, -⟩ := id hr6
  have R3 := Lib.hid hr6
  have B6 := Lib.hid hb6
  have A6 := Lib.hid (below_on A5.out hb6)
  clear hr6 hb6 H3 A5
  go_wp2_with fail
  refine (clone_int32s _ qS w6 (H4.out.stay A6.out) (by omega)).mono ?_
  rintro r w7 ⟨v, rfl, hr7, hb7⟩
  obtain ⟨q4, d4, rfl, -⟩ := id hr7
  have R4 := Lib.hid hr7
  have B7 := Lib.hid hb7
  have A7 := Lib.hid (below_on A6.out hb7)
  clear hr7 hb7 H4 A6
  go_wp2_with fail
  refine (clone_int32s _ pS w7 (H5.out.stay A7.out) (by omega)).mono ?_
  rintro r w8 ⟨v, rfl, hr8, hb8⟩
  obtain ⟨q5, d5, rfl, -⟩ := id hr8
  have R5 := Lib.hid hr8
  have B8 := Lib.hid hb8
  have A8 := Lib.hid (below_on A7.out hb8)
  clear hr8 hb8 H5 A7
  go_wp2_with fail
  refine (clone_ints _ qT w8 (H6.out.stay A8.out) (by omega)).mono ?_
  rintro r w9 ⟨v, rfl, hr9, hb9⟩
  obtain ⟨q6, d6, rfl, -⟩ := id hr9
  have R6 := Lib.hid hr9
  have B9 := Lib.hid hb9
  have A9 := Lib.hid (below_on A8.out hb9)
  clear hr9 hb9 H6 A8
  go_wp2_with fail
  refine (clone_ints _ pT w9 (H7.out.stay A9.out) (by omega)).mono ?_
  rintro r w10 ⟨v, rfl, hr10, hb10⟩
  obtain ⟨q7, d7, rfl, -⟩ := id hr10
  have R7 := Lib.hid hr10
  have B10 := Lib.hid hb10
  have A10 := Lib.hid (below_on A9.out hb10)
  clear hr10 hb10 H7 A9
  go_wp2_with fail
  refine (clone_ints _ ls w10 (H8.out.stay A10.out) (by omega)).mono ?_
  rintro r w11 ⟨v, rfl, hr11, hb11⟩
  obtain ⟨q8, d8, rfl, -⟩ := id hr11
  have R8 := Lib.hid hr11
  have B11 := Lib.hid hb11
  have A11 := Lib.hid (below_on A10.out hb11)
  clear hr11 hb11 H8 A10
  go_wp2_with fail
  refine (grid_any _ _ _ _ _ _ _ _ _ w11).mono ?_
  rintro r w12 ⟨rfl, hg1, hg3, hg5, hb12⟩
  have HG : Hid (GridAt w12 (cxOf copies f e n nodes first cs qS qT ls) w11.heap.size q1 d1 (.slice q2 first.length d2) (.slice q3 cs.length d3)) := by
    have t10 := below_on B11.out hb12
    have t9 := below_on B10.out t10
    have t8 := below_on B9.out t9
    have t7 := below_on B8.out t8
    have t6 := below_on B7.out t7
    have t5 := below_on B6.out t6
    exact ⟨hg1, hg3, hg5, R2.out.later t5, R3.out.later t6⟩
  obtain ⟨I, hI⟩ : ∃ I : Ins, I = { pS := pS, pT := pT, qv := .slice q4 qS.length d4, pv := .slice q5 pS.length d5, qtv := .slice q6 qT.length d6, ptv := .slice q7 pT.length d7, lv := .slice q8 ls.length d8 } := ⟨_, rfl⟩
  have HI : Hid (InsAt w12 (cxOf copies f e n nodes first cs qS qT ls) I) := by
    rw [hI]
    have t10 := below_on B11.out hb12
    have t9 := below_on B10.out t10
    have t8 := below_on B9.out t9
    have t7 := below_on B8.out t8
    exact ⟨R4.out.later t7, R5.out.later t8, R6.out.later t9, R7.out.later t10, R8.out.later hb12⟩
  have A12 := Lib.hid (below_on A11.out hb12)
  clear B3 B4 B5 B6 B7 B8 B9 B10 B11 R1 R2 R3 R4 R5 R6 R7 R8 A11 hg1 hg3 hg5 hb12
  have HC := Lib.hid (dom_cx D.out Hcop.out)
  have HO : Hid (InsOK (cxOf copies f e n nodes first cs qS qT ls) I) := by rw [hI]; exact dom_ins (I := { pS := pS, pT := pT, qv := .slice q4 qS.length d4, pv := .slice q5 pS.length d5, qtv := .slice q6 qT.length d6, ptv := .slice q7 pT.length d7, lv := .slice q8 ls.length d8 }) D.out
  have HII := Lib.hid hI
  clear hI
  go_wp2_with fail
  refine (judging_any _ _ _ _ _ _ _ _ _ _ _ _ _ _ _ _ _ _ _ w12).mono ?_
  rintro r w13 ⟨rfl, hb13⟩
  have A13 := Lib.hid (below_on A12.out hb13)
  have HG13 := Lib.hid (HG.out.later hb13)
  have HI13 := Lib.hid (HI.out.later hb13)
  clear hb13 HG HI A12
  go_wp2_with fail
  have Hzz : Hid (Calls Try.prog 11 #[.pointer (some ⟨w11.heap.size, 0, none⟩), .int .i64 copies, .agg #[.slice q4 qS.length d4, .slice q5 pS.length d5, .slice q6 qT.length d6, .slice q7 pT.length d7, .int .i64 f, .int .i64 e, .int .i64 n, .slice q8 ls.length d8, .int .i64 0]] w13 fun r w' => ∃ av tv, r = .returned (.tuple #[av, tv]) ∧ RowAt w' w'.heap.size .i64 av ((cxOf copies f e n nodes first cs qS qT ls).answers I) ∧ RowAt w' w'.heap.size .i64 tv ((cxOf copies f e n nodes first cs qS qT ls).moves I) ∧ Below w13.heap.size w13 w' ∧ Fresh w13.heap.size av) := by
    have e := HII.out
    subst e
    exact zz_any (cxOf copies f e n nodes first cs qS qT ls) HC.out w11.heap.size q1 d1 _ _ _ w13 HG13.out HI13.out HO.out (by
      have h := S10.out
      have h2 := D.out.nc
      show cntC (cxOf copies f e n nodes first cs qS qT ls) first.length ≤ 1073741824
      rw [cnt_sum, ← h2]; omega) (by show first.length ≤ 1073741824; omega)
  refine Hzz.out.mono ?_
  rintro r w14 ⟨av, tv, rfl, ha14, ht14, hb14, -⟩
  obtain ⟨pa, ca, ea, -⟩ := id ha14
  obtain ⟨pt, ct, et, -⟩ := id ht14
  rw [answers_len] at ea
  have eI : I.pS.length = pS.length := by rw [HII.out]
  rw [moves_len, eI] at et
  have ea : av = .slice pa ls.length ca := ea
  subst ea et
  have Ha := Lib.hid ha14
  have Ht := Lib.hid ht14
  have HG14 := Lib.hid (HG13.out.later hb14)
  have HI14 := Lib.hid (HI13.out.later hb14)
  have A14 := Lib.hid (below_on A13.out hb14)
  clear ha14 ht14 hb14 HG13 HI13 A13 Hzz eI
  go_wp2_with fail
  have Hbo : Hid (Calls Try.prog 13 #[.int .i64 copies, .slice q4 qS.length d4, .slice q5 pS.length d5, .slice q6 qT.length d6, .slice q7 pT.length d7, .int .i64 n] w14 fun r w' => r = .returned (.tuple #[.int .i64 (selfB copies qS pS qT pT n), .int .i64 (totalB qS pS qT pT n)]) ∧ Below w14.heap.size w14 w') := by
    have e := HII.out
    subst e
    exact bounds_any copies n _ _ _ _ qS pS qT pT w14 HI14.out.q HI14.out.p HI14.out.qt HI14.out.pt HC.out.nq HO.out.np HC.out.nqT HO.out.nT (fun i j hi hj => weights_ok HC.out HO.out i j hi hj)
  refine Hbo.out.mono ?_
  rintro r w15 ⟨rfl, hb15⟩
  have Ha15 := Lib.hid (Ha.out.later hb15)
  have Ht15 := Lib.hid (Ht.out.later hb15)
  have HG15 := Lib.hid (HG14.out.later hb15)
  have HI15 := Lib.hid (HI14.out.later hb15)
  have A15 := Lib.hid (below_on A14.out hb15)
  have Hsh : Hid (Calls Try.prog 14 #[.int .i64 copies, .int .i64 nodes.length, .slice pa ls.length ca, .slice pt pS.length ct, .int .i64 ls.length, .int .i64 pS.length, .int .i64 (selfB copies qS pS qT pT n), .int .i64 (totalB qS pS qT pT n)] w15 fun r w' => r = .returned (.bool true) ∧ w' = w15) := by
    have e := HII.out
    subst e
    have hs := shape_ok HC.out HO.out
    have l1 : ∀ I, ((cxOf copies f e n nodes first cs qS qT ls).answers I).length = ls.length := fun I => answers_len _ I
    have l2 : ∀ I, ((cxOf copies f e n nodes first cs qS qT ls).moves I).length = I.pS.length := fun I => moves_len _ I
    have h := shape_any copies nodes.length (selfB copies qS pS qT pT n) (totalB qS pS qT pT n) (.slice pa ls.length ca) (.slice pt pS.length ct) _ _ w15 Ha15.out Ht15.out D.out.hnn Hcop.out (by rw [l1]; omega) (by rw [l2]; show pS.length ≤ _; omega) hs.1 hs.2
    rw [l1, l2] at h
    exact h
  generalize selfB copies qS pS qT pT n = slf at *
  generalize totalB qS pS qT pT n = tot at *
  clear Ha Ht HG14 HI14 A14 Hbo hb15
  go_wp2_with fail
  refine Hsh.out.mono ?_
  rintro r w16 ⟨rfl, hw16⟩
  subst hw16
  clear Hsh
  have m1 := make3 w16 ls.length (by omega)
  go_wp2_with fail
  have hpl : pS.length ≤ 4096 := by have := D.out.np; omega
  have HpS : Hid (I.pS = pS ∧ I.pT = pT) := by
    have e := HII.out
    subst e
    exact ⟨rfl, rfl⟩
  have HO2 := Lib.hid (And.intro HO.out.p HO.out.pt)
  go_loopg [31] pS.length (fun gk i wr => ∃ j : Nat, j ≤ pS.length ∧ gk = pS.length - j ∧ i = .int .i64 j ∧ Hid (Below w16.heap.size w16 wr ∧ NumsAt wr w16.heap.size ls.length ((cxOf copies f e n nodes first cs qS qT ls).sofar I j)))
  case atStart => exact ⟨0, Nat.zero_le _, rfl, rfl, (Below.refl _ w16).alloc (Nat.le_refl _) _, ⟨fun k hk => by rw [cell_new]; exact made_one _ hk, fun k => froz_new _ _ _ k, by simp⟩⟩
  case round =>
    obtain ⟨j, hj, rfl, rfl, Hj⟩ := hrel
    by_cases hlt : j < pS.length
    · as_aux_lemma =>
      have j1 : (0 : Int) ≤ (j : Int) := by omega
      have j2 : (j : Int) < (pS.length : Int) := by omega
      have j3 : (j : Int) < (pT.length : Int) := by have := D.out.npT; omega
      have HIr := Lib.hid (HI15.out.later Hj.out.1)
      have HGr := Lib.hid (HG15.out.later Hj.out.1)
      obtain ⟨g5, cap5, e5, h51, h52, hc5⟩ : ∃ g cap, Value.slice q5 pS.length d5 = .slice (some ⟨g, 0, none⟩) pS.length cap ∧ g < wr.heap.size ∧ g < wr.heap.size ∧ wr.cell? ⟨g, j, none⟩ = some (.int .i32 (pS.getD j 0)) := by
        have e := HII.out
        have h := HIr.out.p
        subst e
        exact h.at hlt
      simp only [Value.slice.injEq, true_and] at e5
      obtain ⟨rfl, rfl⟩ := e5
      obtain ⟨g7, cap7, e7, h71, h72, hc7⟩ : ∃ g cap, Value.slice q7 pT.length d7 = .slice (some ⟨g, 0, none⟩) pT.length cap ∧ g < wr.heap.size ∧ g < wr.heap.size ∧ wr.cell? ⟨g, j, none⟩ = some (.int .i64 (pT.getD j 0)) := by
        have e := HII.out
        have h := HIr.out.pt
        subst e
        exact h.at (by have := D.out.npT; show j < pT.length; omega)
      simp only [Value.slice.injEq, true_and] at e7
      obtain ⟨rfl, rfl⟩ := e7
      have nw := World.new_ne wr ⟨g7, j, none⟩ hc7
      obtain ⟨xj, hxj⟩ : ∃ x, pS.getD j 0 = x := ⟨_, rfl⟩
      obtain ⟨yj, hyj⟩ : ∃ x, pT.getD j 0 = x := ⟨_, rfl⟩
      rw [hxj] at hc5
      rw [hyj] at hc7
      obtain ⟨wa, hwa⟩ : ∃ wa, wa = (wr.alloc (.cells #[.int .i32 xj] 21 (0, 0))).alloc (.cells #[.int .i64 yj] 3 (0, 0)) := ⟨_, rfl⟩
      have hba : Below wr.heap.size wr wa := by rw [hwa]; exact ((Below.refl _ wr).alloc (Nat.le_refl _) _).alloc (by simp) _
      obtain ⟨I1, hI1⟩ : ∃ I1, I1 = I.one j (.slice (some ⟨wr.heap.size, 0, none⟩) 1 1) (.slice (some ⟨wr.heap.size + 1, 0, none⟩) 1 1) := ⟨_, rfl⟩
      have HI1 : Hid (InsAt wa (cxOf copies f e n nodes first cs qS qT ls) I1) := by
        rw [hwa, hI1, ← hxj, ← hyj, ← HpS.out.1, ← HpS.out.2]
        exact one_at HIr.out j
      have HO1 : Hid (InsOK (cxOf copies f e n nodes first cs qS qT ls) I1) := by
        rw [hI1]
        exact one_ok HO.out (by rw [HpS.out.1]; exact hlt) _ _
      have HGa := Lib.hid (HGr.out.later hba)
      have Hz : Hid (∀ wb, Below wa.heap.size wa wb → Calls Try.prog 11 #[.pointer (some ⟨w11.heap.size, 0, none⟩), .int .i64 copies, .agg #[.slice q4 qS.length d4, .slice (some ⟨wr.heap.size, 0, none⟩) 1 1, .slice q6 qT.length d6, .slice (some ⟨wr.heap.size + 1, 0, none⟩) 1 1, .int .i64 f, .int .i64 e, .int .i64 n, .slice q8 ls.length d8, .int .i64 0]] wb fun r w' => ∃ av tv, r = .returned (.tuple #[av, tv]) ∧ RowAt w' w'.heap.size .i64 av ((cxOf copies f e n nodes first cs qS qT ls).answers I1) ∧ RowAt w' w'.heap.size .i64 tv ((cxOf copies f e n nodes first cs qS qT ls).moves I1) ∧ Below wb.heap.size wb w' ∧ Fresh wb.heap.size av) := fun wb hbb => by
        have h := zz_any (cxOf copies f e n nodes first cs qS qT ls) HC.out w11.heap.size q1 d1 _ _ I1 wb (HGa.out.later hbb) (HI1.out.later hbb) HO1.out (by
          have h := S10.out
          have h2 := D.out.nc
          show cntC (cxOf copies f e n nodes first cs qS qT ls) first.length ≤ 1073741824
          rw [cnt_sum, ← h2]; omega) (by show first.length ≤ 1073741824; omega)
        have e := HII.out
        rw [hI1, e] at h
        rw [hI1, e]
        exact h
      have Hba := Lib.hid hba
      have HII1 := Lib.hid hI1
      have Hwa := Lib.hid hwa
      clear hba hI1 hwa hxj hyj
      go_wp2_with fail
      rw [← Hwa.out]
      refine (judging_any _ _ _ _ _ _ _ _ _ _ _ _ _ _ _ _ _ _ _ wa).mono ?_
      rintro r wb ⟨rfl, hbb⟩
      have Hzz := Lib.hid (Hz.out wb hbb)
      have Hbb := Lib.hid (below_on Hba.out hbb)
      clear hbb Hz
      go_wp2_with fail
      refine Hzz.out.mono ?_
      rintro r wc ⟨av, tv, rfl, ha1, ht1, hbc, hfr⟩
      obtain ⟨pa1, ca1, ea1, -⟩ := id ha1
      rw [answers_len] at ea1
      have ea1 : av = .slice pa1 ls.length ca1 := ea1
      subst ea1
      have hjI : j < I.pS.length := by rw [HpS.out.1]; exact hlt
      have Hb16 := Lib.hid (below_on (below_on Hj.out.1 Hbb.out) hbc)
      have em : (cxOf copies f e n nodes first cs qS qT ls).moves I1 = [((cxOf copies f e n nodes first cs qS qT ls).moves I).getD j 0] := by rw [HII1.out]; exact one_moves _ I j _ _ hjI
      rw [em] at ht1
      obtain ⟨gt1, ct1, et1, -, -, hct1⟩ := ht1.at (i := 0) (by simp)
      subst et1
      obtain ⟨gt, ctt, ett, -, -, hctt⟩ := (Ht15.out.later Hb16.out).at (i := j) (by rw [moves_len]; exact hjI)
      simp only [Value.slice.injEq] at ett
      obtain ⟨rfl, -, rfl⟩ := ett
      simp only [List.getD_cons_zero] at hct1
      generalize ((cxOf copies f e n nodes first cs qS qT ls).moves I).getD j 0 = tr at *
      have Ha1 := Lib.hid ha1
      have Hfr := Lib.hid hfr
      have HM : Hid (w16.heap.size < wr.heap.size) := Hj.out.2.lt
      have Hwrb : Hid (wr.heap.size ≤ wb.heap.size) := Hbb.out.size
      have Hsum : Hid (∀ k, k < ls.length → (cxOf copies f e n nodes first cs qS qT ls).sofar I (j + 1) k = (cxOf copies f e n nodes first cs qS qT ls).sofar I j k + ((cxOf copies f e n nodes first cs qS qT ls).answers I1).getD k 0 ∧ (0 ≤ (cxOf copies f e n nodes first cs qS qT ls).sofar I (j + 1) k ∧ (cxOf copies f e n nodes first cs qS qT ls).sofar I (j + 1) k ≤ 1152921504606846976)) := fun k hk => by
        have h1 : ((cxOf copies f e n nodes first cs qS qT ls).answers I1).getD k 0 = total (cxOf copies f e n nodes first cs qS qT ls) I1.pS.length ((cxOf copies f e n nodes first cs qS qT ls).finOf I1) k := answers_at hk
        refine ⟨?_, sofar_le HC.out HO.out.np HO2.out.1 HO2.out.2 hk (by omega)⟩
        rw [h1, HII1.out]
        exact one_total _ I j _ _ k
      have HN : Hid (∀ dq, NumsAt (wc.drewN dq) w16.heap.size ls.length ((cxOf copies f e n nodes first cs qS qT ls).mid I j 0)) := fun dq => by
        rw [mid_zero]
        have h1 := Hj.out.2
        have h2 := h1.stay (S := fun k => wr.heap.size ≤ k) (Only.of_below (below_on Hbb.out hbc)) (by have := HM.out; omega)
        exact ⟨h2.c, h2.f, h2.lt⟩
      clear ha1 ht1 hfr Hzz HIr HGr HGa HI1 HO1 hc5 hc7 nw
      go_wp2_with fail
      go_quiet (fail)
      have HN2 := Lib.hid (HN.out nq)
      have Hsz : Hid ((wc.drewN nq).heap.size = wc.heap.size ∧ (∀ g o, (wc.drewN nq).cell? ⟨g, o, none⟩ = wc.cell? ⟨g, o, none⟩) ∧ Below wc.heap.size wc (wc.drewN nq)) := ⟨rfl, fun _ _ => rfl, rfl, rfl, rfl, Nat.le_refl _, fun _ _ => rfl⟩
      generalize wc.drewN nq = wd at *
      go_wp2_with fail
      go_loopg [36] ls.length (fun gk i wx => ∃ k : Nat, k ≤ ls.length ∧ gk = ls.length - k ∧ i = .int .i64 k ∧ Hid (Only (fun b => b = w16.heap.size) wd wx ∧ NumsAt wx w16.heap.size ls.length ((cxOf copies f e n nodes first cs qS qT ls).mid I j k)))
      case atStart => exact ⟨0, Nat.zero_le _, rfl, rfl, Only.refl _ _, HN2.out⟩
      case round =>
        obtain ⟨k, hk, rfl, rfl, Hk⟩ := hrel
        by_cases hltk : k < ls.length
        · as_aux_lemma =>
          have i1 : (0 : Int) ≤ (k : Int) := by omega
          have i2 : (k : Int) < (ls.length : Int) := by omega
          obtain ⟨ga, cga, ega, -, hga, hcga⟩ := Ha1.out.at (i := k) (by rw [answers_len]; exact hltk)
          simp only [Value.slice.injEq] at ega
          obtain ⟨rfl, -, rfl⟩ := ega
          have hgne : w16.heap.size < ga := by
            have h1 := Hfr.out _ _ _ rfl
            have h2 := HM.out
            have h3 := Hwrb.out
            have h4 : wb.heap.size ≤ ga := h1
            omega
          have ca1' := (Hk.out.1.cellAt ga k (by rw [Hsz.out.1]; exact hga) (by omega)).trans ((Hsz.out.2.1 ga k).trans hcga)
          have cs1 := Hk.out.2.c k hltk
          have fs1 := Hk.out.2.f k
          have hmid : (cxOf copies f e n nodes first cs qS qT ls).mid I j k k = (cxOf copies f e n nodes first cs qS qT ls).sofar I j k := if_neg (by omega)
          rw [hmid] at cs1
          obtain ⟨hs1, hs2⟩ := Hsum.out k hltk
          have Hset := Lib.hid (Hk.out.2.set k hltk ((cxOf copies f e n nodes first cs qS qT ls).sofar I (j + 1) k))
          rw [mid_next] at Hset
          have Hon := Lib.hid (Hk.out.1.trans (Only.setCell wr ⟨w16.heap.size, k, none⟩ (.int .i64 ((cxOf copies f e n nodes first cs qS qT ls).sofar I (j + 1) k))))
          generalize (cxOf copies f e n nodes first cs qS qT ls).sofar I (j + 1) k = s2' at *
          generalize (cxOf copies f e n nodes first cs qS qT ls).sofar I j k = s1' at *
          generalize ((cxOf copies f e n nodes first cs qS qT ls).answers I1).getD k 0 = x1 at *
          have n1 : IntKind.i64.wrap (s1' + x1) = s2' := by rw [hs1]; exact IntWalk.i64_in _ ⟨by omega, by omega⟩
          have nb : ¬ ga = w16.heap.size := by omega
          have hgw : ga < wr.heap.size := by have := Hk.out.1.size; have := Hsz.out.1; omega
          have hMw : w16.heap.size < wr.heap.size := by omega
          have nb' : ¬ w16.heap.size = ga := by omega
          clear hcga hmid
          go_wp2_with fail
          go_region
          go_wp2_with fail
          go_roundg (ls.length - (k + 1))
          case measure => omega
          case rel =>
            refine ⟨k + 1, by omega, rfl, by go_num, ?_, ?_⟩
            · have h1 := Hon.out
              rw [hs1] at h1
              exact ⟨h1.os, h1.tape, h1.output, h1.size, h1.block⟩
            · have h1 := Hset.out
              rw [hs1] at h1
              exact ⟨h1.c, h1.f, h1.lt⟩
        · have i2 : ¬ (k : Int) < (ls.length : Int) := by omega
          obtain rfl : k = ls.length := by omega
          go_wp2_with fail
          go_roundg (pS.length - (j + 1))
          case measure => omega
          case rel =>
            refine ⟨j + 1, by omega, rfl, by go_num, ?_, mid_all Hk.out.2⟩
            have h0 := Hb16.out.size
            have h1 := Hk.out.1.below (B := w16.heap.size) (by rw [Hsz.out.1]; exact h0) (fun k hk => by omega)
            have h2 := Hsz.out.2.2
            exact (Hb16.out.trans ⟨h2.os, h2.tape, h2.output, h2.size, fun b hb => h2.block b (by omega)⟩).trans h1
    · have j2 : ¬ (j : Int) < (pS.length : Int) := by omega
      obtain rfl : j = pS.length := by omega
      go_wp2_with fail
      have Hall : Hid (∀ k, k < ls.length → ∃ x, NumsAt wr w16.heap.size ls.length ((cxOf copies f e n nodes first cs qS qT ls).sofar I pS.length) ∧ (cxOf copies f e n nodes first cs qS qT ls).sofar I pS.length k = x ∧ ((cxOf copies f e n nodes first cs qS qT ls).answers I).getD k 0 = x) := fun k hk => ⟨_, Hj.out.2, rfl, by
        rw [show ((cxOf copies f e n nodes first cs qS qT ls).answers I).getD k 0 = total (cxOf copies f e n nodes first cs qS qT ls) I.pS.length ((cxOf copies f e n nodes first cs qS qT ls).finOf I) k from answers_at hk, HpS.out.1]
        rfl⟩
      have Hend : Hid (Below w.heap.size w wr) := below_on A15.out Hj.out.1
      go_loopg [37] ls.length (fun gk i wx => ∃ k : Nat, k ≤ ls.length ∧ gk = ls.length - k ∧ i = .int .i64 k ∧ Hid (Below wr.heap.size wr wx))
      case atStart => exact ⟨0, Nat.zero_le _, rfl, rfl, Below.refl _ _⟩
      case round =>
        obtain ⟨k, hk, rfl, rfl, Hk⟩ := hrel
        by_cases hltk : k < ls.length
        · have i1 : (0 : Int) ≤ (k : Int) := by omega
          have i2 : (k : Int) < (ls.length : Int) := by omega
          obtain ⟨x, hn, hx1, hx2⟩ := Hall.out k hltk
          obtain ⟨ga, cga, ega, -, hga, hcga⟩ := (Ha15.out.later Hj.out.1).at (i := k) (by rw [answers_len]; exact hltk)
          simp only [Value.slice.injEq] at ega
          obtain ⟨rfl, -, rfl⟩ := ega
          rw [hx2] at hcga
          have e1 := hn.c k hltk
          rw [hx1] at e1
          have d1' := (Hk.out.cell (p := ⟨w16.heap.size, k, none⟩) hn.lt).trans e1
          have d2' := (Hk.out.cell (p := ⟨ga, k, none⟩) hga).trans hcga
          clear e1 hn hx1 hx2 hcga
          go_wp2_with fail
          go_quiet (fail)
          go_wp2_with fail
          go_roundg (ls.length - (k + 1))
          case measure => omega
          case rel => exact ⟨k + 1, by omega, rfl, by go_num, Hk.out.trans ⟨rfl, rfl, rfl, Nat.le_refl _, fun _ _ => rfl⟩⟩
        · have i2 : ¬ (k : Int) < (ls.length : Int) := by omega
          go_wp2_with fail
          go_ret
          exact ⟨rfl, Hend.out.trans ⟨Hk.out.os, Hk.out.tape, Hk.out.output, Hk.out.size, fun b hb => Hk.out.block b (by have := Hend.out.size; omega)⟩⟩
end Go.Proofs.Qxb6612920a.spray
