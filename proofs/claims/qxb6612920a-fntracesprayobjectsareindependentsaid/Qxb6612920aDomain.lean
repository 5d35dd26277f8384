import Derived.Test.Qxb6612920aSizes
import Derived.Deep.QuietTactic
import Derived.BigQuiet
namespace Go.Proofs.Qxb6612920a.spray
open Go.RowKit Go.PlainAid

def R32 (zs : List Int) : Prop := ∀ i, -2147483648 ≤ zs.getD i 0 ∧ zs.getD i 0 ≤ 2147483647
/-- what DomainOK's yes means -/
structure Dom (nn : Nat) (first : List Int) (cs : List (List (Int × Int))) (qS pS qT pT : List Int) (f e n : Int) (ls : List Int) : Prop where
  hnn : nn ≤ 4096
  nq : qS.length ≤ 4096
  np : pS.length ≤ 256
  nl : ls.length ≤ 4096
  nf : 1 ≤ first.length
  f0 : first.getD 0 0 = 0
  nc : cs.length = first.length
  fup : ∀ s, s + 1 < first.length → first.getD s 0 < first.getD (s + 1) 0 ∧ first.getD (s + 1) 0 ≤ 1073741824
  chg : ∀ s, s < cs.length → ∀ k, k < (cs.getD s []).length → GoodP nn ((cs.getD s []).getD k (0, 0))
  nqT : qT.length = qS.length
  npT : pT.length = pS.length
  hq : ∀ i, i < qS.length → 0 ≤ qS.getD i 0 ∧ qS.getD i 0 < nn ∧ 0 ≤ qT.getD i 0 ∧ qT.getD i 0 ≤ 1024
  hp : ∀ i, i < pS.length → 0 ≤ pS.getD i 0 ∧ pS.getD i 0 < nn ∧ 0 ≤ pT.getD i 0 ∧ pT.getD i 0 ≤ 1024
  hf : 0 ≤ f ∧ f ≤ 1073741824
  he : 1 ≤ e ∧ e ≤ 65536
  hn : 0 ≤ n ∧ n ≤ 65536
  hls : ∀ k, k < ls.length → 0 ≤ ls.getD k 0 ∧ ls.getD k 0 ≤ 1073741824

set_option maxRecDepth 100000 in
set_option maxHeartbeats 8000000 in
theorem domain_any (nn : Nat) (f e n : Int) (fv cv qv pv qtv ptv lv : Value) (first : List Int) (cs : List (List (Int × Int))) (qS pS qT pT ls : List Int) (w : World)
    (hf : InAt w .i64 fv first) (hcs : InChg w cv cs) (hq : InAt w .i32 qv qS) (hp : InAt w .i32 pv pS) (hqt : InAt w .i64 qtv qT) (hpt : InAt w .i64 ptv pT) (hl : InAt w .i64 lv ls)
    (rq : R32 qS) (rp : R32 pS) (rc : ∀ s k, -2147483648 ≤ ((cs.getD s []).getD k (0, 0)).2 ∧ ((cs.getD s []).getD k (0, 0)).2 ≤ 2147483647) (hfl : first.length ≤ 131072) (hcl : ∀ s, s < cs.length → (cs.getD s []).length ≤ 131072) :
    Calls Try.prog 6 #[.int .i64 nn, fv, cv, qv, pv, qtv, ptv, .int .i64 f, .int .i64 e, .int .i64 n, lv, .int .i64 256, .int .i64 4096] w (Said w (Dom nn first cs qS pS qT pT f e n ls)) := by
  have Hf := Lib.hid hf
  have Hcs := Lib.hid hcs
  have Hq := Lib.hid hq
  have Hp := Lib.hid hp
  have Hqt := Lib.hid hqt
  have Hpt := Lib.hid hpt
  have Hl := Lib.hid hl
  have Rq := Lib.hid rq
  have Rp := Lib.hid rp
  have Rc := Lib.hid rc
  have Hcl := Lib.hid hcl
  obtain ⟨p1, c1, rfl, -⟩ := hf
  obtain ⟨p2, c2, rfl, -⟩ := hcs
  obtain ⟨p3, c3, rfl, -⟩ := hq
  obtain ⟨p4, c4, rfl, -⟩ := hp
  obtain ⟨p5, c5, rfl, -⟩ := hqt
  obtain ⟨p6, c6, rfl, -⟩ := hpt
  obtain ⟨p7, c7, rfl, -⟩ := hl
  clear rq rp rc hcl
  by_cases h0 : first.length < 1
  · have k0 : (first.length : Int) < 1 := by omega
    go_enter Try.func6, Try.ntmps6
    go_wp2_with fail
    all_goals try (go_ret; exact said_no (Below.refl _ _) rfl)
  · have k0 : ¬ (first.length : Int) < 1 := by omega
    have k1 : (0 : Int) < (first.length : Int) := by omega
    obtain ⟨g1, o1, cap1, e1, hg1, hc1⟩ := Hf.out.at (i := 0) (by omega)
    simp only [Value.slice.injEq, true_and] at e1
    obtain ⟨rfl, rfl⟩ := e1
    rw [Nat.add_zero] at hc1
    have Hz := Lib.hid (show first.getD 0 0 = first.getD 0 0 from rfl)
    obtain ⟨z0, hz0⟩ : ∃ z0, first.getD 0 0 = z0 := ⟨_, rfl⟩
    rw [hz0] at hc1
    have Hz0 := Lib.hid hz0
    clear hz0 Hz
    go_enter Try.func6, Try.ntmps6
    go_wp2_with fail
    all_goals try (go_ret; exact said_no (Below.refl _ _) rfl)
    have hcf : cs.length = first.length := by
      have h : ((cs.length : Int) != (first.length : Int)) = false := by assumption
      simp at h
      omega
    have Hcf := Lib.hid hcf
    clear hcf
    have HD1 : Hid (nn ≤ 4096 ∧ qS.length ≤ 4096 ∧ pS.length ≤ 256 ∧ ls.length ≤ 4096 ∧ z0 = 0) := by
      refine ⟨?_, ?_, ?_, ?_, ?_⟩ <;> omega
    go_loopg [27] (first.length - 1) (fun gk i wr => ∃ b : Nat, b + 1 ≤ first.length ∧ gk = first.length - (b + 1) ∧ i = .int .i64 ((b : Int) + 1) ∧ Hid (Below w.heap.size w wr ∧ ∀ s, s < b → first.getD s 0 < first.getD (s + 1) 0 ∧ first.getD (s + 1) 0 ≤ 1073741824))
    case atStart => exact ⟨0, by omega, rfl, rfl, Below.refl _ _, fun s hs => by omega⟩
    case round =>
      obtain ⟨b, hbl, rfl, rfl, Hb⟩ := hrel
      by_cases hlt : b + 1 < first.length
      · as_aux_lemma =>
        have j1 : (0 : Int) ≤ (b : Int) + 1 := by omega
        have j2 : (b : Int) + 1 < (first.length : Int) := by omega
        have j3 : (0 : Int) ≤ (b : Int) := by omega
        have j4 : (b : Int) < (first.length : Int) := by omega
        have n1 : ((b : Int) + 1).toNat = b + 1 := by omega
        have n2 : IntKind.i64.wrap (b : Int) = (b : Int) := IntWalk.i64_in _ ⟨by omega, by omega⟩
        obtain ⟨g, o, cap, e1, hg, hx⟩ := Hf.out.at (i := b + 1) hlt
        simp only [Value.slice.injEq, Option.some.injEq, Addr.mk.injEq, true_and, and_true] at e1
        obtain ⟨⟨rfl, rfl⟩, rfl⟩ := e1
        obtain ⟨g', o', cap', e2, hg', hy⟩ := Hf.out.at (i := b) (by omega)
        simp only [Value.slice.injEq, Option.some.injEq, Addr.mk.injEq, true_and, and_true] at e2
        obtain ⟨⟨rfl, rfl⟩, rfl⟩ := e2
        have d1 := (Hb.out.1.cell (p := ⟨g1, o1 + (b + 1), none⟩) hg).trans hx
        have d2 := (Hb.out.1.cell (p := ⟨g1, o1 + b, none⟩) hg).trans hy
        obtain ⟨x, hxe⟩ : ∃ x, first.getD (b + 1) 0 = x := ⟨_, rfl⟩
        obtain ⟨y, hye⟩ : ∃ y, first.getD b 0 = y := ⟨_, rfl⟩
        rw [hxe] at d1
        rw [hye] at d2
        have Hxy := Lib.hid (And.intro hxe hye)
        clear hxe hye hx hy
        by_cases hA : x ≤ y
        · have cA : decide (x ≤ y) = true := decide_eq_true hA
          go_wp2_with fail
          go_quiet (fail)
          go_wp2_with fail
          go_ret
          exact said_no (Hb.out.1.trans ⟨rfl, rfl, rfl, Nat.le_refl _, fun _ _ => rfl⟩) rfl
        · have cA : decide (x ≤ y) = false := decide_eq_false hA
          by_cases hB : 1073741824 < x
          · have cB : decide (1073741824 < x) = true := decide_eq_true hB
            go_wp2_with fail
            go_quiet (fail)
            go_wp2_with fail
            go_ret
            exact said_no (Hb.out.1.trans ⟨rfl, rfl, rfl, Nat.le_refl _, fun _ _ => rfl⟩) rfl
          · have cB : decide (1073741824 < x) = false := decide_eq_false hB
            go_wp2_with fail
            go_quiet (fail)
            go_wp2_with fail
            go_roundg (first.length - (b + 2))
            case measure => omega
            case rel =>
              refine ⟨b + 1, by omega, by omega, by go_num, Hb.out.1.trans ⟨rfl, rfl, rfl, Nat.le_refl _, fun _ _ => rfl⟩, fun s hs => ?_⟩
              by_cases e : s = b
              · subst e; rw [Hxy.out.1, Hxy.out.2]; omega
              · exact Hb.out.2 s (by omega)
      · have j2 : ¬ (b : Int) + 1 < (first.length : Int) := by omega
        have HD2 : Hid (∀ s, s + 1 < first.length → first.getD s 0 < first.getD (s + 1) 0 ∧ first.getD (s + 1) 0 ≤ 1073741824) := fun s hs => Hb.out.2 s (by omega)
        have Hw := Lib.hid Hb.out.1
        have hcb : cs.length ≤ 131072 := by have := Hcf.out; omega
        clear Hb
        go_wp2_with fail
        go_loopg [28] cs.length (fun gk i wx => ∃ a : Nat, a ≤ cs.length ∧ gk = cs.length - a ∧ i = .int .i64 a ∧ Hid (Below w.heap.size w wx ∧ ∀ s, s < a → ∀ k, k < (cs.getD s []).length → GoodP nn ((cs.getD s []).getD k (0, 0))))
        case atStart => exact ⟨0, Nat.zero_le _, rfl, rfl, Hw.out, fun s hs => by omega⟩
        case round =>
          clear Hw
          obtain ⟨a, hal, rfl, rfl, Ha⟩ := hrel
          by_cases hlta : a < cs.length
          · as_aux_lemma =>
            have j1 : (0 : Int) ≤ (a : Int) := by omega
            have j3 : (a : Int) < (cs.length : Int) := by omega
            obtain ⟨g, o, cap, rv, e1, hg, hrv, hpr⟩ := Hcs.out.at hlta
            simp only [Value.slice.injEq, true_and] at e1
            obtain ⟨rfl, rfl⟩ := e1
            have Hpr := Lib.hid hpr
            obtain ⟨pr, cr, rfl, -⟩ := hpr
            have Hw := Lib.hid Ha.out.1
            have hlen := Hcl.out a hlta
            have Rp2 := Lib.hid (Rc.out a)
            have Hgood : Hid ((∀ k, k < (cs.getD a []).length → GoodP nn ((cs.getD a []).getD k (0, 0))) → ∀ s, s < a + 1 → ∀ k, k < (cs.getD s []).length → GoodP nn ((cs.getD s []).getD k (0, 0))) := fun h s hs => by
              by_cases e : s = a
              · subst e; exact h
              · exact Ha.out.2 s (by omega)
            clear Ha
            generalize cs.getD a [] = ps at *
            go_wp2_with fail
            go_loopg [29] ps.length (fun gk i wx => ∃ k : Nat, k ≤ ps.length ∧ gk = ps.length - k ∧ i = .int .i64 k ∧ Hid (Below w.heap.size w wx ∧ ∀ s, s < k → GoodP nn (ps.getD s (0, 0))))
            case atStart => exact ⟨0, Nat.zero_le _, rfl, rfl, Hw.out, fun s hs => by omega⟩
            case round =>
              clear Hw
              obtain ⟨k, hkl, rfl, rfl, Hk⟩ := hrel
              have d0 := (Hk.out.1.cell (p := ⟨g, o + a, none⟩) hg).trans hrv
              by_cases hltk : k < ps.length
              · have i1 : (0 : Int) ≤ (k : Int) := by omega
                have i2 : (k : Int) < (ps.length : Int) := by omega
                obtain ⟨g', o', cap', e2, hg', hx, hy⟩ := Hpr.out.at hltk
                simp only [Value.slice.injEq, true_and] at e2
                obtain ⟨rfl, rfl⟩ := e2
                have d1 := (Hk.out.1.cell (p := ⟨g', o' + k * 2, none⟩) hg').trans hx
                have d2 := (Hk.out.1.cell (p := ⟨g', o' + k * 2 + 1, none⟩) hg').trans hy
                have hr := Rp2.out k
                obtain ⟨⟨x, y⟩, hxe⟩ : ∃ xy, ps.getD k (0, 0) = xy := ⟨_, rfl⟩
                rw [hxe] at d1 d2 hr
                simp only at d1 d2 hr
                have n1 : IntKind.i64.wrap y = y := IntWalk.i64_in _ ⟨by omega, by omega⟩
                have Hxe := Lib.hid hxe
                have q0 := cell_new wr #[.int .i32 x, .int .i32 y] 44 0
                have q1 := cell_new wr #[.int .i32 x, .int .i32 y] 44 1
                have Hal : Hid (Below w.heap.size w (wr.alloc (.cells #[.int .i32 x, .int .i32 y] 44 (0, 0)))) := Hk.out.1.alloc Hk.out.1.size _
                clear hxe hx hy
                go_wp2_with fail
                all_goals try (go_ret; exact said_no Hal.out rfl)
                go_roundg (ps.length - (k + 1))
                case measure => omega
                case rel =>
                  refine ⟨k + 1, by omega, rfl, by go_num, Hal.out, fun s hs => ?_⟩
                  by_cases e : s = k
                  · subst e
                    rw [Hxe.out]
                    show 0 ≤ x ∧ x < y ∧ y < (nn : Int)
                    refine ⟨?_, ?_, ?_⟩ <;> omega
                  · exact Hk.out.2 s (by omega)
              · have i2 : ¬ (k : Int) < (ps.length : Int) := by omega
                obtain rfl : k = ps.length := by omega
                go_wp2_with fail
                go_roundg (cs.length - (a + 1))
                case measure => omega
                case rel => exact ⟨a + 1, by omega, rfl, by go_num, Hk.out.1, Hgood.out Hk.out.2⟩
          · have j3 : ¬ (a : Int) < (cs.length : Int) := by omega
            obtain rfl : a = cs.length := by omega
            have Hw := Lib.hid Ha.out.1
            have HD3 := Lib.hid Ha.out.2
            clear Ha
            go_wp2_with fail
            all_goals try (go_ret; exact said_no Hw.out rfl)
            rename (qT.length : Int) = (qS.length : Int) => hA
            rename ((pT.length : Int) != (pS.length : Int)) = false => hB
            have LqT : Hid (qT.length = qS.length) := by show _ = _; omega
            have LpT : Hid (pT.length = pS.length) := by
              simp at hB
              show _ = _
              omega
            clear hA hB
            go_loopg [31] qS.length (fun gk i wx => ∃ b : Nat, b ≤ qS.length ∧ gk = qS.length - b ∧ i = .int .i64 b ∧ Hid (Below w.heap.size w wx ∧ ∀ s, s < b → 0 ≤ qS.getD s 0 ∧ qS.getD s 0 < nn ∧ 0 ≤ qT.getD s 0 ∧ qT.getD s 0 ≤ 1024))
            case atStart => exact ⟨0, Nat.zero_le _, rfl, rfl, Hw.out, fun s hs => by omega⟩
            case round =>
              clear Hw
              obtain ⟨b, hbl, rfl, rfl, Hb⟩ := hrel
              by_cases hltb : b < qS.length
              · as_aux_lemma =>
                have j1 : (0 : Int) ≤ (b : Int) := by omega
                have j2 : (b : Int) < (qS.length : Int) := by omega
                have j3 : (b : Int) < (qT.length : Int) := by have := LqT.out; omega
                obtain ⟨g, o, cap, e1, hg, hx⟩ := Hq.out.at (i := b) hltb
                simp only [Value.slice.injEq, true_and] at e1
                obtain ⟨rfl, rfl⟩ := e1
                obtain ⟨g', o', cap', e2, hg', hy⟩ := Hqt.out.at (i := b) (by have := LqT.out; omega)
                simp only [Value.slice.injEq, true_and] at e2
                obtain ⟨rfl, rfl⟩ := e2
                have d1 := (Hb.out.1.cell (p := ⟨g, o + b, none⟩) hg).trans hx
                have d2 := (Hb.out.1.cell (p := ⟨g', o' + b, none⟩) hg').trans hy
                obtain ⟨x, hxe⟩ : ∃ x, qS.getD b 0 = x := ⟨_, rfl⟩
                obtain ⟨y, hye⟩ : ∃ y, qT.getD b 0 = y := ⟨_, rfl⟩
                rw [hxe] at d1
                rw [hye] at d2
                have hr := Rq.out b
                rw [hxe] at hr
                have n1 : IntKind.i64.wrap x = x := IntWalk.i64_in _ ⟨by omega, by omega⟩
                have Hxy := Lib.hid (And.intro hxe hye)
                have hll := HD1.out
                clear hxe hye hx hy
                go_wp2_with fail
                all_goals try (go_ret; exact said_no Hb.out.1 rfl)
                go_roundg (qS.length - (b + 1))
                case measure => omega
                case rel =>
                  refine ⟨b + 1, by omega, rfl, by go_num, Hb.out.1, fun s hs => ?_⟩
                  by_cases e : s = b
                  · subst e; rw [Hxy.out.1, Hxy.out.2]; omega
                  · exact Hb.out.2 s (by omega)
              · have j2 : ¬ (b : Int) < (qS.length : Int) := by omega
                obtain rfl : b = qS.length := by omega
                have Hw := Lib.hid Hb.out.1
                have HD4 := Lib.hid Hb.out.2
                clear Hb
                go_wp2_with fail
                all_goals try (go_ret; exact said_no Hw.out rfl)
                go_loopg [32] pS.length (fun gk i wx => ∃ b : Nat, b ≤ pS.length ∧ gk = pS.length - b ∧ i = .int .i64 b ∧ Hid (Below w.heap.size w wx ∧ ∀ s, s < b → 0 ≤ pS.getD s 0 ∧ pS.getD s 0 < nn ∧ 0 ≤ pT.getD s 0 ∧ pT.getD s 0 ≤ 1024))
                case atStart => exact ⟨0, Nat.zero_le _, rfl, rfl, Hw.out, fun s hs => by omega⟩
                case round =>
                  clear Hw
                  obtain ⟨b, hbl, rfl, rfl, Hb⟩ := hrel
                  by_cases hltb : b < pS.length
                  · as_aux_lemma =>
                    have j1 : (0 : Int) ≤ (b : Int) := by omega
                    have j2 : (b : Int) < (pS.length : Int) := by omega
                    have j3 : (b : Int) < (pT.length : Int) := by have := LpT.out; omega
                    obtain ⟨g, o, cap, e1, hg, hx⟩ := Hp.out.at (i := b) hltb
                    simp only [Value.slice.injEq, true_and] at e1
                    obtain ⟨rfl, rfl⟩ := e1
                    obtain ⟨g', o', cap', e2, hg', hy⟩ := Hpt.out.at (i := b) (by have := LpT.out; omega)
                    simp only [Value.slice.injEq, true_and] at e2
                    obtain ⟨rfl, rfl⟩ := e2
                    have d1 := (Hb.out.1.cell (p := ⟨g, o + b, none⟩) hg).trans hx
                    have d2 := (Hb.out.1.cell (p := ⟨g', o' + b, none⟩) hg').trans hy
                    obtain ⟨x, hxe⟩ : ∃ x, pS.getD b 0 = x := ⟨_, rfl⟩
                    obtain ⟨y, hye⟩ : ∃ y, pT.getD b 0 = y := ⟨_, rfl⟩
                    rw [hxe] at d1
                    rw [hye] at d2
                    have hr := Rp.out b
                    rw [hxe] at hr
                    have n1 : IntKind.i64.wrap x = x := IntWalk.i64_in _ ⟨by omega, by omega⟩
                    have Hxy := Lib.hid (And.intro hxe hye)
                    have hll := HD1.out
                    clear hxe hye hx hy
                    go_wp2_with fail
                    all_goals try (go_ret; exact said_no Hb.out.1 rfl)
                    go_roundg (pS.length - (b + 1))
                    case measure => omega
                    case rel =>
                      refine ⟨b + 1, by omega, rfl, by go_num, Hb.out.1, fun s hs => ?_⟩
                      by_cases e : s = b
                      · subst e; rw [Hxy.out.1, Hxy.out.2]; omega
                      · exact Hb.out.2 s (by omega)
                  · have j2 : ¬ (b : Int) < (pS.length : Int) := by omega
                    obtain rfl : b = pS.length := by omega
                    have Hw := Lib.hid Hb.out.1
                    have HD5 := Lib.hid Hb.out.2
                    clear Hb
                    go_wp2_with fail
                    all_goals try (go_ret; exact said_no Hw.out rfl)
                    have HD6 : Hid ((0 ≤ f ∧ f ≤ 1073741824) ∧ (1 ≤ e ∧ e ≤ 65536) ∧ (0 ≤ n ∧ n ≤ 65536)) := by
                      refine ⟨⟨?_, ?_⟩, ⟨?_, ?_⟩, ⟨?_, ?_⟩⟩ <;> omega
                    go_loopg [33] ls.length (fun gk i wx => ∃ b : Nat, b ≤ ls.length ∧ gk = ls.length - b ∧ i = .int .i64 b ∧ Hid (Below w.heap.size w wx ∧ ∀ s, s < b → 0 ≤ ls.getD s 0 ∧ ls.getD s 0 ≤ 1073741824))
                    case atStart => exact ⟨0, Nat.zero_le _, rfl, rfl, Hw.out, fun s hs => by omega⟩
                    case round =>
                      clear Hw
                      obtain ⟨b, hbl, rfl, rfl, Hb⟩ := hrel
                      by_cases hltb : b < ls.length
                      · as_aux_lemma =>
                        have j1 : (0 : Int) ≤ (b : Int) := by omega
                        have j2 : (b : Int) < (ls.length : Int) := by omega
                        obtain ⟨g, o, cap, e1, hg, hx⟩ := Hl.out.at (i := b) hltb
                        simp only [Value.slice.injEq, true_and] at e1
                        obtain ⟨rfl, rfl⟩ := e1
                        have d1 := (Hb.out.1.cell (p := ⟨g, o + b, none⟩) hg).trans hx
                        obtain ⟨x, hxe⟩ : ∃ x, ls.getD b 0 = x := ⟨_, rfl⟩
                        rw [hxe] at d1
                        have Hxe := Lib.hid hxe
                        have hll := HD1.out
                        clear hxe hx
                        go_wp2_with fail
                        all_goals try (go_ret; exact said_no Hb.out.1 rfl)
                        go_roundg (ls.length - (b + 1))
                        case measure => omega
                        case rel =>
                          refine ⟨b + 1, by omega, rfl, by go_num, Hb.out.1, fun s hs => ?_⟩
                          by_cases e : s = b
                          · subst e; rw [Hxe.out]; omega
                          · exact Hb.out.2 s (by omega)
                      · have j2 : ¬ (b : Int) < (ls.length : Int) := by omega
                        obtain rfl : b = ls.length := by omega
                        go_wp2_with fail
                        go_ret
                        obtain ⟨m1, m2, m3, m4, m5⟩ := HD1.out
                        exact said_yes Hb.out.1 ⟨m1, m2, m3, m4, by omega, by rw [Hz0.out]; exact m5, Hcf.out, HD2.out, HD3.out, LqT.out, LpT.out, HD4.out, HD5.out, HD6.out.1, HD6.out.2.1, HD6.out.2.2, Hb.out.2⟩ rfl
end Go.Proofs.Qxb6612920a.spray
