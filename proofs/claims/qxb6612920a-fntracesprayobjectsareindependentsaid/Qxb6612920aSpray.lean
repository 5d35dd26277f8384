import Derived.Test.Qxb6612920aEnds
namespace Go.Proofs.Qxb6612920a.spray
open Go.RowKit Go.PlainAid

/-- a slice whose row lies at block N or behind it -/
def Fresh (N : Nat) (v : Value) : Prop := ∀ a l k, v = .slice (some a) l k → N ≤ a.block
theorem fresh_at {N g : Nat} (h : N ≤ g) (l k : Nat) : Fresh N (.slice (some ⟨g, 0, none⟩) l k) := by
  intro a l' k' e
  simp only [Value.slice.injEq, Option.some.injEq] at e
  rw [← e.1]
  exact h

set_option maxRecDepth 100000 in
set_option maxHeartbeats 8000000 in
theorem spray_any (c : Cx) (hc : CxOK c) (gb N : Nat) (I : Ins) (qp pp qtp ptp lp fp np' : Option Addr) (qc pc qtc ptc lc fcp nc : Nat) (cv : Value) (trip : Int) (w : World) (hN : w.heap.size = N)
    (hrq : RowAt w N .i32 (.slice qp c.qS.length qc) c.qS) (hrp : RowAt w N .i32 (.slice pp I.pS.length pc) I.pS) (hrqt : RowAt w N .i64 (.slice qtp c.qS.length qtc) c.qT) (hrpt : RowAt w N .i64 (.slice ptp I.pS.length ptc) I.pT) (hrl : RowAt w N .i64 (.slice lp c.ls.length lc) c.ls)
    (hg1 : w.cell? ⟨gb, 1, none⟩ = some (.slice np' c.nn nc)) (hg3 : w.cell? ⟨gb, 3, none⟩ = some (.slice fp c.first.length fcp)) (hg5 : w.cell? ⟨gb, 5, none⟩ = some cv) (hrf : RowAt w N .i64 (.slice fp c.first.length fcp) c.first)
    (hIq : I.qv = .slice qp c.qS.length qc) (hIp : I.pv = .slice pp I.pS.length pc) (hIqt : I.qtv = .slice qtp c.qS.length qtc) (hIpt : I.ptv = .slice ptp I.pS.length ptc) (hIl : I.lv = .slice lp c.ls.length lc)
    (hch : ChgAt w N cv c.chg) (hcn : cntC c c.first.length ≤ 1073741824) (hfl : c.first.length ≤ 1073741824)
    (hnp : I.pS.length ≤ 4096) (hpT : I.pT.length = I.pS.length) (hp : ∀ j, j < I.pS.length → 0 ≤ I.pS.getD j 0 ∧ I.pS.getD j 0 < c.nn) (hpt : ∀ j, j < I.pS.length → 0 ≤ I.pT.getD j 0 ∧ I.pT.getD j 0 ≤ 1024) :
    Calls Try.prog 15 #[.pointer (some ⟨gb, 0, none⟩), .int .i64 c.copies, .agg #[.slice qp c.qS.length qc, .slice pp I.pS.length pc, .slice qtp c.qS.length qtc, .slice ptp I.pS.length ptc, .int .i64 c.af, .int .i64 c.ae, .int .i64 c.an, .slice lp c.ls.length lc, .int .i64 trip]] w fun r w' => ∃ av tv, r = .returned (.tuple #[av, tv]) ∧ RowAt w' w'.heap.size .i64 av (c.answers I) ∧ RowAt w' w'.heap.size .i64 tv (c.moves I) ∧ Only (fun k => N ≤ k) w w' ∧ Fresh N av := by
  have hgb : gb < N := by have := World.block_lt_of_cell? w _ hg1; simp at this; omega
  have m1 := fun w => make52 w I.pS.length (by omega)
  have m2 := fun w => make3 w c.nn (by have := hc.nn; omega)
  have HI := Lib.hid (And.intro hIq (And.intro hIp (And.intro hIqt (And.intro hIpt hIl))))
  have Hch := Lib.hid hch
  have Hcn := Lib.hid hcn
  clear hch hcn
  have Hc := Lib.hid hc
  have HpT := Lib.hid hpT
  have Hrow := Lib.hid (And.intro hrq (And.intro hrp (And.intro hrqt (And.intro hrpt (And.intro hrl hrf)))))
  obtain ⟨W1, hW1⟩ : ∃ W1, W1 = ((w.alloc (.cells #[.slice qp c.qS.length qc, .slice pp I.pS.length pc, .slice qtp c.qS.length qtc, .slice ptp I.pS.length ptc, .int .i64 c.af, .int .i64 c.ae, .int .i64 c.an, .slice lp c.ls.length lc, .int .i64 trip] 38 (0, 0))).alloc (.cells #[.slice none 0 0] 22 (0, 0))).alloc (.cells (madeCells #[.slice none 0 0, .int .i64 0, .int .i64 0] (I.pS.length * 3)) 52 (0, 0)) := ⟨_, rfl⟩
  have hJ : ∀ o, W1.cell? ⟨N, o, none⟩ = (#[Value.slice qp c.qS.length qc, .slice pp I.pS.length pc, .slice qtp c.qS.length qtc, .slice ptp I.pS.length ptc, .int .i64 c.af, .int .i64 c.ae, .int .i64 c.an, .slice lp c.ls.length lc, .int .i64 trip] : Array Value)[o]? := by
    intro o
    subst hW1
    rw [← hN, (Only.alloc (fun _ => False) _ _).cellAt w.heap.size o (by simp; omega) (fun h => h), (Only.alloc (fun _ => False) _ _).cellAt w.heap.size o (by simp) (fun h => h)]
    exact cell_new w _ _ o
  have hA1 : W1.cell? ⟨N + 1, 0, none⟩ = some (.slice none 0 0) ∧ W1.frozen? ⟨N + 1, 0, none⟩ = false := by
    subst hW1
    rw [(Only.alloc (fun _ => False) _ _).cellAt (N + 1) 0 (by simp; omega) (fun h => h), (Only.alloc (fun _ => False) _ _).frozenAt (N + 1) 0 (by simp; omega) (fun h => h)]
    have e : N + 1 = (w.alloc (.cells #[.slice qp c.qS.length qc, .slice pp I.pS.length pc, .slice qtp c.qS.length qtc, .slice ptp I.pS.length ptc, .int .i64 c.af, .int .i64 c.ae, .int .i64 c.an, .slice lp c.ls.length lc, .int .i64 trip] 38 (0, 0))).heap.size := by simp [hN]
    rw [e]
    exact ⟨cell_new _ _ _ 0, froz_new _ _ _ 0⟩
  have HJ := Lib.hid hJ
  have HA1 := Lib.hid hA1
  obtain ⟨m, hm⟩ : ∃ m : Nat, m = c.qS.length * I.pS.length := ⟨_, rfl⟩
  have hmle : m ≤ 4096 * 4096 := by rw [hm]; exact Nat.mul_le_mul hc.nq hnp
  have hmi : (c.qS.length : Int) * (I.pS.length : Int) = (m : Int) := by rw [hm]; simp
  have m3 := fun w => make3 w m (by omega)
  have m4 := fun w => make4 w m (by omega)
  have nm : IntKind.i64.wrap (m : Int) = (m : Int) := IntWalk.i64_in _ ⟨by omega, by omega⟩
  have mk0 : Making W1 W1 c N I.pS 0 := by subst hW1; exact making_start (by simp [hN])
  have Hmk0 := Lib.hid mk0
  have Hp := Lib.hid hp
  have o01 : Only (fun _ => False) w W1 := by subst hW1; exact ((Only.alloc _ _ _).trans (Only.alloc _ _ _)).trans (Only.alloc _ _ _)
  have Hg : Hid (∀ g o, g < N → W1.cell? ⟨g, o, none⟩ = w.cell? ⟨g, o, none⟩) := fun g o hg => o01.cellAt g o (by omega) (fun h => h)
  have d1 := (Hg.out gb 1 hgb).trans hg1
  have hgne : gb ≠ N + 2 := by omega
  have Hm := Lib.hid hm
  have Ho01 := Lib.hid o01
  clear o01 hIq hIp hIqt hIpt hIl hJ hA1 mk0 hm hc hpT hrq hrp hrqt hrpt hrl hrf hp
  go_enter Try.func15, Try.ntmps15
  go_wp2_with fail
  rw [← hW1, show N + 1 + 1 = N + 2 from rfl]
  go_loopg [41] I.pS.length (fun gk i wr => ∃ a : Nat, a ≤ I.pS.length ∧ gk = I.pS.length - a ∧ i = .int .i64 a ∧ Hid (Making W1 wr c N I.pS a))
  case atStart => exact ⟨0, Nat.zero_le _, rfl, rfl, Hmk0.out⟩
  case round =>
    obtain ⟨a, ha, rfl, rfl, Ha⟩ := hrel
    by_cases hlt : a < I.pS.length
    · as_aux_lemma =>
      have j1 : (0 : Int) ≤ (a : Int) := by omega
      have j2 : (a : Int) < (I.pS.length : Int) := by omega
      obtain ⟨g, cap, hpe, hg1', hg2', hgc⟩ := Hrow.out.2.1.at hlt
      simp only [Value.slice.injEq, true_and] at hpe
      obtain ⟨rfl, rfl⟩ := hpe
      have hpa := Hp.out a hlt
      obtain ⟨p, hpe⟩ : ∃ p : Nat, I.pS.getD a 0 = (p : Int) := ⟨(I.pS.getD a 0).toNat, by omega⟩
      have hgW : W1.cell? ⟨g, a, none⟩ = some (.int .i32 p) := by rw [Hg.out g a hg1', hgc, hpe]
      have c1 : wr.cell? ⟨g, a, none⟩ = some (.int .i32 p) := by
        rw [← hgW]; exact Ha.out.only.cellAt g a (by rw [show W1.heap.size = N + 3 from Hmk0.out.size]; omega) (by omega)
      have c2 : wr.cell? ⟨gb, 1, none⟩ = some (.slice np' c.nn nc) := by
        rw [← d1]; exact Ha.out.only.cellAt gb 1 (by rw [show W1.heap.size = N + 3 from Hmk0.out.size]; omega) (by omega)
      have hsz := Ha.out.size
      obtain ⟨x0, hx0⟩ := Option.isSome_iff_exists.1 (Ha.out.h0 a (Nat.le_refl _) hlt)
      have hx1 := Ha.out.h1 a (Nat.le_refl _) hlt
      have f0 := Ha.out.fr (a * 3)
      have f1 := Ha.out.fr (a * 3 + 1)
      have q1 : (0 : Int) ≤ (p : Int) := by omega
      have q2 : (p : Int) < (c.nn : Int) := by omega
      have hmc := made_one (.int .i64 0) (n := c.nn) (p := p) (by omega)
      have nb : ¬ wr.heap.size = N + 2 := by omega
      have nb' : ¬ N + 2 = wr.heap.size := by omega
      have nb2 : ¬ wr.heap.size = gb := by omega
      have nb3 : ¬ gb = wr.heap.size := by omega
      have bl1 : N + 2 < wr.heap.size := by omega
      have bl2 : gb < wr.heap.size := by omega
      have bl3 : g < wr.heap.size := by omega
      have nw := World.new_ne wr ⟨N + 2, a * 3, none⟩ hx0
      have Hsz := Lib.hid hsz
      clear hsz hW1 hN hpa
      by_cases hcp : 1 < c.copies
      · have Hnext := Lib.hid (Ha.out.next hlt hpe _ 1 (by rw [if_pos hcp]) (Or.inr ⟨rfl, rfl⟩))
        go_wp2_with fail
        go_roundg (I.pS.length - (a + 1))
        case measure => omega
        case rel => exact ⟨a + 1, by omega, rfl, by go_num, Hnext.out⟩
      · have Hnext := Lib.hid (Ha.out.next hlt hpe _ 0 (by rw [if_neg hcp]) (Or.inl ⟨rfl, rfl⟩))
        go_wp2_with fail
        go_roundg (I.pS.length - (a + 1))
        case measure => omega
        case rel => exact ⟨a + 1, by omega, rfl, by go_num, Hnext.out⟩
    · have j2 : ¬ (a : Int) < (I.pS.length : Int) := by omega
      obtain rfl : a = I.pS.length := by omega
      have hs1 : W1.heap.size = N + 3 := Hmk0.out.size
      have e0 : ∀ o, wr.cell? ⟨N, o, none⟩ = W1.cell? ⟨N, o, none⟩ := fun o => Ha.out.only.cellAt N o (by omega) (by omega)
      have b0 := (e0 0).trans (HJ.out 0)
      have b1 := (e0 1).trans (HJ.out 1)
      have b7 := (e0 7).trans (HJ.out 7)
      have bA := (Ha.out.only.cellAt (N + 1) 0 (by omega) (by omega)).trans HA1.out.1
      have bF := (Ha.out.only.frozenAt (N + 1) 0 (by omega) (by omega)).trans HA1.out.2
      have bl : N + 1 < wr.heap.size := by have := Ha.out.size; omega
      have bl0 : N < wr.heap.size := by omega
      clear e0 hs1 hW1 hN
      simp only [List.getElem?_toArray, List.getElem?_cons_zero, List.getElem?_cons_succ] at b0 b1 b7
      go_wp2_with fail
      go_cut [12, 13] (fun s12 s13 wx => Hid (AfterBoxes wr m s12 s13 wx))
      case first =>
        as_aux_lemma =>
        go_region_held3 (fun _ => True) (trivial) (fail)
        all_goals
          go_wp2_with fail
          go_meet
          case rel =>
            go_light
            refine after_perm fun W h0 h1 h2 h3 hO hS => ?_
            exact ⟨_, _, _, _, rfl, rfl, boxes_mk (by first | exact h0 | exact h1 | exact h2 | exact h3) (by first | exact h0 | exact h1 | exact h2 | exact h3) (by first | exact h0 | exact h1 | exact h2 | exact h3) (by first | exact h0 | exact h1 | exact h2 | exact h3) hO hS (by omega)⟩
      case rest =>
        obtain ⟨sb, vb, sx, vx, rfl, rfl, hbx⟩ := hcut.out
        have hsz := Ha.out.size
        have hbs := hbx.size
        have m5 := fun w => make3 w c.ls.length (by have := Hc.out.nl; omega)
        have r7 := (hbx.only.cellAt N 7 bl0 (fun h => h)).trans b7
        have rA := (hbx.only.cellAt (N + 1) 0 bl (fun h => h)).trans bA
        have rF := (hbx.only.frozenAt (N + 1) 0 bl (fun h => h)).trans bF
        have rl : N + 1 < wc.heap.size := by omega
        have rn := World.new_ne wc ⟨N + 1, 0, none⟩ rA
        have r3 := (hbx.only.cellAt gb 3 (by omega) (fun h => h)).trans ((Ha.out.only.cellAt gb 3 (by have := Hmk0.out.size; omega) (by omega)).trans ((Hg.out gb 3 hgb).trans hg3))
        have rg : gb < wc.heap.size := by omega
        have rgn := World.new_ne wc ⟨gb, 3, none⟩ r3
        have Hbx := Lib.hid hbx
        have Hsz := Lib.hid (And.intro hsz hbs)
        clear hbx hsz hbs hcut
        go_wp2_with fail
        obtain ⟨W2, hW2⟩ : ∃ W2, W2 = ((wc.setCell ⟨N + 1, 0, none⟩ (.slice (some ⟨wc.heap.size, 0, none⟩) c.ls.length c.ls.length)).alloc (.cells (madeCells #[.int .i64 0] c.ls.length) 3 (0, 0))).alloc (.cells #[.map none] 58 (0, 0)) := ⟨_, rfl⟩
        rw [← hW2, show wc.heap.size + 1 = N + I.pS.length + 8 from by have := Hsz.out; omega]
        have hG : Glob w W2 c N sb vb sx vx I (fun j => c.runTo (I.pS.getD j 0).toNat (I.pT.getD j 0) 0) (c.Ls 0) 0 := by
          obtain ⟨i1, i2, i3, i4, i5⟩ := HI.out
          obtain ⟨r1, r2, r3, r4, r5, _⟩ := Hrow.out
          obtain ⟨g1, g2, g3, g4, g5⟩ := start_all (trip := trip) Hm.out Ho01.out (by rw [i1, i2, i3, i4, i5]; exact HJ.out) Hmk0.out.size (by rw [HA1.out.1]; rfl) HA1.out.2 Ha.out Hbx.out (by rw [i1]; exact r1) (by rw [i2]; exact r2) (by rw [i3]; exact r3) (by rw [i4]; exact r4) (by rw [i5]; exact r5) hW2
          exact ⟨g2, g3, g4, g5, g1⟩
        have HG := Lib.hid hG
        clear hG hW2 r7 rA rF rl rn r3 rg rgn b0 b1 b7 bA bF bl bl0 m1 m2 m3 m4 m5 nm hmi hmle Hmk0 Hbx Hsz Ha HJ HA1 Ho01
        go_loopg [92] c.first.length (fun gk i wr => ∃ s : Nat, s ≤ c.first.length ∧ gk = c.first.length - s ∧ i = .int .i64 s ∧ Hid (Glob w wr c N sb vb sx vx I (fun j => c.runTo (I.pS.getD j 0).toNat (I.pT.getD j 0) s) (c.Ls s) (2 * cntC c s)))
        case atStart => exact ⟨0, Nat.zero_le _, rfl, rfl, HG.out⟩
        case round =>
          clear HG
          obtain ⟨s, hs, rfl, rfl, Hs⟩ := hrel
          by_cases hlts : s < c.first.length
          · as_aux_lemma =>
            have j1 : (0 : Int) ≤ (s : Int) := by omega
            have j2 : (s : Int) < (c.first.length : Int) := by omega
            have hks : s < c.chg.length := by rw [Hc.out.nch]; exact hlts
            have j3 : (s : Int) < (c.chg.length : Int) := by omega
            have low : ∀ g o, g < N → g < w.heap.size → wr.cell? ⟨g, o, none⟩ = w.cell? ⟨g, o, none⟩ := fun g o h1 h2 => Hs.out.only.cellAt g o h2 (by omega)
            obtain ⟨gf, capf, hfe, hgf1, hgf2, hgf⟩ := Hrow.out.2.2.2.2.2.at hlts
            simp only [Value.slice.injEq, true_and] at hfe
            obtain ⟨rfl, rfl⟩ := hfe
            obtain ⟨pv, capv, hcv, hrest⟩ := Hch.out
            rcases hrest with h0 | ⟨gc, rfl, hgc1, hgc2, hgc⟩
            · rw [h0] at hks; simp at hks
            obtain ⟨rv, hrv, hpairs⟩ := hgc s hks
            obtain ⟨pr, capr, hre, hrr⟩ := hpairs
            have c1 := (low gf s hgf1 hgf2).trans hgf
            obtain ⟨k0, hk0E⟩ : ∃ k0, c.first.getD s 0 = k0 := ⟨_, rfl⟩
            rw [hk0E] at c1
            have Hk0 := Lib.hid hk0E
            clear hk0E
            have c2 := (low gc s hgc1 hgc2).trans hrv
            have hgw : gb < w.heap.size := World.block_lt_of_cell? w _ hg1
            have c3 := (low gb 3 hgb hgw).trans hg3
            have c5 := (low gb 5 hgb hgw).trans hg5
            rw [hcv] at c5
            rw [hre] at c2
            have Hrr := Lib.hid hrr
            have Hgc := Lib.hid hgc
            clear hgc hrr low hrv hgf
            have hps : ∀ k, k < (c.chg.getD s []).length → GoodP c.nn ((c.chg.getD s []).getD k (0, 0)) := Hc.out.chg s hlts
            have Hps := Lib.hid hps
            have Hsucc : Hid (c.Ls (s + 1) = linkTo (c.Ls s) (c.chg.getD s []) (c.chg.getD s []).length ∧ cntC c (s + 1) = cntC c s + (c.chg.getD s []).length) := ⟨rfl, rfl⟩
            have Hcl := Lib.hid (cntC_mono c (show s + 1 ≤ c.first.length by omega))
            have HLi := Lib.hid (Ls_inv Hc.out s hs)
            clear hps
            generalize c.chg.getD s [] = ps at *
            go_wp2_with fail
            go_loopg [105] ps.length (fun gk i wx => ∃ k : Nat, k ≤ ps.length ∧ gk = ps.length - k ∧ i = .int .i64 k ∧ Hid (Glob w wx c N sb vb sx vx I (fun j => c.runTo (I.pS.getD j 0).toNat (I.pT.getD j 0) s) (linkTo (c.Ls s) ps k) (2 * cntC c s + 2 * k)))
            case atStart => exact ⟨0, Nat.zero_le _, rfl, rfl, Hs.out⟩
            case round =>
              obtain ⟨k, hk, rfl, rfl, Hk⟩ := hrel
              by_cases hltk : k < ps.length
              · as_aux_lemma =>
                rcases Hrr.out with h0 | ⟨gr, rfl, hgr1, hgr2, hgr⟩
                · rw [h0] at hltk; simp at hltk
                have p1 := (Hk.out.only.cellAt gr (k * 2) hgr2 (by omega)).trans (hgr k hltk).1
                have p2 := (Hk.out.only.cellAt gr (k * 2 + 1) hgr2 (by omega)).trans (hgr k hltk).2
                have hgood := Hps.out k hltk
                have i1 : (0 : Int) ≤ (k : Int) := by omega
                have i2 : (k : Int) < (ps.length : Int) := by omega
                have hnn := Hc.out.nn
                have Hnext : Hid (linkTo (c.Ls s) ps (k + 1) = linkF (linkTo (c.Ls s) ps k) (ps.getD k (0, 0))) := rfl
                have HLk := Lib.hid (linkTo_inv HLi.out Hps.out k hk)
                generalize linkTo (c.Ls s) ps k = Lk at *
                generalize ps.getD k (0, 0) = pr at *
                have n1 : IntKind.i64.wrap pr.1 = pr.1 := IntWalk.i64_in _ ⟨by have := hgood.1; omega, by have := hgood.2; omega⟩
                have n2 : IntKind.i64.wrap pr.2 = pr.2 := IntWalk.i64_in _ ⟨by have := hgood.2; have := hgood.1; omega, by have := hgood.2; omega⟩
                have Hgood := Lib.hid hgood
                clear hgood hgr
                have q0 := cell_new wr #[.int .i32 pr.1, .int .i32 pr.2] 44 0
                have q1 := cell_new wr #[.int .i32 pr.1, .int .i32 pr.2] 44 1
                have HG1 : Hid (Glob w (wr.alloc (.cells #[.int .i32 pr.1, .int .i32 pr.2] 44 (0, 0))).drew c N sb vb sx vx I (fun j => c.runTo (I.pS.getD j 0).toNat (I.pT.getD j 0) s) Lk (2 * cntC c s + 2 * k)) := by
                  have hb0 := (Below.refl wr.heap.size wr).alloc (Nat.le_refl _) (.cells #[.int .i32 pr.1, .int .i32 pr.2] 44 (0, 0))
                  exact Hk.out.new ⟨hb0.os, hb0.tape, hb0.output, hb0.size, hb0.block⟩
                have i3 : k < 1073741824 := by have := Hcl.out; have := Hcn.out; have := Hsucc.out.2; omega
                have hcnt : 2 * cntC c s + 2 * k + 2 < 1099511627776 := by have := Hcl.out; have := Hcn.out; have := Hsucc.out.2; omega
                have Hlk := Lib.hid (glob_linked Hc.out HG1.out HLk.out (by unfold maxLen; omega) Hgood.out)
                have Hap := Lib.hid (fun wz (hz : Glob w wz c N sb vb sx vx I (fun j => c.runTo (I.pS.getD j 0).toNat (I.pT.getD j 0) s) Lk (2 * cntC c s + 2 * k)) => glob_apply Hc.out hz HLk.out hcnt Hgood.out)
                clear HG1 hcnt
                go_wp2_with fail
                go_region_held3 (fun z => z.cell? ⟨wr.heap.size, 0, none⟩ = some (.int .i32 pr.1) ∧ z.cell? ⟨wr.heap.size, 1, none⟩ = some (.int .i32 pr.2)) (exact ⟨q0, q1⟩) (fail)
                go_wp2_with fail
                refine Hlk.out.mono ?_
                rintro e w1 ⟨rfl, hg1'⟩
                have Hz := Lib.hid (Hap.out w1 hg1')
                clear hg1' Hap Hlk
                generalize decide (pr.2 ∈ Lk pr.1) = bb at *
                go_wp2_with fail
                refine Hz.out.mono ?_
                rintro e w2 ⟨rfl, hg2'⟩
                have Hg2 := Lib.hid hg2'
                clear hg2'
                go_wp2_with fail
                go_roundg (ps.length - (k + 1))
                case measure => omega
                case rel => exact ⟨k + 1, by omega, rfl, by go_num, by rw [Hnext.out]; exact Hg2.out⟩
              · have i2 : ¬ (k : Int) < (ps.length : Int) := by omega
                obtain rfl : k = ps.length := by omega
                go_wp2_with fail
                have Hst : Hid (Calls Try.prog 20 #[.pointer (some ⟨gb, 0, none⟩), .int .i64 ((s : Int) + 1)] wr fun e w' => e = .returned (.int .i64 (c.start (s + 1))) ∧ w' = wr) := by
                  have h1 := start_any c gb N (.slice (some ⟨gf, 0, none⟩) c.first.length fcp) (s + 1) wr ((Hk.out.only.cellAt gb 3 hgw (by omega)).trans hg3) (Hrow.out.2.2.2.2.2.stay Hk.out.only (fun k hk => by omega))
                  rw [show ((s + 1 : Nat) : Int) = (s : Int) + 1 from by omega] at h1
                  exact h1
                go_wp2_with fail
                refine Hst.out.mono ?_
                rintro e w1 ⟨rfl, hw⟩
                subst hw
                clear Hst
                have HG4 : Hid (Glob w w1 c N sb vb sx vx I (c.part I s 0) (c.Ls (s + 1)) (2 * cntC c (s + 1))) := by
                  have h1 := Hk.out
                  rw [show 2 * cntC c s + 2 * ps.length = 2 * cntC c (s + 1) from by have := Hsucc.out.2; omega] at h1
                  rw [Hsucc.out.1, part_zero]; exact h1
                have Hen := Lib.hid (start_gt Hc.out hlts)
                have HL4 := Lib.hid (Ls_inv Hc.out (s + 1) (by omega))
                have Hn4 : Hid (2 * cntC c (s + 1) < maxLen) := by
                  have := Hcl.out; have := Hcn.out; show _ < _; unfold maxLen; omega
                have Hrt : Hid (∀ p pt, c.runTo p pt (s + 1) = c.span pt (c.Ls (s + 1)) (c.start (s + 1)) (c.nn + 1) (c.first.getD s 0) (c.runTo p pt s)) := fun _ _ => rfl
                clear Hk HLi Hps Hrr Hgc
                generalize hLs : c.Ls (s + 1) = L4 at *
                generalize hn4 : 2 * cntC c (s + 1) = n4 at *
                generalize hen : c.start (s + 1) = en at *
                go_wp2_with fail
                go_loopg [130] I.pS.length (fun gk i wx => ∃ j : Nat, j ≤ I.pS.length ∧ gk = I.pS.length - j ∧ i = .int .i64 j ∧ Hid (Glob w wx c N sb vb sx vx I (c.part I s j) L4 n4))
                case atStart => exact ⟨0, Nat.zero_le _, rfl, rfl, HG4.out⟩
                case round =>
                  clear HG4
                  obtain ⟨j, hj, rfl, rfl, Hj⟩ := hrel
                  by_cases hltj : j < I.pS.length
                  · as_aux_lemma =>
                    have i1 : (0 : Int) ≤ (j : Int) := by omega
                    have i2 : (j : Int) < (I.pS.length : Int) := by omega
                    have Hpj := Lib.hid (Hp.out j hltj)
                    have Hptj := Lib.hid (hpt j hltj)
                    have Hpart := Lib.hid (part_bnd (j := j) Hc.out Hp.out hpt hlts)
                    have H50 : Hid (SInv c (I.pT.getD j 0) (c.first.getD s 0) (c.part I s j j) ∧ Enough c (c.nn + 1) (c.part I s j j) ∧ c.span (I.pT.getD j 0) L4 en (c.nn + 1) (c.first.getD s 0) (c.part I s j j) = c.runTo (I.pS.getD j 0).toNat (I.pT.getD j 0) (s + 1)) := by
                      obtain ⟨K0, hK0, hS0⟩ := run_inv Hc.out Hptj.out.1 (p := (I.pS.getD j 0).toNat) (by have := Hpj.out; omega) s (by omega)
                      rw [part_at]
                      exact ⟨⟨hS0.hold, hS0.tal.mono (hK0.2.2 hlts)⟩, enough_start hS0.hold (by have := Hpj.out; omega), (Hrt.out _ _).symm⟩
                    have HGj : Hid (Glob w wr c N sb vb sx vx I (fupd (c.part I s j) j (c.part I s j j)) L4 n4) := by
                      rw [show fupd (c.part I s j) j (c.part I s j j) = c.part I s j from fupd_self _ _]; exact Hj.out
                    have Hf0 := Lib.hid (Hc.out.fle s hlts)
                    have Hnext : Hid (∀ wx, Glob w wx c N sb vb sx vx I (fupd (c.part I s j) j (c.runTo (I.pS.getD j 0).toNat (I.pT.getD j 0) (s + 1))) L4 n4 → Glob w wx c N sb vb sx vx I (c.part I s (j + 1)) L4 n4) := fun wx hx => by rw [← part_next]; exact hx
                    generalize c.runTo (I.pS.getD j 0).toNat (I.pT.getD j 0) (s + 1) = goal at *
                    generalize c.part I s j j = cur0 at *
                    generalize c.part I s j = O at *
                    rw [Hk0.out] at H50 Hf0 Hen
                    go_wp2_with fail
                    go_loopg [25] (c.nn + 1) (fun gm i wx => ∃ (k : Int) (cur : St), 0 ≤ k ∧ k < en ∧ i = .int .i64 k ∧ Hid (SInv c (I.pT.getD j 0) k cur ∧ Enough c gm cur ∧ c.span (I.pT.getD j 0) L4 en gm k cur = goal ∧ Glob w wx c N sb vb sx vx I (fupd O j cur) L4 n4))
                    case atStart => exact ⟨k0, cur0, Hf0.out.1, Hen.out.1, rfl, H50.out.1, H50.out.2.1, H50.out.2.2, HGj.out⟩
                    case round =>
                      as_aux_lemma =>
                      clear HGj H50 Hj
                      obtain ⟨k, cur, hk0, hken, rfl, H5⟩ := hrel
                      obtain ⟨m', rfl⟩ : ∃ m', gk = m' + 1 := ⟨gk - 1, by have := H5.out.2.1.1; omega⟩
                      have Hpass : Hid (Calls Try.prog 21 #[.pointer (some ⟨N + 2, j * 3, none⟩), .pointer (some ⟨N + I.pS.length + 8, 0, none⟩)] wr fun e w' => e = .returned (.bool (passF L4 c.nn cur.held cur.giv cur.tr).moved) ∧ Glob w w' c N sb vb sx vx I (fupd O j (c.passed L4 cur)) L4 n4) := by
                        have h1 := glob_pass Hc.out H5.out.2.2.2 HL4.out Hn4.out hltj (by rw [fupd_same]; exact H5.out.1.hold)
                        rw [fupd_same, fupd_fupd] at h1
                        exact h1
                      go_wp2_with fail
                      refine Hpass.out.mono ?_
                      rintro e w1 ⟨rfl, hg1'⟩
                      have HGp := Lib.hid hg1'
                      have Hend : Hid ((passF L4 c.nn cur.held cur.giv cur.tr).moved = false ∨ k + 1 = en → c.sample (I.pT.getD j 0) L4 k cur = goal) := fun h => by rw [← span_end h]; exact H5.out.2.2.1
                      have Hon : Hid (¬ ((passF L4 c.nn cur.held cur.giv cur.tr).moved = false ∨ k + 1 = en) → SInv c (I.pT.getD j 0) (k + 1) (c.sample (I.pT.getD j 0) L4 k cur) ∧ Enough c m' (c.sample (I.pT.getD j 0) L4 k cur) ∧ c.span (I.pT.getD j 0) L4 en m' (k + 1) (c.sample (I.pT.getD j 0) L4 k cur) = goal) := fun h => by
                        have h1 := sinv_sample Hc.out Hptj.out.1 HL4.out.inr H5.out.1
                        refine ⟨⟨h1.hold, h1.tal.mono (by omega)⟩, enough_next HL4.out.inr H5.out.1.hold H5.out.2.1 (fun e => h (Or.inl e)), ?_⟩
                        rw [← span_on h]; exact H5.out.2.2.1
                      have HTal := Lib.hid (tal_serveTo (L := L4) Hc.out Hptj.out.1 (tal_passed (L := L4) H5.out.1.tal))
                      have hqc : w1.cell? ⟨N, 0, none⟩ = some (.slice qp c.qS.length qc) := by rw [HGp.out.fix.q, HI.out.1]
                      have Hsam : Hid (c.sample (I.pT.getD j 0) L4 k cur = c.serveTo (I.pT.getD j 0) L4 k (c.passed L4 cur) c.qS.length) := rfl
                      clear hg1' Hpass H5
                      generalize (passF L4 c.nn cur.held cur.giv cur.tr).moved = mv at *
                      generalize c.sample (I.pT.getD j 0) L4 k cur = sam at *
                      generalize c.passed L4 cur = pas at *
                      go_wp2_with fail
                      go_loopg [144] c.qS.length (fun gk i wx => ∃ i' : Nat, i' ≤ c.qS.length ∧ gk = c.qS.length - i' ∧ i = .int .i64 i' ∧ Hid (Glob w wx c N sb vb sx vx I (fupd O j (c.serveTo (I.pT.getD j 0) L4 k pas i')) L4 n4))
                      case atStart => exact ⟨0, Nat.zero_le _, rfl, rfl, HGp.out⟩
                      case round =>
                        as_aux_lemma =>
                        clear HGp
                        obtain ⟨i, hi, rfl, rfl, H6⟩ := hrel
                        by_cases hlti : i < c.qS.length
                        · as_aux_lemma =>
                          obtain ⟨gq, cap, hpe, hgq1, hgq2, hgqc⟩ := Hrow.out.1.at hlti
                          simp only [Value.slice.injEq, true_and] at hpe
                          obtain ⟨rfl, rfl⟩ := hpe
                          have hqi := Hc.out.q i hlti
                          obtain ⟨q, hqe⟩ : ∃ q : Nat, c.qS.getD i 0 = (q : Int) := ⟨(c.qS.getD i 0).toNat, by omega⟩
                          have c6 : wr.cell? ⟨gq, i, none⟩ = some (.int .i32 q) := by
                            rw [H6.out.only.cellAt gq i hgq2 (by omega), hgqc, hqe]
                          have hnq := Hc.out.nq
                          have i3 : (0 : Int) ≤ (i : Int) := by omega
                          have i4 : (i : Int) < (c.qS.length : Int) := by omega
                          have cp : wr.cell? ⟨N, 1, none⟩ = some (.slice pp I.pS.length pc) := by rw [H6.out.fix.p, HI.out.2.1]
                          obtain ⟨x, hx⟩ : ∃ x : Nat, x = i * I.pS.length := ⟨_, rfl⟩
                          have hxj : x + j < m := by rw [hx, Hm.out]; exact pair_lt hlti hltj
                          have hmle : m ≤ 4096 * 4096 := by rw [Hm.out]; exact Nat.mul_le_mul Hc.out.nq hnp
                          have hxi : (i : Int) * (I.pS.length : Int) = (x : Int) := by rw [hx]; simp
                          have n1 : IntKind.i64.wrap (x : Int) = (x : Int) := IntWalk.i64_in _ ⟨by omega, by omega⟩
                          have n2 : IntKind.i64.wrap ((x : Int) + (j : Int)) = ((x + j : Nat) : Int) := by rw [show ((x + j : Nat) : Int) = (x : Int) + (j : Int) from by simp]; exact IntWalk.i64_in _ ⟨by omega, by omega⟩
                          have Hserve : Hid (c.serveTo (I.pT.getD j 0) L4 k pas (i + 1) = c.serve (I.pT.getD j 0) L4 k (c.serveTo (I.pT.getD j 0) L4 k pas i) i) := rfl
                          have Hti := Lib.hid (HTal.out i hi)
                          generalize c.serveTo (I.pT.getD j 0) L4 k pas i = st at *
                          have csx := H6.out.fix.sx
                          have cvx := H6.out.fix.vx
                          have csb := H6.out.dyn.sc i hlti j hltj
                          have cvb := H6.out.dyn.vc i hlti j hltj
                          have fsb := H6.out.dyn.sf (x + j)
                          have fvb := H6.out.dyn.vf (x + j)
                          rw [fupd_same, ← hx] at csb cvb
                          rw [← Hm.out] at csx cvx
                          have k6 : (0 : Int) ≤ ((x + j : Nat) : Int) := by omega
                          have k7 : ((x + j : Nat) : Int) < (m : Int) := by omega
                          have Hserves : Hid (Calls Try.prog 22 #[.pointer (some ⟨N + 2, j * 3, none⟩), .pointer (some ⟨N + I.pS.length + 8, 0, none⟩), .int .i32 q] wr fun e w' => e = .returned (.bool (servesF L4 st.held q)) ∧ w' = wr) := by
                            have h1 := glob_serves Hc.out H6.out HL4.out Hn4.out hltj (q := q) (by omega)
                            rw [fupd_same] at h1
                            exact h1
                          have Hq : Hid ((c.qS.getD i 0).toNat = q) := by show _ = _; omega
                          have Htt : Hid (Calls Try.prog 16 #[.int .i64 ((x + j : Nat) : Int), .int .i64 k, .pointer (some ⟨N, 0, none⟩), .pointer (some ⟨vx, 0, none⟩), .pointer (some ⟨sx, 0, none⟩), .pointer (some ⟨N + 1, 0, none⟩)] wr fun r w' => r = .returned (.tuple #[]) ∧ Glob w w' c N sb vb sx vx I (fupd (fupd O j st) j (c.tally (I.pT.getD j 0) (fupd O j st j) i k)) L4 n4) := by
                            have hsi := Hti.out.since i hlti
                            have hen2 := Hen.out.2
                            unfold never at hen2
                            have h1 := glob_tally Hc.out H6.out HpT.out hnp hlti hltj Hptj.out k (by rw [fupd_same]; omega) (by omega) (by intro; omega) (total_le Hc.out hnp hpt (fupd_bnd Hpart.out (Hti.out.bnd Hc.out Hptj.out.1)))
                            rw [← hx] at h1
                            exact h1
                          generalize hxje : x + j = xj at *
                          have Hxj : Hid (xj = i * I.pS.length + j) := by show _ = _; omega
                          clear hx hxje hmle hqi hqe hgqc
                          by_cases hsv : servesF L4 st.held q = st.served i
                          · as_aux_lemma =>
                            have Hsame : Hid (c.serve (I.pT.getD j 0) L4 k st i = st) := by
                              show _ = _
                              unfold Cx.serve
                              rw [Hq.out]; exact if_pos hsv
                            rw [← hsv] at cvb
                            generalize servesF L4 st.held q = now at *
                            go_wp2_with fail
                            refine Hserves.out.mono ?_
                            rintro e w2 ⟨rfl, hw2⟩
                            subst hw2
                            go_wp2_with fail
                            go_roundg (c.qS.length - (i + 1))
                            case measure => omega
                            case rel => exact ⟨i + 1, by omega, rfl, by go_num, by rw [Hserve.out, Hsame.out]; exact H6.out⟩
                          · as_aux_lemma =>
                            have Hturn : Hid (c.serve (I.pT.getD j 0) L4 k st i = c.turn (I.pT.getD j 0) st i k (servesF L4 st.held q)) := by
                              show _ = _
                              unfold Cx.serve
                              rw [Hq.out]; exact if_neg hsv
                            generalize servesF L4 st.held q = now at *
                            generalize hsve : st.served i = was at *
                            have hnb : (!now == was) = true := by simp [hsv]
                            go_wp2_with fail
                            refine Hserves.out.mono ?_
                            rintro e w2 ⟨rfl, hw2⟩
                            subst hw2
                            go_wp2_with fail
                            refine Htt.out.mono ?_
                            rintro e w3 ⟨rfl, hg3'⟩
                            clear csx cvx csb cvb fsb fvb c6 cp Htt Hserves
                            have csx := hg3'.fix.sx
                            have cvx := hg3'.fix.vx
                            have csb := hg3'.dyn.sc i hlti j hltj
                            have cvb := hg3'.dyn.vc i hlti j hltj
                            have fsb := hg3'.dyn.sf xj
                            have fvb := hg3'.dyn.vf xj
                            have hy := hg3'.lay
                            rw [fupd_same, ← Hxj.out] at csb cvb
                            rw [← Hm.out] at csx cvx
                            have hby := hg3'.fix.size
                            have b1 := hy.ne
                            have b2 := hy.s
                            have b3 := hy.v
                            have b4 := hy.x
                            have b5 := hy.y
                            have b6 : sb ≠ vb := b1.1
                            have b7 : sb ≠ sx := b1.2.1
                            have b8 : sb ≠ vx := b1.2.2.1
                            have b9 : vb ≠ sx := b1.2.2.2.1
                            have b10 : vb ≠ vx := b1.2.2.2.2.1
                            have Hc1 : Hid (∀ v, (w3.setCell ⟨sb, xj, none⟩ v).cell? ⟨sx, 0, none⟩ = some (.slice (some ⟨sb, 0, none⟩) m m) ∧ (w3.setCell ⟨sb, xj, none⟩ v).cell? ⟨vx, 0, none⟩ = some (.slice (some ⟨vb, 0, none⟩) m m)) := fun v =>
                              ⟨((Only.setCell w3 ⟨sb, xj, none⟩ v).cellAt sx 0 (by omega) (by show ¬ (sx = sb); omega)).trans csx, ((Only.setCell w3 ⟨sb, xj, none⟩ v).cellAt vx 0 (by omega) (by show ¬ (vx = sb); omega)).trans cvx⟩
                            have Hc2 : Hid (∀ v, (w3.setCell ⟨vb, xj, none⟩ v).cell? ⟨sx, 0, none⟩ = some (.slice (some ⟨sb, 0, none⟩) m m) ∧ (w3.setCell ⟨vb, xj, none⟩ v).cell? ⟨vx, 0, none⟩ = some (.slice (some ⟨vb, 0, none⟩) m m)) := fun v =>
                              ⟨((Only.setCell w3 ⟨vb, xj, none⟩ v).cellAt sx 0 (by omega) (by show ¬ (sx = vb); omega)).trans csx, ((Only.setCell w3 ⟨vb, xj, none⟩ v).cellAt vx 0 (by omega) (by show ¬ (vx = vb); omega)).trans cvx⟩
                            have Hc3 : Hid (∀ v v', ((w3.setCell ⟨sb, xj, none⟩ v).setCell ⟨vb, xj, none⟩ v').cell? ⟨sx, 0, none⟩ = some (.slice (some ⟨sb, 0, none⟩) m m) ∧ ((w3.setCell ⟨sb, xj, none⟩ v).setCell ⟨vb, xj, none⟩ v').cell? ⟨vx, 0, none⟩ = some (.slice (some ⟨vb, 0, none⟩) m m)) := fun v v' =>
                              ⟨((Only.setCell _ ⟨vb, xj, none⟩ v').cellAt sx 0 (by simp; omega) (by show ¬ (sx = vb); omega)).trans (Hc1.out v).1, ((Only.setCell _ ⟨vb, xj, none⟩ v').cellAt vx 0 (by simp; omega) (by show ¬ (vx = vb); omega)).trans (Hc1.out v).2⟩
                            have Hc4 : Hid (∀ v v', ((w3.setCell ⟨vb, xj, none⟩ v).setCell ⟨sb, xj, none⟩ v').cell? ⟨sx, 0, none⟩ = some (.slice (some ⟨sb, 0, none⟩) m m) ∧ ((w3.setCell ⟨vb, xj, none⟩ v).setCell ⟨sb, xj, none⟩ v').cell? ⟨vx, 0, none⟩ = some (.slice (some ⟨vb, 0, none⟩) m m)) := fun v v' =>
                              ⟨((Only.setCell _ ⟨sb, xj, none⟩ v').cellAt sx 0 (by simp; omega) (by show ¬ (sx = sb); omega)).trans (Hc2.out v).1, ((Only.setCell _ ⟨sb, xj, none⟩ v').cellAt vx 0 (by simp; omega) (by show ¬ (vx = sb); omega)).trans (Hc2.out v).2⟩
                            have Hturned := Lib.hid (glob_turned hg3' hlti hltj now)
                            rw [← Hxj.out, fupd_same, fupd_fupd] at Hturned
                            clear hg3' hy b1 b2 b3 b4 b5
                            go_wp2_with fail
                            go_region_held3 (fun z => z.cell? ⟨sx, 0, none⟩ = some (.slice (some ⟨sb, 0, none⟩) m m) ∧ z.cell? ⟨vx, 0, none⟩ = some (.slice (some ⟨vb, 0, none⟩) m m)) (first | exact ⟨csx, cvx⟩ | exact Hc1.out _ | exact Hc2.out _ | exact Hc3.out _ _ | exact Hc4.out _ _) (fail)
                            go_wp2_with fail
                            go_roundg (c.qS.length - (i + 1))
                            case measure => omega
                            case rel => exact ⟨i + 1, by omega, rfl, by go_num, by rw [Hserve.out, Hturn.out]; exact Hturned.out.lift (show Only _ _ _ from ⟨rfl, rfl, rfl, Nat.le_refl _, fun _ _ _ => rfl⟩)⟩
                        · have i3 : ¬ (i : Int) < (c.qS.length : Int) := by omega
                          obtain rfl : i = c.qS.length := by omega
                          rw [← Hsam.out] at H6
                          have hwr : IntKind.i64.wrap (k + 1) = k + 1 := IntWalk.i64_in _ ⟨by omega, by have := Hen.out.2; unfold never at this; omega⟩
                          by_cases hbr : mv = false ∨ k + 1 = en
                          · rcases hbr with rfl | hbr
                            · rw [Hend.out (Or.inl rfl)] at H6
                              go_wp2_with fail
                              go_roundg (I.pS.length - (j + 1))
                              case measure => omega
                              case rel => exact ⟨j + 1, by omega, rfl, by go_num, Hnext.out _ H6.out⟩
                            · rw [Hend.out (Or.inr hbr)] at H6
                              subst hbr
                              cases mv
                              · go_wp2_with fail
                                go_roundg (I.pS.length - (j + 1))
                                case measure => omega
                                case rel => exact ⟨j + 1, by omega, rfl, by go_num, Hnext.out _ H6.out⟩
                              · go_wp2_with fail
                                go_roundg (I.pS.length - (j + 1))
                                case measure => omega
                                case rel => exact ⟨j + 1, by omega, rfl, by go_num, Hnext.out _ H6.out⟩
                          · have Hn := Lib.hid (Hon.out hbr)
                            obtain rfl : mv = true := by
                              cases mv
                              · exact absurd (Or.inl rfl) hbr
                              · rfl
                            have hne : ¬ k + 1 = en := fun e => hbr (Or.inr e)
                            go_wp2_with fail
                            go_roundg m'
                            case measure => omega
                            case rel => exact ⟨k + 1, sam, by omega, by omega, rfl, Hn.out.1, Hn.out.2.1, Hn.out.2.2, H6.out⟩
                  · have i2 : ¬ (j : Int) < (I.pS.length : Int) := by omega
                    obtain rfl : j = I.pS.length := by omega
                    go_wp2_with fail
                    go_roundg (c.first.length - (s + 1))
                    case measure => omega
                    case rel =>
                      refine ⟨s + 1, by omega, rfl, by go_num, ?_⟩
                      rw [hLs, hn4]
                      exact Hj.out.congr fun j' hj' => if_pos hj'
          · as_aux_lemma =>
            have j2 : ¬ (s : Int) < (c.first.length : Int) := by omega
            obtain rfl : s = c.first.length := by omega
            have Hrun : Hid (∀ j, j < I.pS.length → ∃ K, K ≤ 1073750000 ∧ SInv c (I.pT.getD j 0) K (c.runTo (I.pS.getD j 0).toNat (I.pT.getD j 0) c.first.length)) := fun j hj => by
              obtain ⟨K, hK, hi⟩ := run_inv Hc.out (hpt j hj).1 (p := (I.pS.getD j 0).toNat) (by have := Hp.out j hj; omega) c.first.length (Nat.le_refl _)
              exact ⟨K, hK.2.1, hi⟩
            have cvx := Hs.out.fix.vx
            rw [← Hm.out] at cvx
            have Hn7 : Hid (2 * cntC c c.first.length < maxLen) := by
              have := Hcn.out; show _ < _; unfold maxLen; omega
            have hmle : m ≤ 4096 * 4096 := by rw [Hm.out]; exact Nat.mul_le_mul Hc.out.nq hnp
            generalize c.Ls c.first.length = L7 at *
            generalize 2 * cntC c c.first.length = n7 at *
            obtain ⟨O7, hO7⟩ : ∃ O7 : Nat → St, O7 = fun j => c.runTo (I.pS.getD j 0).toNat (I.pT.getD j 0) c.first.length := ⟨_, rfl⟩
            have HO7 := Lib.hid hO7
            rw [← hO7] at Hs
            clear hO7
            go_wp2_with fail
            go_loopg [190] m (fun gk i wx => ∃ x : Nat, x ≤ m ∧ gk = m - x ∧ i = .int .i64 x ∧ Hid (Glob w wx c N sb vb sx vx I (c.finAll I.pS.length I.pT O7 x) L7 n7))
            case atStart => exact ⟨0, Nat.zero_le _, rfl, rfl, Hs.out⟩
            case round =>
              clear Hs
              obtain ⟨x, hx, rfl, rfl, Hx⟩ := hrel
              by_cases hltx : x < m
              · as_aux_lemma =>
                have h0 : 0 < I.pS.length := by
                  have h1 := Hm.out
                  rcases Nat.eq_zero_or_pos I.pS.length with e | e
                  · rw [e] at h1; simp at h1; omega
                  · exact e
                have j3 : (x : Int) < (m : Int) := by omega
                have j4 : (0 : Int) ≤ (x : Int) := by omega
                have hxm : x < c.qS.length * I.pS.length := by rw [← Hm.out]; exact hltx
                have hjx := Nat.mod_lt x h0
                have hix : x / I.pS.length < c.qS.length := Nat.div_lt_of_lt_mul (by rw [Nat.mul_comm]; exact hxm)
                have hxe : x / I.pS.length * I.pS.length + x % I.pS.length = x := by rw [Nat.mul_comm]; exact Nat.div_add_mod x I.pS.length
                have hok := finAll_ok Hc.out hpt (O := O7) (by rw [HO7.out]; exact Hrun.out) hxm
                have cvx2 := Hx.out.fix.vx
                have cvb := Hx.out.dyn.vc (x / I.pS.length) hix (x % I.pS.length) hjx
                rw [hxe] at cvb
                rw [← Hm.out] at cvx2
                have Hstep : Hid (c.finAll I.pS.length I.pT O7 (x + 1) = if (c.finAll I.pS.length I.pT O7 x (x % I.pS.length)).served (x / I.pS.length) then fupd (c.finAll I.pS.length I.pT O7 x) (x % I.pS.length) (c.tally (I.pT.getD (x % I.pS.length) 0) (c.finAll I.pS.length I.pT O7 x (x % I.pS.length)) (x / I.pS.length) never) else c.finAll I.pS.length I.pT O7 x) := rfl
                have Htt : Hid ((c.finAll I.pS.length I.pT O7 x (x % I.pS.length)).served (x / I.pS.length) = true → Calls Try.prog 16 #[.int .i64 (x : Int), .int .i64 9223372036854775807, .pointer (some ⟨N, 0, none⟩), .pointer (some ⟨vx, 0, none⟩), .pointer (some ⟨sx, 0, none⟩), .pointer (some ⟨N + 1, 0, none⟩)] wr fun r w' => r = .returned (.tuple #[]) ∧ Glob w w' c N sb vb sx vx I (c.finAll I.pS.length I.pT O7 (x + 1)) L7 n7) := fun hsv => by
                  have hsi := hok.2 _ hjx _ hix
                  have h1 := glob_tally Hc.out Hx.out HpT.out hnp hix hjx (hpt _ hjx) never (by unfold never; omega) (by unfold never; omega) (by rw [hsv]; intro h; cases h) (total_le Hc.out hnp hpt hok.1)
                  rw [hxe] at h1
                  rw [Hstep.out, if_pos hsv]
                  exact h1
                clear hxe hok hix hjx hxm
                generalize (c.finAll I.pS.length I.pT O7 x (x % I.pS.length)).served (x / I.pS.length) = sv at *
                cases sv
                · go_wp2_with fail
                  go_roundg (m - (x + 1))
                  case measure => omega
                  case rel => exact ⟨x + 1, by omega, rfl, by go_num, by rw [Hstep.out]; exact Hx.out⟩
                · have Ht2 := Lib.hid (Htt.out rfl)
                  clear Htt
                  go_wp2_with fail
                  refine Ht2.out.mono ?_
                  rintro e w2 ⟨rfl, hg2'⟩
                  have Hg2 := Lib.hid hg2'
                  clear hg2' Hx Ht2
                  go_wp2_with fail
                  go_roundg (m - (x + 1))
                  case measure => omega
                  case rel => exact ⟨x + 1, by omega, rfl, by go_num, Hg2.out⟩
              · as_aux_lemma =>
                have j3 : ¬ (x : Int) < (m : Int) := by omega
                obtain rfl : x = m := by omega
                have HF : Hid (∀ j, j < I.pS.length → c.finAll I.pS.length I.pT O7 x j = c.finOf I j) := fun j hj => by rw [HO7.out, Hm.out]; exact finAll_fin c I j hj
                have Hx' : Hid (Glob w wr c N sb vb sx vx I (c.finOf I) L7 n7) := Hx.out.congr HF.out
                clear HF Hx Hrun HO7
                obtain ⟨w8, hw8⟩ : ∃ w8, w8 = wr := ⟨_, rfl⟩
                subst hw8
                obtain ⟨i0, hi, hz0, hz1, hz2⟩ := info_parts info3
                go_wp2_with fail
                go_loopg [7, 203] I.pS.length (fun gk v i wx => ∃ j : Nat, j ≤ I.pS.length ∧ gk = I.pS.length - j ∧ i = .int .i64 j ∧ Hid (TrOK w8 wx c I j v))
                case atStart => exact ⟨0, Nat.zero_le _, rfl, rfl, ⟨World.ownsRow_nil _ _ _ _, Only.refl _ _⟩⟩
                case round =>
                  obtain ⟨j, hj, rfl, rfl, Hj⟩ := hrel
                  have hs8 := Hj.out.only.size
                  have hz8 := Hx'.out.fix.size
                  by_cases hltj : j < I.pS.length
                  · as_aux_lemma =>
                    have i1 : (0 : Int) ≤ (j : Int) := by omega
                    have i2 : (j : Int) < (I.pS.length : Int) := by omega
                    have ob := Hx'.out.dyn.obj j hltj
                    have d0 := (Hj.out.only.cellAt (N + 2) (j * 3) (by omega) (by omega)).trans ob.c0
                    have d1' := (Hj.out.only.cellAt (N + 2) (j * 3 + 1) (by omega) (by omega)).trans ob.c1
                    have d2 := (Hj.out.only.cellAt (N + 2) (j * 3 + 2) (by omega) (by omega)).trans ob.c2
                    have q2 := cell_new wr #[.slice (some ⟨N + 3 + j, 0, none⟩) c.nn c.nn, .int .i64 (c.finOf I j).giv, .int .i64 (c.finOf I j).tr] 52 2
                    clear ob
                    go_wp2_with (at_builtin; refine wpList_append_own_at _ rfl _ _ 22 rfl w8.heap.size 3 i0 (.int .i64 0) 1 8 Try.underlying22 hi hz0 hz1 hz2 rfl (by decide) _ _ _ rfl ((Hj.out.own.alloc _).alloc _) ⟨wr.heap.size + 1, 0, none⟩ 1 1 [.int .i64 (c.finOf I j).tr] rfl rfl ?c1 (ints_oneCell .i64 [(c.finOf I j).tr]) (by unfold maxLen; omega) (by omega) (by simp; omega) ?_)
                    case c1 =>
                      have h1 := cell_one_new (wr.alloc (.cells #[.slice (some ⟨N + 3 + j, 0, none⟩) c.nn c.nn, .int .i64 (c.finOf I j).giv, .int .i64 (c.finOf I j).tr] 52 (0, 0))) (.int .i64 (c.finOf I j).tr) 3
                      simpa using h1
                    intro v' w2 hown2 hgrow2 _ _
                    rw [← List.map_take] at hown2
                    have Hnx := Lib.hid (Hj.out.next hltj hown2 hgrow2)
                    clear hown2 hgrow2 Hj
                    go_wp2_with fail
                    go_roundg (I.pS.length - (j + 1))
                    case measure => omega
                    case rel => exact ⟨j + 1, by omega, rfl, by go_num, Hnx.out⟩
                  · have i2 : ¬ (j : Int) < (I.pS.length : Int) := by omega
                    obtain rfl : j = I.pS.length := by omega
                    have bA := (Hj.out.only.cellAt (N + 1) 0 (by omega) (by omega)).trans Hx'.out.fix.ans
                    have bF := (Hj.out.only.frozenAt (N + 1) 0 (by omega) (by omega)).trans Hx'.out.fix.fz
                    have hWc : (wr.setCell ⟨N + 1, 0, none⟩ (.slice (some ⟨N + I.pS.length + 7, 0, none⟩) c.ls.length c.ls.length)).cell? ⟨N + 1, 0, none⟩ = some (.slice (some ⟨N + I.pS.length + 7, 0, none⟩) c.ls.length c.ls.length) := World.cell?_setCell_same' wr _ _ (by rw [bA]; rfl)
                    have Hend : Hid (∀ tv, TrOK w8 wr c I I.pS.length tv → ∃ av tv', (Ending.returned (.tuple #[.slice (some ⟨N + I.pS.length + 7, 0, none⟩) c.ls.length c.ls.length, tv]) : Ending) = .returned (.tuple #[av, tv']) ∧ RowAt (wr.setCell ⟨N + 1, 0, none⟩ (.slice (some ⟨N + I.pS.length + 7, 0, none⟩) c.ls.length c.ls.length)) (wr.setCell ⟨N + 1, 0, none⟩ (.slice (some ⟨N + I.pS.length + 7, 0, none⟩) c.ls.length c.ls.length)).heap.size .i64 av (c.answers I) ∧ RowAt (wr.setCell ⟨N + 1, 0, none⟩ (.slice (some ⟨N + I.pS.length + 7, 0, none⟩) c.ls.length c.ls.length)) (wr.setCell ⟨N + 1, 0, none⟩ (.slice (some ⟨N + I.pS.length + 7, 0, none⟩) c.ls.length c.ls.length)).heap.size .i64 tv' (c.moves I) ∧ Only (fun k => N ≤ k) w (wr.setCell ⟨N + 1, 0, none⟩ (.slice (some ⟨N + I.pS.length + 7, 0, none⟩) c.ls.length c.ls.length)) ∧ Fresh N av) := by
                      intro tv htv
                      have o1 := Only.setCell wr ⟨N + 1, 0, none⟩ (.slice (some ⟨N + I.pS.length + 7, 0, none⟩) c.ls.length c.ls.length)
                      refine ⟨_, tv, rfl, ?_, htv.row (o1.mono fun k _ hk => by show k < _; rw [show k = N + 1 from hk]; omega), (Hx'.out.only.trans (htv.only.mono fun k _ hk => by omega)).trans (o1.mono fun k _ hk => by rw [show k = N + 1 from hk]; omega), fresh_at (by omega) _ _⟩
                      exact answers_row ((Hx'.out.dyn.nums.stay htv.only (by omega)).stay o1 (by show ¬ (N + I.pS.length + 7 = N + 1); omega)) (fun k _ => rfl)
                    go_wp2_with fail
                    refine bodyPost_ret (v := .tuple #[.slice (some ⟨N + I.pS.length + 7, 0, none⟩) c.ls.length c.ls.length, u7]) (by simp [results, Try.results15, go_sem, hWc]) rfl ?_
                    exact Hend.out u7 Hj.out

end Go.Proofs.Qxb6612920a.spray

