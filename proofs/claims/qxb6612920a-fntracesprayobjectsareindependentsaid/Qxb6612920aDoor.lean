import Derived.Test.Qxb6612920aSpray
import Derived.Test.Qxb6612920aCloneChg
namespace Go.Proofs.Qxb6612920a.spray
open Go.RowKit Go.PlainAid
set_option maxRecDepth 100000 in
set_option maxHeartbeats 1000000 in
theorem judging_any (p1 p2 p3 p4 p5 : Option Addr) (l1 l2 l3 l4 l5 c1 c2 c3 c4 c5 : Nat) (f e n t : Int) (w : World) :
    Calls Try.prog 12 #[.slice p1 l1 c1, .slice p2 l2 c2, .slice p3 l3 c3, .slice p4 l4 c4, .int .i64 f, .int .i64 e, .int .i64 n, .slice p5 l5 c5, .int .i64 t] w fun r w' => r = .returned (.agg #[.slice p1 l1 c1, .slice p2 l2 c2, .slice p3 l3 c3, .slice p4 l4 c4, .int .i64 f, .int .i64 e, .int .i64 n, .slice p5 l5 c5, .int .i64 t]) ∧ Below w.heap.size w w' := by
  go_enter Try.func12, Try.ntmps12
  go_wp2_with fail
  refine bodyPost_ret (v := .agg #[.slice p1 l1 c1, .slice p2 l2 c2, .slice p3 l3 c3, .slice p4 l4 c4, .int .i64 f, .int .i64 e, .int .i64 n, .slice p5 l5 c5, .int .i64 t]) (by simp [results, Try.results12, go_sem]) rfl ⟨rfl, ?_⟩
  exact (Below.refl _ w).alloc (Nat.le_refl _) _
set_option maxRecDepth 100000 in
set_option maxHeartbeats 1000000 in
theorem grid_any (p1 p2 p3 : Option Addr) (l1 l2 l3 c1 c2 c3 : Nat) (w : World) :
    Calls Try.prog 10 #[.slice p1 l1 c1, .slice p2 l2 c2, .slice p3 l3 c3] w fun r w' => r = .returned (.pointer (some ⟨w.heap.size, 0, none⟩)) ∧ w'.cell? ⟨w.heap.size, 1, none⟩ = some (.slice p1 l1 c1) ∧ w'.cell? ⟨w.heap.size, 3, none⟩ = some (.slice p2 l2 c2) ∧ w'.cell? ⟨w.heap.size, 5, none⟩ = some (.slice p3 l3 c3) ∧ Below w.heap.size w w' := by
  go_enter Try.func10, Try.ntmps10
  go_wp2_with fail
  go_ret
  exact ⟨rfl, cell_new w _ _ 1, cell_new w _ _ 3, cell_new w _ _ 5, (Below.refl _ w).alloc (Nat.le_refl _) _⟩

theorem RowAt.up {w : World} {B B' : Nat} {q : IntKind} {v : Value} {zs : List Int} (h : RowAt w B q v zs) (hB : B ≤ B') : RowAt w B' q v zs := by
  obtain ⟨p, cap, rfl, h⟩ := h
  refine ⟨p, cap, rfl, ?_⟩
  rcases h with h | ⟨g, rfl, h1, h2, h3⟩
  · exact Or.inl h
  · exact Or.inr ⟨g, rfl, by omega, h2, h3⟩
theorem RowAt.later {w w' : World} {q : IntKind} {v : Value} {zs : List Int} (h : RowAt w w.heap.size q v zs) (hb : Below w.heap.size w w') : RowAt w' w'.heap.size q v zs :=
  (h.stay (S := fun k => w.heap.size ≤ k) (Only.of_below hb) (fun k hk => by omega)).up hb.size
theorem PairsAt.later {w w' : World} {v : Value} {ps : List (Int × Int)} (h : PairsAt w w.heap.size v ps) (hb : Below w.heap.size w w') : PairsAt w' w'.heap.size v ps := by
  obtain ⟨p, cap, rfl, h⟩ := h
  refine ⟨p, cap, rfl, ?_⟩
  rcases h with h | ⟨g, rfl, h1, h2, h3⟩
  · exact Or.inl h
  · exact Or.inr ⟨g, rfl, Nat.lt_of_lt_of_le h1 hb.size, Nat.lt_of_lt_of_le h2 hb.size, fun i hi => ⟨(hb.cell (p := ⟨g, i * 2, none⟩) h1).trans (h3 i hi).1, (hb.cell (p := ⟨g, i * 2 + 1, none⟩) h1).trans (h3 i hi).2⟩⟩
theorem ChgAt.later {w w' : World} {v : Value} {cs : List (List (Int × Int))} (h : ChgAt w w.heap.size v cs) (hb : Below w.heap.size w w') : ChgAt w' w'.heap.size v cs := by
  obtain ⟨p, cap, rfl, h⟩ := h
  refine ⟨p, cap, rfl, ?_⟩
  rcases h with h | ⟨g, rfl, h1, h2, h3⟩
  · exact Or.inl h
  · refine Or.inr ⟨g, rfl, Nat.lt_of_lt_of_le h1 hb.size, Nat.lt_of_lt_of_le h2 hb.size, fun i hi => ?_⟩
    obtain ⟨rv, h4, h5⟩ := h3 i hi
    exact ⟨rv, (hb.cell (p := ⟨g, i, none⟩) h1).trans h4, h5.later hb⟩
/-- the grid -/
structure GridAt (w : World) (c : Cx) (gb : Nat) (np : Option Addr) (nc : Nat) (fv cv : Value) : Prop where
  g1 : w.cell? ⟨gb, 1, none⟩ = some (.slice np c.nn nc)
  g3 : w.cell? ⟨gb, 3, none⟩ = some fv
  g5 : w.cell? ⟨gb, 5, none⟩ = some cv
  rf : RowAt w w.heap.size .i64 fv c.first
  rc : ChgAt w w.heap.size cv c.chg
theorem GridAt.later {w w' : World} {c : Cx} {gb : Nat} {np : Option Addr} {nc : Nat} {fv cv : Value} (h : GridAt w c gb np nc fv cv) (hb : Below w.heap.size w w') : GridAt w' c gb np nc fv cv := by
  have hg : gb < w.heap.size := World.block_lt_of_cell? w _ h.g1
  exact ⟨(hb.cell (p := ⟨gb, 1, none⟩) hg).trans h.g1, (hb.cell (p := ⟨gb, 3, none⟩) hg).trans h.g3, (hb.cell (p := ⟨gb, 5, none⟩) hg).trans h.g5, h.rf.later hb, h.rc.later hb⟩
/-- what is judged -/
structure InsAt (w : World) (c : Cx) (I : Ins) : Prop where
  q : RowAt w w.heap.size .i32 I.qv c.qS
  p : RowAt w w.heap.size .i32 I.pv I.pS
  qt : RowAt w w.heap.size .i64 I.qtv c.qT
  pt : RowAt w w.heap.size .i64 I.ptv I.pT
  l : RowAt w w.heap.size .i64 I.lv c.ls
theorem InsAt.later {w w' : World} {c : Cx} {I : Ins} (h : InsAt w c I) (hb : Below w.heap.size w w') : InsAt w' c I :=
  ⟨h.q.later hb, h.p.later hb, h.qt.later hb, h.pt.later hb, h.l.later hb⟩
/-- of the publishers -/
structure InsOK (c : Cx) (I : Ins) : Prop where
  np : I.pS.length ≤ 4096
  nT : I.pT.length = I.pS.length
  p : ∀ j, j < I.pS.length → 0 ≤ I.pS.getD j 0 ∧ I.pS.getD j 0 < c.nn
  pt : ∀ j, j < I.pS.length → 0 ≤ I.pT.getD j 0 ∧ I.pT.getD j 0 ≤ 1024

set_option maxRecDepth 100000 in
set_option maxHeartbeats 1000000 in
theorem zz_any (c : Cx) (hc : CxOK c) (gb : Nat) (np : Option Addr) (nc : Nat) (fv cv : Value) (I : Ins) (w : World) (hG : GridAt w c gb np nc fv cv) (hI : InsAt w c I) (hO : InsOK c I) (hcn : cntC c c.first.length ≤ 1073741824) (hfl : c.first.length ≤ 1073741824) :
    Calls Try.prog 11 #[.pointer (some ⟨gb, 0, none⟩), .int .i64 c.copies, .agg #[I.qv, I.pv, I.qtv, I.ptv, .int .i64 c.af, .int .i64 c.ae, .int .i64 c.an, I.lv, .int .i64 0]] w fun r w' => ∃ av tv, r = .returned (.tuple #[av, tv]) ∧ RowAt w' w'.heap.size .i64 av (c.answers I) ∧ RowAt w' w'.heap.size .i64 tv (c.moves I) ∧ Below w.heap.size w w' ∧ Fresh w.heap.size av := by
  obtain ⟨p1, c1, e1, _⟩ := hI.q
  obtain ⟨p2, c2, e2, _⟩ := hI.p
  obtain ⟨p3, c3, e3, _⟩ := hI.qt
  obtain ⟨p4, c4, e4, _⟩ := hI.pt
  obtain ⟨p5, c5, e5, _⟩ := hI.l
  obtain ⟨pf, cf, ef, _⟩ := hG.rf
  rw [hc.nqT] at e3
  rw [hO.nT] at e4
  obtain ⟨w1, hw1⟩ : ∃ w1, w1 = w.alloc (.cells #[I.qv, I.pv, I.qtv, I.ptv, .int .i64 c.af, .int .i64 c.ae, .int .i64 c.an, I.lv, .int .i64 0] 38 (0, 0)) := ⟨_, rfl⟩
  have hb : Below w.heap.size w w1 := by rw [hw1]; exact (Below.refl _ w).alloc (Nat.le_refl _) _
  have hG1 := hG.later hb
  have hI1 := hI.later hb
  have H : Hid (Calls Try.prog 15 #[.pointer (some ⟨gb, 0, none⟩), .int .i64 c.copies, .agg #[.slice p1 c.qS.length c1, .slice p2 I.pS.length c2, .slice p3 c.qS.length c3, .slice p4 I.pS.length c4, .int .i64 c.af, .int .i64 c.ae, .int .i64 c.an, .slice p5 c.ls.length c5, .int .i64 0]] w1 fun r w' => ∃ av tv, r = .returned (.tuple #[av, tv]) ∧ RowAt w' w'.heap.size .i64 av (c.answers I) ∧ RowAt w' w'.heap.size .i64 tv (c.moves I) ∧ Only (fun k => w1.heap.size ≤ k) w1 w' ∧ Fresh w1.heap.size av) := by
    have f3 := hG1.g3
    have rf := hG1.rf
    rw [ef] at f3 rf
    have r1 := hI1.q
    have r2 := hI1.p
    have r3 := hI1.qt
    have r4 := hI1.pt
    have r5 := hI1.l
    rw [e1] at r1
    rw [e2] at r2
    rw [e3] at r3
    rw [e4] at r4
    rw [e5] at r5
    exact spray_any c hc gb w1.heap.size I p1 p2 p3 p4 p5 pf np c1 c2 c3 c4 c5 cf nc cv 0 w1 rfl r1 r2 r3 r4 r5 hG1.g1 f3 hG1.g5 rf e1 e2 e3 e4 e5 hG1.rc hcn hfl hO.np hO.nT hO.p hO.pt
  have Hb := Lib.hid hb
  rw [e1, e2, e3, e4, e5] at hw1
  rw [e1, e2, e3, e4, e5]
  clear hG hI hc hO hG1 hI1 hb e1 e2 e3 e4 e5
  go_enter Try.func11, Try.ntmps11
  go_wp2_with fail
  rw [← hw1]
  refine H.out.mono ?_
  rintro e w2 ⟨av, tv, rfl, ha, ht, ho, hfr⟩
  have Hend : Hid (RowAt w2 w2.heap.size .i64 av (c.answers I) ∧ RowAt w2 w2.heap.size .i64 tv (c.moves I) ∧ Below w.heap.size w w2 ∧ Fresh w.heap.size av) :=
    ⟨ha, ht, Hb.out.trans (ho.below Hb.out.size (fun k hk => by have := Hb.out.size; omega)), fun a l k e => Nat.le_trans Hb.out.size (hfr a l k e)⟩
  clear ha ht ho hfr
  go_wp2_with fail
  go_ret2
  exact ⟨av, tv, rfl, Hend.out⟩
end Go.Proofs.Qxb6612920a.spray
