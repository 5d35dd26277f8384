import Derived.Test.Qxb6612920aDoor
import Derived.Test.Qxb6612920aPlain
import Derived.Test.Qxb6612920aDomain
namespace Go.Proofs.Qxb6612920a.spray
open Go.RowKit Go.PlainAid

def cxOf (copies f e n : Int) (nodes first : List Int) (cs : List (List (Int × Int))) (qS qT ls : List Int) : Cx :=
  { nn := nodes.length, copies := copies, qS := qS, qT := qT, ls := ls, af := f, ae := e, an := n, first := first, chg := cs }
theorem dom_first {nn : Nat} {first : List Int} {cs : List (List (Int × Int))} {qS pS qT pT : List Int} {f e n : Int} {ls : List Int} (h : Dom nn first cs qS pS qT pT f e n ls) : ∀ s, s < first.length → 0 ≤ first.getD s 0 ∧ first.getD s 0 ≤ 1073741824
  | 0, _ => by rw [h.f0]; omega
  | s + 1, hs => by
    have h1 := dom_first h s (by omega)
    have h2 := h.fup s hs
    omega
theorem dom_cx {nodes first : List Int} {cs : List (List (Int × Int))} {qS pS qT pT : List Int} {copies f e n : Int} {ls : List Int} (h : Dom nodes.length first cs qS pS qT pT f e n ls) (hc : -9223372036854775808 ≤ copies ∧ copies ≤ 9223372036854775807) : CxOK (cxOf copies f e n nodes first cs qS qT ls) :=
  ⟨h.hnn, hc, h.nq, h.nqT, fun i hi => ⟨(h.hq i hi).1, (h.hq i hi).2.1⟩, fun i hi => (h.hq i hi).2.2, h.nl, h.hls, h.hf, h.he, h.hn, h.nf, h.f0, fun s hs => (h.fup s hs).1, dom_first h, h.nc, fun s hs => h.chg s (by have := h.nc; exact this ▸ hs)⟩
theorem dom_ins {nodes first : List Int} {cs : List (List (Int × Int))} {qS qT : List Int} {copies f e n : Int} {ls : List Int} {I : Ins} (h : Dom nodes.length first cs qS I.pS qT I.pT f e n ls) : InsOK (cxOf copies f e n nodes first cs qS qT ls) I :=
  ⟨by have := h.np; omega, h.npT, fun j hj => ⟨(h.hp j hj).1, (h.hp j hj).2.1⟩, fun j hj => (h.hp j hj).2.2⟩
theorem cnt_sum (copies f e n : Int) (nodes first : List Int) (cs : List (List (Int × Int))) (qS qT ls : List Int) : ∀ s, cntC (cxOf copies f e n nodes first cs qS qT ls) s = sumLen cs s
  | 0 => rfl
  | s + 1 => by
    show cntC (cxOf copies f e n nodes first cs qS qT ls) s + (cs.getD s []).length = sumLen cs s + (cs.getD s []).length
    rw [cnt_sum]
theorem one_ok {c : Cx} {I : Ins} (h : InsOK c I) {j : Nat} (hj : j < I.pS.length) (pv ptv : Value) : InsOK c (I.one j pv ptv) := by
  refine ⟨by show 1 ≤ 4096; omega, rfl, fun k hk => ?_, fun k hk => ?_⟩
  · have e : k = 0 := by have : k < 1 := hk; omega
    subst e
    exact h.p j hj
  · have e : k = 0 := by have : k < 1 := hk; omega
    subst e
    exact h.pt j hj
theorem one_at {w : World} {c : Cx} {I : Ins} (h : InsAt w c I) (j : Nat) : InsAt ((w.alloc (.cells #[.int .i32 (I.pS.getD j 0)] 21 (0, 0))).alloc (.cells #[.int .i64 (I.pT.getD j 0)] 3 (0, 0))) c (I.one j (.slice (some ⟨w.heap.size, 0, none⟩) 1 1) (.slice (some ⟨w.heap.size + 1, 0, none⟩) 1 1)) := by
  obtain ⟨w1, hw1⟩ : ∃ w1, w1 = w.alloc (.cells #[.int .i32 (I.pS.getD j 0)] 21 (0, 0)) := ⟨_, rfl⟩
  rw [← hw1]
  have s1 : w1.heap.size = w.heap.size + 1 := by rw [hw1]; simp
  have hb1 : Below w.heap.size w w1 := by rw [hw1]; exact (Below.refl _ w).alloc (Nat.le_refl _) _
  have hb2 : Below w1.heap.size w1 (w1.alloc (.cells #[.int .i64 (I.pT.getD j 0)] 3 (0, 0))) := (Below.refl _ w1).alloc (Nat.le_refl _) _
  have h2 := (h.later hb1).later hb2
  refine ⟨h2.q, ?_, h2.qt, ?_, h2.l⟩
  · have r1 : RowAt w1 w1.heap.size .i32 (.slice (some ⟨w.heap.size, 0, none⟩) 1 1) [I.pS.getD j 0] := by
      rw [hw1]
      exact row_of_block (zs := [I.pS.getD j 0]) (heap_alloc_new w _)
    exact r1.later hb2
  · rw [← s1]
    exact row_of_block (zs := [I.pT.getD j 0]) (heap_alloc_new w1 _)
theorem one_moves (c : Cx) (I : Ins) (j : Nat) (pv ptv : Value) (hj : j < I.pS.length) : c.moves (I.one j pv ptv) = [(c.moves I).getD j 0] := by
  show [(c.finOf (I.one j pv ptv) 0).tr] = _
  rw [one_fin]
  unfold Cx.moves
  rw [getD_range hj]
/-- the sums while object j is being added -/
def Cx.mid (c : Cx) (I : Ins) (j k : Nat) : Nat → Int := fun k' => if k' < k then c.sofar I (j + 1) k' else c.sofar I j k'
theorem mid_zero (c : Cx) (I : Ins) (j : Nat) : c.mid I j 0 = c.sofar I j := by
  funext k'
  exact if_neg (by omega)
theorem mid_next (c : Cx) (I : Ins) (j k : Nat) : fupd (c.mid I j k) k (c.sofar I (j + 1) k) = c.mid I j (k + 1) := by
  funext k'
  unfold fupd Cx.mid
  by_cases e : k' = k
  · subst e; rw [if_pos rfl, if_pos (by omega)]
  · rw [if_neg e]
    by_cases e2 : k' < k
    · rw [if_pos e2, if_pos (by omega)]
    · rw [if_neg e2, if_neg (by omega)]
theorem mid_all {w : World} {b n : Nat} {c : Cx} {I : Ins} {j : Nat} (h : NumsAt w b n (c.mid I j n)) : NumsAt w b n (c.sofar I (j + 1)) :=
  ⟨fun k hk => by rw [h.c k hk]; unfold Cx.mid; rw [if_pos hk], h.f, h.lt⟩
theorem answers_at {c : Cx} {I : Ins} {k : Nat} (hk : k < c.ls.length) : (c.answers I).getD k 0 = total c I.pS.length (c.finOf I) k := getD_range hk
theorem moves_at {c : Cx} {I : Ins} {j : Nat} (hj : j < I.pS.length) : (c.moves I).getD j 0 = (c.finOf I j).tr := getD_range hj
theorem shape_ok {c : Cx} (h : CxOK c) {I : Ins} (hI : InsOK c I) :
    (∀ j, j < (c.moves I).length → 0 ≤ (c.moves I).getD j 0 ∧ (c.moves I).getD j 0 ≤ (c.nn : Int) - 1 ∧ (¬ 1 < c.copies → (c.moves I).getD j 0 = 0) ∧ (1 < c.copies → (c.moves I).getD j 0 ≤ c.copies - 1)) ∧
    (∀ k, k < (c.answers I).length → selfB c.copies c.qS I.pS c.qT I.pT c.an ≤ (c.answers I).getD k 0 ∧ (c.answers I).getD k 0 ≤ totalB c.qS I.pS c.qT I.pT c.an ∧ (c.copies < 1 → (c.answers I).getD k 0 = 0)) := by
  refine ⟨fun j hj => ?_, fun k hk => ?_⟩
  · rw [moves_len] at hj
    rw [moves_at hj]
    exact fin_tr h (hI.pt j hj).1 (by have := hI.p j hj; omega)
  · rw [answers_len] at hk
    rw [answers_at hk]
    exact answers_bounds h hI.p hI.pt hk
theorem weights_ok {c : Cx} (h : CxOK c) {I : Ins} (hI : InsOK c I) (i j : Nat) (hi : i < c.qS.length) (hj : j < I.pS.length) : (0 ≤ c.qT.getD i 0 * I.pT.getD j 0 ∧ c.qT.getD i 0 * I.pT.getD j 0 ≤ 1048576) ∧ 0 ≤ pairW c.qT I.pT c.an i j ∧ pairW c.qT I.pT c.an i j ≤ 68719476736 := by
  have h1 := h.qT i hi
  have h2 := hI.pt j hj
  have h3 : c.qT.getD i 0 * I.pT.getD j 0 ≤ 1024 * 1024 := Int.mul_le_mul h1.2 h2.2 h2.1 (by omega)
  exact ⟨⟨Int.mul_nonneg h1.1 h2.1, by omega⟩, weight_le h h2 hi⟩
end Go.Proofs.Qxb6612920a.spray
