import Derived.Test.Qxb6612920aSums
namespace Go.Proofs.Qxb6612920a.spray
open Go.RowKit Go.PlainAid

/-! ### What spray hands back -/
def Cx.finOf (c : Cx) (I : Ins) (j : Nat) : St := c.fin (I.pS.getD j 0).toNat (I.pT.getD j 0)
def Cx.answers (c : Cx) (I : Ins) : List Int := (List.range c.ls.length).map fun k => total c I.pS.length (c.finOf I) k
def Cx.moves (c : Cx) (I : Ins) : List Int := (List.range I.pS.length).map fun j => (c.finOf I j).tr
theorem getD_range {f : Nat → Int} {n i : Nat} (h : i < n) : ((List.range n).map f).getD i 0 = f i := by
  simp [List.getD, h]
theorem answers_len (c : Cx) (I : Ins) : (c.answers I).length = c.ls.length := by simp [Cx.answers]
theorem moves_len (c : Cx) (I : Ins) : (c.moves I).length = I.pS.length := by simp [Cx.moves]

/-- the transfers gathered so far -/
structure TrOK (w8 wx : World) (c : Cx) (I : Ins) (j : Nat) (v : Value) : Prop where
  own : wx.ownsRow w8.heap.size 3 1 v j (((c.moves I).take j).map (Value.int .i64))
  only : Only (fun k => w8.heap.size ≤ k) w8 wx
theorem TrOK.next {w8 wx w1 : World} {c : Cx} {I : Ins} {j : Nat} {v v' : Value} {o1 o2 : Obj} (h : TrOK w8 wx c I j v) (hj : j < I.pS.length)
    (hown : w1.ownsRow w8.heap.size 3 1 v' (j + 1) (((c.moves I).take j).map (Value.int .i64) ++ [.int .i64 (c.finOf I j).tr])) (hg : ((wx.alloc o1).alloc o2).grownBy w1 v.ownBlock) : TrOK w8 w1 c I (j + 1) v' := by
  refine ⟨?_, (h.only.trans ((Only.alloc _ _ o1).trans (Only.alloc _ _ o2))).trans ((Only.of_grown hg).mono fun k _ hk => (h.own.lt k hk.symm).1)⟩
  have e : ((c.moves I).take (j + 1)).map (Value.int .i64) = ((c.moves I).take j).map (Value.int .i64) ++ [.int .i64 (c.finOf I j).tr] := by
    have hl : j < (c.moves I).length := by rw [moves_len]; exact hj
    rw [List.take_succ_eq_append_getElem hl, List.map_append]
    congr 1
    simp [Cx.moves]
  rw [e]
  exact hown
theorem TrOK.row {w8 wx wf : World} {c : Cx} {I : Ins} {v : Value} (h : TrOK w8 wx c I I.pS.length v) (hf : Only (fun k => k < w8.heap.size) wx wf) : RowAt wf wf.heap.size .i64 v (c.moves I) := by
  have e : (c.moves I).take I.pS.length = c.moves I := by rw [← moves_len c I]; exact List.take_length
  have ho := h.own
  rw [e] at ho
  rcases ho.2 with ⟨rfl, h0⟩ | ⟨g, cap, cur, rfl, hb, hg, _⟩
  · have e0 : c.moves I = [] := List.eq_nil_of_length_eq_zero (by rw [moves_len]; exact h0)
    exact ⟨none, 0, by rw [moves_len, h0], Or.inl e0⟩
  · have hlt := (Array.getElem?_eq_some_iff.1 hg).1
    refine ⟨some ⟨g, 0, none⟩, cap, by rw [moves_len], Or.inr ⟨g, rfl, Nat.lt_of_lt_of_le hlt hf.size, Nat.lt_of_lt_of_le hlt hf.size, fun i hi => ?_⟩⟩
    rw [hf.cellAt g i hlt (by omega)]
    have h1 := ho.cells (g := g) rfl i (.int .i64 ((c.moves I).getD i 0)) (by simp [List.getD, hi])
    have e2 : (⟨g, 0, none⟩ : Addr).add i = ⟨g, i, none⟩ := by
      by_cases h0 : i = 0
      · subst h0; simp [Addr.add]
      · simp [Addr.add, h0]
    rw [e2] at h1
    exact h1
theorem answers_row {w : World} {c : Cx} {I : Ins} {b cap : Nat} {A : Nat → Int} (h : NumsAt w b c.ls.length A) (hA : ∀ k, k < c.ls.length → A k = total c I.pS.length (c.finOf I) k) : RowAt w w.heap.size .i64 (.slice (some ⟨b, 0, none⟩) c.ls.length cap) (c.answers I) := by
  refine ⟨_, cap, by rw [answers_len], Or.inr ⟨b, rfl, h.lt, h.lt, fun i hi => ?_⟩⟩
  rw [answers_len] at hi
  rw [h.c i hi, hA i hi]
  congr 2
  exact (getD_range hi).symm
theorem finAll_fin (c : Cx) (I : Ins) (j : Nat) (hj : j < I.pS.length) : c.finAll I.pS.length I.pT (fun j => c.runTo (I.pS.getD j 0).toNat (I.pT.getD j 0) c.first.length) (c.qS.length * I.pS.length) j = c.finOf I j := by
  rw [finAll_eq c I.pT _ _ j hj, done_all hj]
  rfl
theorem total_congr {c : Cx} {np : Nat} {O O' : Nat → St} (h : ∀ j, j < np → O j = O' j) (k : Nat) : total c np O k = total c np O' k := by
  unfold total
  exact sumN_congr fun j hj => by rw [h j hj]

/-- the states while the last tallies are made -/
theorem finAll_ok {c : Cx} (hc : CxOK c) {I : Ins} (hpt : ∀ j, j < I.pS.length → 0 ≤ I.pT.getD j 0 ∧ I.pT.getD j 0 ≤ 1024) {O : Nat → St} (hr : ∀ j, j < I.pS.length → ∃ K, K ≤ 1073750000 ∧ SInv c (I.pT.getD j 0) K (O j)) {x : Nat} (hx : x < c.qS.length * I.pS.length) :
    (∀ j, j < I.pS.length → Bnd c (I.pT.getD j 0) (c.finAll I.pS.length I.pT O x j)) ∧ ∀ j, j < I.pS.length → ∀ i, i < c.qS.length → 0 ≤ (c.finAll I.pS.length I.pT O x j).since i ∧ (c.finAll I.pS.length I.pT O x j).since i ≤ 1073750000 := by
  refine ⟨fun j hj => ?_, fun j hj i hi => ?_⟩
  · obtain ⟨K, hK, hs⟩ := hr j hj
    rw [finAll_eq c I.pT O x j hj]
    exact finTo_bnd hc (hpt j hj).1 hs.tal (by unfold never; omega) _ (done_le hj hx)
  · obtain ⟨K, hK, hs⟩ := hr j hj
    rw [finAll_eq c I.pT O x j hj, (finTo_same c _ _ _).2.2.2.1]
    have := hs.tal.since i hi
    omega
end Go.Proofs.Qxb6612920a.spray
