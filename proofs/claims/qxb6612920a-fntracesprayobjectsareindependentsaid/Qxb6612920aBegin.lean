import Derived.Test.Qxb6612920aMake
namespace Go.Proofs.Qxb6612920a.spray
open Go.RowKit Go.PlainAid

/-- all as it stands at the head of the loop over the spans -/
theorem start_all {w W1 wr wc : World} {c : Cx} {N sb vb sx vx m : Nat} {I : Ins} {trip : Int} (hm : m = c.qS.length * I.pS.length) (o01 : Only (fun _ => False) w W1) (hJ : ∀ o, W1.cell? ⟨N, o, none⟩ = (#[I.qv, I.pv, I.qtv, I.ptv, .int .i64 c.af, .int .i64 c.ae, .int .i64 c.an, I.lv, .int .i64 trip] : Array Value)[o]?) (hs1 : W1.heap.size = N + 3) (hA : (W1.cell? ⟨N + 1, 0, none⟩).isSome = true) (hAf : W1.frozen? ⟨N + 1, 0, none⟩ = false)
    (hk : Making W1 wr c N I.pS I.pS.length) (hb : Boxes wr wc m sb vb sx vx)
    (rq : RowAt w N .i32 I.qv c.qS) (rp : RowAt w N .i32 I.pv I.pS) (rqt : RowAt w N .i64 I.qtv c.qT) (rpt : RowAt w N .i64 I.ptv I.pT) (rl : RowAt w N .i64 I.lv c.ls)
    {W2 : World} (hW2 : W2 = ((wc.setCell ⟨N + 1, 0, none⟩ (.slice (some ⟨wc.heap.size, 0, none⟩) c.ls.length c.ls.length)).alloc (.cells (madeCells #[.int .i64 0] c.ls.length) 3 (0, 0))).alloc (.cells #[.map none] 58 (0, 0))) :
    LayOK N I.pS.length sb vb sx vx ∧ FixAt W2 c N sb vb sx vx I ∧ DynAt W2 c N I.pS.length sb vb (fun j => c.init (I.pS.getD j 0).toNat) ∧ LinksAt W2 (N + I.pS.length + 8) (N + I.pS.length + 9) 0 (fun _ => []) ∧ Only (fun k => N ≤ k) w W2 := by
  have hsz := hk.size
  have hbs := hb.size
  have hws : wc.heap.size = N + I.pS.length + 7 := by omega
  have h1 := hb.s
  have h2 := hb.v
  have h3 := hb.x
  have h4 := hb.y
  have hne := hb.ne
  obtain ⟨W', hW'⟩ : ∃ W', W' = wc.setCell ⟨N + 1, 0, none⟩ (.slice (some ⟨wc.heap.size, 0, none⟩) c.ls.length c.ls.length) := ⟨_, rfl⟩
  rw [← hW'] at hW2
  have s' : W'.heap.size = N + I.pS.length + 7 := by subst hW'; simp [hws]
  have oA : Only (fun k => k = N + 1) wc W' := by subst hW'; exact Only.setCell wc ⟨N + 1, 0, none⟩ _
  have oB : Only (fun _ => False) W' W2 := by subst hW2; exact (Only.alloc _ _ _).trans (Only.alloc _ _ _)
  have s2 : W2.heap.size = N + I.pS.length + 9 := by subst hW2; simp [s']
  have o12 : Only (fun k => k = N + 2 ∨ k = N + 1) W1 W2 := ((hk.only.mono fun k _ e => Or.inl e).trans (hb.only.mono fun _ _ f => f.elim)).trans ((oA.mono fun k _ e => Or.inr e).trans (oB.mono fun _ _ f => f.elim))
  have oc2 : Only (fun k => k = N + 1) wc W2 := oA.trans (oB.mono fun _ _ f => f.elim)
  have or2 : Only (fun k => k = N + 1) wr W2 := (hb.only.mono fun _ _ f => f.elim).trans oc2
  have o02 : Only (fun k => N ≤ k) w W2 := (o01.mono fun _ _ f => f.elim).trans (o12.mono fun k _ e => by omega)
  have hr : ∀ k, k < N → ¬ N ≤ k := fun k hk => by omega
  have jc : ∀ o, W2.cell? ⟨N, o, none⟩ = W1.cell? ⟨N, o, none⟩ := fun o => o12.cellAt N o (by omega) (by omega)
  have hblk : ∀ (b : Nat) (cs : Array Value) (t : TypeId), b ≠ N + 1 → wc.heap[b]? = some (.cells cs t (0, 0)) → (∀ o, W2.cell? ⟨b, o, none⟩ = cs[o]?) ∧ ∀ o, W2.frozen? ⟨b, o, none⟩ = false := by
    intro b cs t hbn h
    have hl := (Array.getElem?_eq_some_iff.1 h).1
    refine ⟨fun o => ?_, fun o => ?_⟩
    · rw [oc2.cellAt b o hl hbn]
      unfold World.cell?
      rw [h]
      simp
    · rw [oc2.frozenAt b o hl hbn]
      unfold World.frozen?
      rw [h]
      simp
  have hxb := hblk sx _ _ (by omega) hb.hx
  have hyb := hblk vx _ _ (by omega) hb.hy
  have hsb := hblk sb _ _ (by omega) hb.hs
  have hvb := hblk vb _ _ (by omega) hb.hv
  have hAns : W2.cell? ⟨N + 1, 0, none⟩ = some (.slice (some ⟨N + I.pS.length + 7, 0, none⟩) c.ls.length c.ls.length) := by
    rw [oB.cellAt (N + 1) 0 (by omega) (fun h => h), hW', hws]
    refine World.cell?_setCell_same' wc _ _ ?_
    rw [hb.only.cellAt (N + 1) 0 (by omega) (fun h => h), hk.only.cellAt (N + 1) 0 (by omega) (by omega)]
    exact hA
  have hAnf : W2.frozen? ⟨N + 1, 0, none⟩ = false := by
    rw [oB.frozenAt (N + 1) 0 (by omega) (fun h => h), hW', World.frozen?_setCell, hb.only.frozenAt (N + 1) 0 (by omega) (fun h => h), hk.only.frozenAt (N + 1) 0 (by omega) (by omega)]
    exact hAf
  have hab : (∀ o, W2.cell? ⟨N + I.pS.length + 7, o, none⟩ = (madeCells #[.int .i64 0] c.ls.length)[o]?) ∧ ∀ o, W2.frozen? ⟨N + I.pS.length + 7, o, none⟩ = false := by
    subst hW2
    rw [← s']
    refine ⟨fun o => ?_, fun o => ?_⟩
    · rw [(Only.alloc (fun _ => False) _ _).cellAt W'.heap.size o (by simp) (fun h => h)]
      exact cell_new W' _ _ o
    · rw [(Only.alloc (fun _ => False) _ _).frozenAt W'.heap.size o (by simp) (fun h => h)]
      exact froz_new W' _ _ o
  have hlb : W2.cell? ⟨N + I.pS.length + 8, 0, none⟩ = some (.map none) ∧ W2.frozen? ⟨N + I.pS.length + 8, 0, none⟩ = false := by
    subst hW2
    have e : N + I.pS.length + 8 = (W'.alloc (.cells (madeCells #[.int .i64 0] c.ls.length) 3 (0, 0))).heap.size := by simp [s']
    rw [e]
    exact ⟨cell_new _ _ _ 0, froz_new _ _ _ 0⟩
  refine ⟨⟨by omega, by omega, by omega, by omega, hne⟩, ⟨(jc 0).trans (hJ 0), (jc 1).trans (hJ 1), (jc 2).trans (hJ 2), (jc 3).trans (hJ 3), (jc 4).trans (hJ 4), (jc 5).trans (hJ 5), (jc 6).trans (hJ 6), (jc 7).trans (hJ 7), hAns, ?_, ?_, rq.stay o02 hr, rp.stay o02 hr, rqt.stay o02 hr, rpt.stay o02 hr, rl.stay o02 hr, by omega, hAnf⟩, ⟨fun j hj => ?_, fun i hi j hj => ?_, fun i hi j hj => ?_, hsb.2, hvb.2, ⟨fun k hk' => ?_, hab.2, by omega⟩⟩, ⟨hlb.2, by omega, by omega, Or.inl ⟨hlb.1, fun _ => rfl⟩⟩, o02⟩
  · rw [hxb.1 0, ← hm]; rfl
  · rw [hyb.1 0, ← hm]; rfl
  · exact (hk.done j hj).stay or2 (by omega) (by omega) (by omega) (by omega)
  · rw [hsb.1, made_one _ (by rw [hm]; exact pair_lt hi hj)]; rfl
  · rw [hvb.1, made_one _ (by rw [hm]; exact pair_lt hi hj)]; rfl
  · rw [hab.1, made_one _ hk']
    have : total c I.pS.length (fun j => c.init (I.pS.getD j 0).toNat) k = 0 := by
      unfold total
      exact (sumN_congr (g := fun _ => 0) (fun j _ => sumN_zero c.qS.length)).trans (sumN_zero _)
    rw [this]
end Go.Proofs.Qxb6612920a.spray
