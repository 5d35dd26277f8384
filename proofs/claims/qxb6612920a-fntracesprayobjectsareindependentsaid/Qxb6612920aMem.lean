import Derived.Test.Qxb6612920aInvs
namespace Go.Proofs.Qxb6612920a.spray
open Go.RowKit Go.PlainAid

theorem Only.cellAt {S : Nat → Prop} {a b : World} (h : Only S a b) (g o : Nat) (hl : g < a.heap.size) (hn : ¬ S g) : b.cell? ⟨g, o, none⟩ = a.cell? ⟨g, o, none⟩ := h.cell ⟨g, o, none⟩ hl hn
theorem Only.frozenAt {S : Nat → Prop} {a b : World} (h : Only S a b) (g o : Nat) (hl : g < a.heap.size) (hn : ¬ S g) : b.frozen? ⟨g, o, none⟩ = a.frozen? ⟨g, o, none⟩ := h.frozen ⟨g, o, none⟩ hl hn

/-! ### Where all lies while spray runs
N: the judged box, N + 1: the box of answered, N + 2: the objects, N + 3 + j: what object j's nodes hold, sb vb sx vx: since, served and their boxes, N + np + 7: answered, N + np + 8: the links' box. -/
structure LayOK (N np sb vb sx vx : Nat) : Prop where
  s : N + np + 3 ≤ sb ∧ sb < N + np + 7
  v : N + np + 3 ≤ vb ∧ vb < N + np + 7
  x : N + np + 3 ≤ sx ∧ sx < N + np + 7
  y : N + np + 3 ≤ vx ∧ vx < N + np + 7
  ne : sb ≠ vb ∧ sb ≠ sx ∧ sb ≠ vx ∧ vb ≠ sx ∧ vb ≠ vx ∧ sx ≠ vx

/-- the slices that came in -/
structure Ins where
  pS : List Int
  pT : List Int
  qv : Value
  pv : Value
  qtv : Value
  ptv : Value
  lv : Value

structure FixAt (w : World) (c : Cx) (N sb vb sx vx : Nat) (I : Ins) : Prop where
  q : w.cell? ⟨N, 0, none⟩ = some I.qv
  p : w.cell? ⟨N, 1, none⟩ = some I.pv
  qt : w.cell? ⟨N, 2, none⟩ = some I.qtv
  pt : w.cell? ⟨N, 3, none⟩ = some I.ptv
  a0 : w.cell? ⟨N, 4, none⟩ = some (.int .i64 c.af)
  a1 : w.cell? ⟨N, 5, none⟩ = some (.int .i64 c.ae)
  a2 : w.cell? ⟨N, 6, none⟩ = some (.int .i64 c.an)
  l : w.cell? ⟨N, 7, none⟩ = some I.lv
  ans : w.cell? ⟨N + 1, 0, none⟩ = some (.slice (some ⟨N + I.pS.length + 7, 0, none⟩) c.ls.length c.ls.length)
  sx : w.cell? ⟨sx, 0, none⟩ = some (.slice (some ⟨sb, 0, none⟩) (c.qS.length * I.pS.length) (c.qS.length * I.pS.length))
  vx : w.cell? ⟨vx, 0, none⟩ = some (.slice (some ⟨vb, 0, none⟩) (c.qS.length * I.pS.length) (c.qS.length * I.pS.length))
  rq : RowAt w N .i32 I.qv c.qS
  rp : RowAt w N .i32 I.pv I.pS
  rqt : RowAt w N .i64 I.qtv c.qT
  rpt : RowAt w N .i64 I.ptv I.pT
  rl : RowAt w N .i64 I.lv c.ls
  size : N + I.pS.length + 9 ≤ w.heap.size
  fz : w.frozen? ⟨N + 1, 0, none⟩ = false

theorem FixAt.stay {w w' : World} {c : Cx} {N sb vb sx vx : Nat} {I : Ins} {S : Nat → Prop} (h : FixAt w c N sb vb sx vx I) (hy : LayOK N I.pS.length sb vb sx vx) (ho : Only S w w') (hS : ∀ k, k < N + 2 ∨ k = sx ∨ k = vx → ¬ S k) : FixAt w' c N sb vb sx vx I := by
  have hs := h.size
  have hx := hy.x
  have hv := hy.y
  have c0 : ∀ o, w'.cell? ⟨N, o, none⟩ = w.cell? ⟨N, o, none⟩ := fun o => ho.cellAt (N) (o) (by omega) (hS N (by omega))
  have hr : ∀ k, k < N → ¬ S k := fun k hk => hS k (by omega)
  exact ⟨(c0 0).trans h.q, (c0 1).trans h.p, (c0 2).trans h.qt, (c0 3).trans h.pt, (c0 4).trans h.a0, (c0 5).trans h.a1, (c0 6).trans h.a2, (c0 7).trans h.l,
    (ho.cellAt (N + 1) (0) (by omega) (hS _ (by omega))).trans h.ans, (ho.cellAt (sx) (0) (by omega) (hS _ (by omega))).trans h.sx, (ho.cellAt (vx) (0) (by omega) (hS _ (by omega))).trans h.vx,
    h.rq.stay ho hr, h.rp.stay ho hr, h.rqt.stay ho hr, h.rpt.stay ho hr, h.rl.stay ho hr, Nat.le_trans hs ho.size, (ho.frozenAt (N + 1) 0 (by omega) (hS _ (by omega))).trans h.fz⟩

/-- answered at latency k -/
def total (c : Cx) (np : Nat) (O : Nat → St) (k : Nat) : Int := sumN (fun j => sumN (fun i => (O j).pc i k) c.qS.length) np

structure DynAt (w : World) (c : Cx) (N np sb vb : Nat) (O : Nat → St) : Prop where
  obj : ∀ j, j < np → ObjAt w (N + 2) (j * 3) (N + 3 + j) c.nn (O j).held (O j).giv (O j).tr
  sc : ∀ i, i < c.qS.length → ∀ j, j < np → w.cell? ⟨sb, i * np + j, none⟩ = some (.int .i64 ((O j).since i))
  vc : ∀ i, i < c.qS.length → ∀ j, j < np → w.cell? ⟨vb, i * np + j, none⟩ = some (.bool ((O j).served i))
  sf : ∀ k, w.frozen? ⟨sb, k, none⟩ = false
  vf : ∀ k, w.frozen? ⟨vb, k, none⟩ = false
  nums : NumsAt w (N + np + 7) c.ls.length (total c np O)

theorem ObjAt.stay {w w' : World} {ob oo hb nn : Nat} {held : Nat → Int} {giv tr : Int} {S : Nat → Prop} (h : ObjAt w ob oo hb nn held giv tr) (ho : Only S w w') (h1 : ob < w.heap.size) (h2 : hb < w.heap.size) (n1 : ¬ S ob) (n2 : ¬ S hb) : ObjAt w' ob oo hb nn held giv tr :=
  ⟨(ho.cell ⟨ob, oo, none⟩ h1 n1).trans h.c0, (ho.cell ⟨ob, oo + 1, none⟩ h1 n1).trans h.c1, (ho.cell ⟨ob, oo + 2, none⟩ h1 n1).trans h.c2, (ho.frozen ⟨ob, oo + 1, none⟩ h1 n1).trans h.f1, (ho.frozen ⟨ob, oo + 2, none⟩ h1 n1).trans h.f2,
    fun i hi => (ho.cell ⟨hb, i, none⟩ h2 n2).trans (h.hc i hi), fun i => (ho.frozen ⟨hb, i, none⟩ h2 n2).trans (h.hf i), h.ne⟩

theorem DynAt.stay {w w' : World} {c : Cx} {N np sb vb sx vx : Nat} {O : Nat → St} {S : Nat → Prop} (h : DynAt w c N np sb vb O) (hy : LayOK N np sb vb sx vx) (hz : N + np + 9 ≤ w.heap.size) (ho : Only S w w') (hS : ∀ k, N + 2 ≤ k → k < N + np + 8 → ¬ S k) : DynAt w' c N np sb vb O := by
  have h1 := hy.s
  have h2 := hy.v
  exact ⟨fun j hj => (h.obj j hj).stay ho (by omega) (by omega) (hS _ (by omega) (by omega)) (hS _ (by omega) (by omega)),
    fun i hi j hj => (ho.cellAt (sb) (i * np + j) (by omega) (hS _ (by omega) (by omega))).trans (h.sc i hi j hj),
    fun i hi j hj => (ho.cellAt (vb) (i * np + j) (by omega) (hS _ (by omega) (by omega))).trans (h.vc i hi j hj),
    fun k => (ho.frozenAt (sb) (k) (by omega) (hS _ (by omega) (by omega))).trans (h.sf k),
    fun k => (ho.frozenAt (vb) (k) (by omega) (hS _ (by omega) (by omega))).trans (h.vf k),
    h.nums.stay ho (hS _ (by omega) (by omega))⟩

/-- places of pairs -/
theorem pair_inj {np i j i' j' : Nat} (hj : j < np) (hj' : j' < np) (h : i * np + j = i' * np + j') : i = i' ∧ j = j' := by
  have h1 : (i * np + j) / np = i := by rw [Nat.mul_comm, Nat.mul_add_div (by omega), Nat.div_eq_of_lt hj]; omega
  have h2 : (i' * np + j') / np = i' := by rw [Nat.mul_comm, Nat.mul_add_div (by omega), Nat.div_eq_of_lt hj']; omega
  have e : i = i' := by rw [← h1, ← h2, h]
  subst e
  exact ⟨rfl, by omega⟩
theorem pair_lt {np nq i j : Nat} (hi : i < nq) (hj : j < np) : i * np + j < nq * np := by
  have : (i + 1) * np ≤ nq * np := Nat.mul_le_mul_right _ hi
  rw [Nat.add_mul] at this
  omega

/-- behind the pass of object j -/
theorem DynAt.touch {w w' : World} {c : Cx} {N np sb vb sx vx : Nat} {O : Nat → St} (h : DynAt w c N np sb vb O) (hy : LayOK N np sb vb sx vx) (hz : N + np + 9 ≤ w.heap.size) {j : Nat} (hj : j < np) {s : St} (ht : Touch (N + 2) (j * 3) (N + 3 + j) w w') (hob : ObjAt w' (N + 2) (j * 3) (N + 3 + j) c.nn s.held s.giv s.tr)
    (e1 : s.since = (O j).since) (e2 : s.served = (O j).served) (e3 : s.pc = (O j).pc) : DynAt w' c N np sb vb (fupd O j s) := by
  have h1 := hy.s
  have h2 := hy.v
  have ho := ht.only
  have keep : ∀ j', fupd O j s j' = if j' = j then s else O j' := fun _ => rfl
  refine ⟨fun j' hj' => ?_, fun i hi j' hj' => ?_, fun i hi j' hj' => ?_, fun k => (ho.frozenAt (sb) (k) (by omega) (by simp; omega)).trans (h.sf k), fun k => (ho.frozenAt (vb) (k) (by omega) (by simp; omega)).trans (h.vf k), ?_⟩
  · by_cases e : j' = j
    · subst e; rw [fupd_same]; exact hob
    · rw [fupd_other _ _ e]
      have o := h.obj j' hj'
      exact ⟨(ht.cell _ (by omega) (by omega)).trans o.c0, (ht.cell _ (by omega) (by omega)).trans o.c1, (ht.cell _ (by omega) (by omega)).trans o.c2, (ht.froz _).trans o.f1, (ht.froz _).trans o.f2,
        fun i hi => (ho.cellAt (N + 3 + j') (i) (by omega) (by simp; omega)).trans (o.hc i hi), fun i => (ho.frozenAt (N + 3 + j') (i) (by omega) (by simp; omega)).trans (o.hf i), o.ne⟩
  · refine (ho.cellAt (sb) (i * np + j') (by omega) (by simp; omega)).trans ((h.sc i hi j' hj').trans ?_)
    by_cases e : j' = j
    · subst e; rw [fupd_same, e1]
    · rw [fupd_other _ _ e]
  · refine (ho.cellAt (vb) (i * np + j') (by omega) (by simp; omega)).trans ((h.vc i hi j' hj').trans ?_)
    by_cases e : j' = j
    · subst e; rw [fupd_same, e2]
    · rw [fupd_other _ _ e]
  · have hn := h.nums.stay ho (by simp; omega)
    refine ⟨fun k hk => (hn.c k hk).trans ?_, hn.f, hn.lt⟩
    have : total c np (fupd O j s) k = total c np O k := by
      unfold total
      refine sumN_congr fun j' hj' => ?_
      by_cases e : j' = j
      · subst e; rw [fupd_same, e3]
      · rw [fupd_other _ _ e]
    rw [this]

/-- behind a tally of the pair (i, j) -/
theorem total_tally (c : Cx) (np : Nat) (O : Nat → St) {i j : Nat} (hi : i < c.qS.length) (hj : j < np) (pt to : Int) (k : Nat) : total c np (fupd O j (c.tally pt (O j) i to)) k = total c np O k + c.adds pt (O j) i to k := by
  unfold total
  have e : (fun j' => sumN (fun i' => (fupd O j (c.tally pt (O j) i to) j').pc i' k) c.qS.length) = fupd (fun j' => sumN (fun i' => (O j').pc i' k) c.qS.length) j (sumN (fun i' => (c.tally pt (O j) i to).pc i' k) c.qS.length) := by
    funext j'
    unfold fupd
    split <;> rfl
  have e2 : (fun i' => (c.tally pt (O j) i to).pc i' k) = fupd (fun i' => (O j).pc i' k) i ((O j).pc i k + c.adds pt (O j) i to k) := by
    funext i'
    unfold Cx.tally fupd
    simp only
    split
    · rfl
    · rfl
  rw [e, sumN_upd _ hj, e2, sumN_upd _ hi]
  omega
theorem DynAt.tallied {w w' : World} {c : Cx} {N np sb vb sx vx : Nat} {O : Nat → St} (h : DynAt w c N np sb vb O) (hy : LayOK N np sb vb sx vx) (hz : N + np + 9 ≤ w.heap.size) {i j : Nat} (hi : i < c.qS.length) (hj : j < np) {pt to : Int} (ho : Only (fun k => k = N + np + 7) w w')
    (hn : NumsAt w' (N + np + 7) c.ls.length (fun k => total c np O k + c.adds pt (O j) i to k)) : DynAt w' c N np sb vb (fupd O j (c.tally pt (O j) i to)) := by
  have h1 := hy.s
  have h2 := hy.v
  have same : ∀ j', (fupd O j (c.tally pt (O j) i to) j').held = (O j').held ∧ (fupd O j (c.tally pt (O j) i to) j').giv = (O j').giv ∧ (fupd O j (c.tally pt (O j) i to) j').tr = (O j').tr ∧ (fupd O j (c.tally pt (O j) i to) j').since = (O j').since ∧ (fupd O j (c.tally pt (O j) i to) j').served = (O j').served := by
    intro j'
    by_cases e : j' = j
    · subst e; rw [fupd_same]; exact ⟨rfl, rfl, rfl, rfl, rfl⟩
    · rw [fupd_other _ _ e]; exact ⟨rfl, rfl, rfl, rfl, rfl⟩
  refine ⟨fun j' hj' => ?_, fun i hi j' hj' => ?_, fun i hi j' hj' => ?_, fun k => (ho.frozenAt (sb) (k) (by omega) (by omega)).trans (h.sf k), fun k => (ho.frozenAt (vb) (k) (by omega) (by omega)).trans (h.vf k), ⟨fun k hk => (hn.c k hk).trans ?_, hn.f, hn.lt⟩⟩
  · obtain ⟨e1, e2, e3, _⟩ := same j'
    rw [e1, e2, e3]
    exact (h.obj j' hj').stay ho (by omega) (by omega) (by omega) (by omega)
  · rw [(same j').2.2.2.1]
    exact (ho.cellAt (sb) (i * np + j') (by omega) (by omega)).trans (h.sc i hi j' hj')
  · rw [(same j').2.2.2.2]
    exact (ho.cellAt (vb) (i * np + j') (by omega) (by omega)).trans (h.vc i hi j' hj')
  · rw [total_tally c np O hi hj]

theorem fupd_fupd {α : Type} (f : Nat → α) (i : Nat) (a b : α) : fupd (fupd f i a) i b = fupd f i b := by
  funext x
  unfold fupd
  split <;> rfl

/-- a store into since -/
theorem DynAt.set_since {w : World} {c : Cx} {N np sb vb sx vx : Nat} {O : Nat → St} (h : DynAt w c N np sb vb O) (hy : LayOK N np sb vb sx vx) (hz : N + np + 9 ≤ w.heap.size) {i j : Nat} (hi : i < c.qS.length) (hj : j < np) (k : Int) :
    DynAt (w.setCell ⟨sb, i * np + j, none⟩ (.int .i64 k)) c N np sb vb (fupd O j { O j with since := fupd (O j).since i k }) := by
  have h1 := hy.s
  have h2 := hy.v
  have hne := hy.ne
  have ho := Only.setCell w ⟨sb, i * np + j, none⟩ (.int .i64 k)
  have same : ∀ j', (fupd O j { O j with since := fupd (O j).since i k } j').held = (O j').held ∧ (fupd O j { O j with since := fupd (O j).since i k } j').giv = (O j').giv ∧ (fupd O j { O j with since := fupd (O j).since i k } j').tr = (O j').tr ∧ (fupd O j { O j with since := fupd (O j).since i k } j').served = (O j').served ∧ (fupd O j { O j with since := fupd (O j).since i k } j').pc = (O j').pc := by
    intro j'
    by_cases e : j' = j
    · subst e; rw [fupd_same]; exact ⟨rfl, rfl, rfl, rfl, rfl⟩
    · rw [fupd_other _ _ e]; exact ⟨rfl, rfl, rfl, rfl, rfl⟩
  have et : ∀ k', total c np (fupd O j { O j with since := fupd (O j).since i k }) k' = total c np O k' := fun k' => by
    unfold total
    exact sumN_congr fun j' _ => by rw [(same j').2.2.2.2]
  have hn := h.nums.stay ho (by show ¬ (N + np + 7 = sb); omega)
  refine ⟨fun j' hj' => ?_, fun i' hi' j' hj' => ?_, fun i' hi' j' hj' => ?_, fun k' => by simpa using h.sf k', fun k' => by simpa using h.vf k', ⟨fun k' hk => (hn.c k' hk).trans (by rw [et]), hn.f, hn.lt⟩⟩
  · obtain ⟨e1, e2, e3, _⟩ := same j'
    rw [e1, e2, e3]
    exact (h.obj j' hj').stay ho (by omega) (by omega) (by show ¬ (N + 2 = sb); omega) (by show ¬ (N + 3 + j' = sb); omega)
  · by_cases e : i' = i ∧ j' = j
    · obtain ⟨rfl, rfl⟩ := e
      rw [fupd_same]
      show _ = some (Value.int .i64 (fupd (O j').since i' k i'))
      rw [fupd_same]
      exact World.cell?_setCell_same' w _ _ (by rw [h.sc i' hi j' hj]; rfl)
    · have hne' : i' * np + j' ≠ i * np + j := fun e2 => e (pair_inj hj' hj e2)
      refine (World.cell?_setCell_other w _ _ _ ?_).trans ((h.sc i' hi' j' hj').trans ?_)
      · intro e3
        exact hne' (congrArg Addr.off e3).symm
      · by_cases ej : j' = j
        · subst ej
          rw [fupd_same]
          show _ = some (Value.int .i64 (fupd (O j').since i k i'))
          rw [fupd_other _ _ (fun ei => e ⟨ei, rfl⟩)]
        · rw [fupd_other _ _ ej]
  · rw [(same j').2.2.2.1]
    exact (ho.cellAt vb (i' * np + j') (by omega) (by show ¬ (vb = sb); omega)).trans (h.vc i' hi' j' hj')

/-- a store into served -/
theorem DynAt.set_served {w : World} {c : Cx} {N np sb vb sx vx : Nat} {O : Nat → St} (h : DynAt w c N np sb vb O) (hy : LayOK N np sb vb sx vx) (hz : N + np + 9 ≤ w.heap.size) {i j : Nat} (hi : i < c.qS.length) (hj : j < np) (r : Bool) :
    DynAt (w.setCell ⟨vb, i * np + j, none⟩ (.bool r)) c N np sb vb (fupd O j { O j with served := fupd (O j).served i r }) := by
  have h1 := hy.s
  have h2 := hy.v
  have hne := hy.ne
  have ho := Only.setCell w ⟨vb, i * np + j, none⟩ (.bool r)
  have same : ∀ j', (fupd O j { O j with served := fupd (O j).served i r } j').held = (O j').held ∧ (fupd O j { O j with served := fupd (O j).served i r } j').giv = (O j').giv ∧ (fupd O j { O j with served := fupd (O j).served i r } j').tr = (O j').tr ∧ (fupd O j { O j with served := fupd (O j).served i r } j').since = (O j').since ∧ (fupd O j { O j with served := fupd (O j).served i r } j').pc = (O j').pc := by
    intro j'
    by_cases e : j' = j
    · subst e; rw [fupd_same]; exact ⟨rfl, rfl, rfl, rfl, rfl⟩
    · rw [fupd_other _ _ e]; exact ⟨rfl, rfl, rfl, rfl, rfl⟩
  have et : ∀ k', total c np (fupd O j { O j with served := fupd (O j).served i r }) k' = total c np O k' := fun k' => by
    unfold total
    exact sumN_congr fun j' _ => by rw [(same j').2.2.2.2]
  have hn := h.nums.stay ho (by show ¬ (N + np + 7 = vb); omega)
  refine ⟨fun j' hj' => ?_, fun i' hi' j' hj' => ?_, fun i' hi' j' hj' => ?_, fun k' => by simpa using h.sf k', fun k' => by simpa using h.vf k', ⟨fun k' hk => (hn.c k' hk).trans (by rw [et]), hn.f, hn.lt⟩⟩
  · obtain ⟨e1, e2, e3, _⟩ := same j'
    rw [e1, e2, e3]
    exact (h.obj j' hj').stay ho (by omega) (by omega) (by show ¬ (N + 2 = vb); omega) (by show ¬ (N + 3 + j' = vb); omega)
  · rw [(same j').2.2.2.1]
    exact (ho.cellAt sb (i' * np + j') (by omega) (by show ¬ (sb = vb); omega)).trans (h.sc i' hi' j' hj')
  · by_cases e : i' = i ∧ j' = j
    · obtain ⟨rfl, rfl⟩ := e
      rw [fupd_same]
      show _ = some (Value.bool (fupd (O j').served i' r i'))
      rw [fupd_same]
      exact World.cell?_setCell_same' w _ _ (by rw [h.vc i' hi j' hj]; rfl)
    · have hne' : i' * np + j' ≠ i * np + j := fun e2 => e (pair_inj hj' hj e2)
      refine (World.cell?_setCell_other w _ _ _ ?_).trans ((h.vc i' hi' j' hj').trans ?_)
      · intro e3
        exact hne' (congrArg Addr.off e3).symm
      · by_cases ej : j' = j
        · subst ej
          rw [fupd_same]
          show _ = some (Value.bool (fupd (O j').served i r i'))
          rw [fupd_other _ _ (fun ei => e ⟨ei, rfl⟩)]
        · rw [fupd_other _ _ ej]

/-- behind the tally and both stores -/
theorem DynAt.turned {w : World} {c : Cx} {N np sb vb sx vx : Nat} {O : Nat → St} {i j : Nat} {pt k : Int} (h : DynAt w c N np sb vb (fupd O j (c.tally pt (O j) i k))) (hy : LayOK N np sb vb sx vx) (hz : N + np + 9 ≤ w.heap.size) (hi : i < c.qS.length) (hj : j < np) (r : Bool) :
    DynAt ((w.setCell ⟨sb, i * np + j, none⟩ (.int .i64 k)).setCell ⟨vb, i * np + j, none⟩ (.bool r)) c N np sb vb (fupd O j (c.turn pt (O j) i k r)) := by
  have h2 := (h.set_since hy hz hi hj k).set_served hy (by simpa using hz) hi hj r
  rw [fupd_fupd, fupd_same, fupd_same, fupd_fupd] at h2
  exact h2
end Go.Proofs.Qxb6612920a.spray
