import Derived.Test.Qxb6612920aRuns
namespace Go.Proofs.Qxb6612920a.spray

/-- what DomainOK grants, but for the publishers -/
structure CxOK (c : Cx) : Prop where
  nn : c.nn ≤ 4096
  cop : -9223372036854775808 ≤ c.copies ∧ c.copies ≤ 9223372036854775807
  nq : c.qS.length ≤ 4096
  nqT : c.qT.length = c.qS.length
  q : ∀ i, i < c.qS.length → 0 ≤ c.qS.getD i 0 ∧ c.qS.getD i 0 < c.nn
  qT : ∀ i, i < c.qS.length → 0 ≤ c.qT.getD i 0 ∧ c.qT.getD i 0 ≤ 1024
  nl : c.ls.length ≤ 4096
  ls : ∀ k, k < c.ls.length → 0 ≤ c.ls.getD k 0 ∧ c.ls.getD k 0 ≤ 1073741824
  af : 0 ≤ c.af ∧ c.af ≤ 1073741824
  ae : 1 ≤ c.ae ∧ c.ae ≤ 65536
  an : 0 ≤ c.an ∧ c.an ≤ 65536
  nf : 1 ≤ c.first.length
  f0 : c.first.getD 0 0 = 0
  fup : ∀ s, s + 1 < c.first.length → c.first.getD s 0 < c.first.getD (s + 1) 0
  fle : ∀ s, s < c.first.length → 0 ≤ c.first.getD s 0 ∧ c.first.getD s 0 ≤ 1073741824
  nch : c.chg.length = c.first.length
  chg : ∀ s, s < c.first.length → ∀ k, k < (c.chg.getD s []).length → GoodP c.nn ((c.chg.getD s []).getD k (0, 0))

theorem Ls_inv {c : Cx} (h : CxOK c) : ∀ s, s ≤ c.first.length → LInv c.nn (c.Ls s)
  | 0, _ => ⟨fun _ => List.Pairwise.nil, fun _ _ hb => by simp [Cx.Ls] at hb, fun _ _ hb => by simp [Cx.Ls] at hb⟩
  | s + 1, hs => linkTo_inv (Ls_inv h s (by omega)) (h.chg s (by omega)) _ (Nat.le_refl _)

theorem start_gt {c : Cx} (h : CxOK c) {s : Nat} (hs : s < c.first.length) : c.first.getD s 0 < c.start (s + 1) ∧ c.start (s + 1) ≤ never := by
  unfold Cx.start
  have h1 := h.fle s hs
  split
  · rename_i h2
    have := h.fup s h2
    have := (h.fle (s + 1) h2).2
    unfold never; omega
  · unfold never; omega

/-! ### The copies -/
def Hold (c : Cx) (s : St) : Prop := (1 < c.copies → HInv c.nn c.copies s.held s.giv s.tr) ∧ (¬ 1 < c.copies → s.giv = 0 ∧ s.tr = 0)
theorem hold_passed {c : Cx} {L : Int → List Int} {s : St} (hL : InR c.nn L) (h : Hold c s) : Hold c (c.passed L s) := by
  refine ⟨fun h1 => passF_inv hL (h.1 h1), fun h1 => ?_⟩
  obtain ⟨h2, h3⟩ := h.2 h1
  have e : passF L c.nn s.held s.giv s.tr = ⟨false, s.held, s.giv, s.tr⟩ := if_pos h2
  unfold Cx.passed
  rw [e]
  exact ⟨h2, h3⟩
theorem hold_moved {c : Cx} {L : Int → List Int} {s : St} (h : Hold c s) (hm : (passF L c.nn s.held s.giv s.tr).moved = true) : 1 < c.copies ∧ s.tr < (c.passed L s).tr := by
  by_cases h1 : 1 < c.copies
  · exact ⟨h1, (passF_grew L c.nn s.held s.giv s.tr).2 hm⟩
  · have e : passF L c.nn s.held s.giv s.tr = ⟨false, s.held, s.giv, s.tr⟩ := if_pos (h.2 h1).1
    rw [e] at hm
    cases hm
theorem hold_tr {c : Cx} {s : St} (h : Hold c s) (hn : 1 ≤ c.nn) : 0 ≤ s.tr ∧ s.tr ≤ c.nn - 1 := by
  by_cases h1 : 1 < c.copies
  · have h2 := h.1 h1
    have := h2.cP
    have := cntP_le s.held c.nn
    have := h2.t0
    omega
  · have := (h.2 h1).2
    omega

/-! ### Times and tallies -/
structure Tal (c : Cx) (pt K : Int) (s : St) : Prop where
  since : ∀ i, i < c.qS.length → 0 ≤ s.since i ∧ s.since i ≤ K
  pc : ∀ i, i < c.qS.length → ∀ k, k < c.ls.length → 0 ≤ s.pc i k ∧ s.pc i k ≤ c.qT.getD i 0 * pt * belowF c.af c.ae c.an (s.since i)

theorem Tal.mono {c : Cx} {pt K K' : Int} {s : St} (h : Tal c pt K s) (hK : K ≤ K') : Tal c pt K' s :=
  ⟨fun i hi => ⟨(h.since i hi).1, Int.le_trans (h.since i hi).2 hK⟩, h.pc⟩
theorem adds_bounds {c : Cx} (h : CxOK c) {pt : Int} (hpt : 0 ≤ pt) (s : St) {i : Nat} (hi : i < c.qS.length) {to : Int} (ht : s.since i ≤ to) (k : Nat) :
    0 ≤ c.adds pt s i to k ∧ c.adds pt s i to k ≤ c.qT.getD i 0 * pt * (belowF c.af c.ae c.an to - belowF c.af c.ae c.an (s.since i)) := by
  have hw : 0 ≤ c.qT.getD i 0 * pt := Int.mul_nonneg (h.qT i hi).1 hpt
  unfold Cx.adds addF
  have hb := within_bounds (f := c.af) (e := c.ae) (n := c.an) (lo := max (s.since i) ((if s.served i then s.since i else to) - c.ls.getD k 0)) (hi := to) (from' := s.since i) h.ae.1 h.an.1 (by omega) ht
  exact ⟨Int.mul_nonneg hw hb.1, Int.mul_le_mul_of_nonneg_left hb.2 hw⟩

theorem tal_turn {c : Cx} (h : CxOK c) {pt : Int} (hpt : 0 ≤ pt) {s : St} {i : Nat} (hi : i < c.qS.length) {K : Int} (ht : Tal c pt K s) (now : Bool) : Tal c pt K (c.turn pt s i K now) := by
  have hs := ht.since i hi
  refine ⟨fun j hj => ?_, fun j hj k hk => ?_⟩
  · show 0 ≤ fupd s.since i K j ∧ fupd s.since i K j ≤ K
    by_cases e : j = i
    · subst e; rw [fupd_same]; omega
    · rw [fupd_other _ _ e]; exact ht.since j hj
  · show 0 ≤ fupd s.pc i _ j k ∧ fupd s.pc i _ j k ≤ c.qT.getD j 0 * pt * belowF c.af c.ae c.an (fupd s.since i K j)
    by_cases e : j = i
    · subst e
      rw [fupd_same, fupd_same]
      have hb := adds_bounds h hpt s hi hs.2 k
      have hp := ht.pc j hi k hk
      have e2 : c.qT.getD j 0 * pt * belowF c.af c.ae c.an K = c.qT.getD j 0 * pt * belowF c.af c.ae c.an (s.since j) + c.qT.getD j 0 * pt * (belowF c.af c.ae c.an K - belowF c.af c.ae c.an (s.since j)) := by
        rw [← Int.mul_add]; congr 1; omega
      rw [e2]
      omega
    · rw [fupd_other _ _ e, fupd_other _ _ e]
      exact ht.pc j hj k hk
theorem tal_serve {c : Cx} (h : CxOK c) {pt : Int} (hpt : 0 ≤ pt) {L : Int → List Int} {s : St} {i : Nat} (hi : i < c.qS.length) {K : Int} (ht : Tal c pt K s) : Tal c pt K (c.serve pt L K s i) := by
  unfold Cx.serve
  split
  · exact ht
  · exact tal_turn h hpt hi ht _
theorem tal_serveTo {c : Cx} (h : CxOK c) {pt : Int} (hpt : 0 ≤ pt) {L : Int → List Int} {s : St} {K : Int} (ht : Tal c pt K s) : ∀ i, i ≤ c.qS.length → Tal c pt K (c.serveTo pt L K s i)
  | 0, _ => ht
  | i + 1, hi => tal_serve h hpt (by omega) (tal_serveTo h hpt ht i (by omega))
theorem tal_passed {c : Cx} {pt K : Int} {L : Int → List Int} {s : St} (ht : Tal c pt K s) : Tal c pt K (c.passed L s) := ⟨ht.since, ht.pc⟩

theorem serve_held (c : Cx) (pt : Int) (L : Int → List Int) (k : Int) (s : St) (i : Nat) : (c.serve pt L k s i).held = s.held ∧ (c.serve pt L k s i).giv = s.giv ∧ (c.serve pt L k s i).tr = s.tr := by
  unfold Cx.serve
  split <;> exact ⟨rfl, rfl, rfl⟩
theorem serveTo_held (c : Cx) (pt : Int) (L : Int → List Int) (k : Int) (s : St) : ∀ i, (c.serveTo pt L k s i).held = s.held ∧ (c.serveTo pt L k s i).giv = s.giv ∧ (c.serveTo pt L k s i).tr = s.tr
  | 0 => ⟨rfl, rfl, rfl⟩
  | i + 1 => by
    have h := serveTo_held c pt L k s i
    have h2 := serve_held c pt L k (c.serveTo pt L k s i) i
    exact ⟨h2.1.trans h.1, h2.2.1.trans h.2.1, h2.2.2.trans h.2.2⟩
theorem hold_serveTo {c : Cx} {pt : Int} {L : Int → List Int} {k : Int} {s : St} (h : Hold c s) (i : Nat) : Hold c (c.serveTo pt L k s i) := by
  obtain ⟨e1, e2, e3⟩ := serveTo_held c pt L k s i
  unfold Hold
  rw [e1, e2, e3]
  exact h

structure SInv (c : Cx) (pt K : Int) (s : St) : Prop where
  hold : Hold c s
  tal : Tal c pt K s
theorem sinv_sample {c : Cx} (h : CxOK c) {pt : Int} (hpt : 0 ≤ pt) {L : Int → List Int} (hL : InR c.nn L) {s : St} {K : Int} (hs : SInv c pt K s) : SInv c pt K (c.sample pt L K s) :=
  ⟨hold_serveTo (hold_passed hL hs.hold) _, tal_serveTo h hpt (tal_passed hs.tal) _ (Nat.le_refl _)⟩
theorem sample_tr (c : Cx) (pt : Int) (L : Int → List Int) (k : Int) (s : St) : (c.sample pt L k s).tr = (c.passed L s).tr := (serveTo_held c pt L k (c.passed L s) c.qS.length).2.2

/-- there are samples enough -/
def Enough (c : Cx) (m : Nat) (s : St) : Prop := 1 ≤ m ∧ (1 < c.copies → c.nn + 1 ≤ s.tr + m)
theorem enough_next {c : Cx} {pt : Int} {L : Int → List Int} (hL : InR c.nn L) {s : St} {k : Int} {m : Nat} (hh : Hold c s) (he : Enough c (m + 1) s) (hm : ¬ (passF L c.nn s.held s.giv s.tr).moved = false) : Enough c m (c.sample pt L k s) := by
  have hm' : (passF L c.nn s.held s.giv s.tr).moved = true := by simpa using hm
  obtain ⟨h1, h2⟩ := hold_moved hh hm'
  have h3 := he.2 h1
  have h4 := hold_passed hL hh
  have h5 := (h4.1 h1).cP
  have h6 := cntP_le (c.passed L s).held c.nn
  refine ⟨?_, fun _ => ?_⟩
  · omega
  · rw [sample_tr]; omega

theorem span_inv {c : Cx} (h : CxOK c) {pt : Int} (hpt : 0 ≤ pt) {L : Int → List Int} (hL : InR c.nn L) {en : Int} : ∀ (m : Nat) (k : Int) (s : St), k < en → SInv c pt k s → Enough c m s → ∃ K, k ≤ K ∧ K < en ∧ K < k + m ∧ SInv c pt K (c.span pt L en m k s)
  | 0, _, _, _, _, he => absurd he.1 (by omega)
  | m + 1, k, s, hk, hs, he => by
    unfold Cx.span
    split
    · exact ⟨k, Int.le_refl _, hk, by omega, sinv_sample h hpt hL hs⟩
    · rename_i hc
      have hc1 : ¬ (passF L c.nn s.held s.giv s.tr).moved = false := fun e => hc (Or.inl e)
      have hc2 : ¬ k + 1 = en := fun e => hc (Or.inr e)
      have hs2 : SInv c pt k (c.sample pt L k s) := sinv_sample h hpt hL hs
      obtain ⟨K, h1, h2, h3, h4⟩ := span_inv (en := en) h hpt hL m (k + 1) (c.sample pt L k s) (by omega) ⟨hs2.hold, hs2.tal.mono (by omega)⟩ (enough_next hL hs.hold he hc1)
      exact ⟨K, by omega, h2, by omega, h4⟩

/-! ### The start -/
theorem sumN_one {p nn : Nat} (hp : p < nn) (v : Int) : sumN (fupd (fun _ => 0) p v) nn = v := by
  rw [sumN_upd v hp, sumN_zero]; omega
theorem init_inv {c : Cx} (h : CxOK c) {pt : Int} {p : Nat} (hp : p < c.nn) : SInv c pt 0 (c.init p) := by
  refine ⟨⟨fun h1 => ⟨fun i _ => ?_, sumN_one hp _, ?_, ?_, Int.le_refl _⟩, fun h1 => ⟨if_neg h1, rfl⟩⟩, ⟨fun i _ => ⟨Int.le_refl _, Int.le_refl _⟩, fun i _ k _ => ⟨Int.le_refl _, ?_⟩⟩⟩
  · show 0 ≤ fupd (fun _ => 0) p c.copies i
    by_cases e : i = p
    · subst e; rw [fupd_same]; omega
    · rw [fupd_other _ _ e]; exact Int.le_refl _
  · show cntP (fupd (fun _ => 0) p c.copies) c.nn = 0 + 1
    unfold cntP
    rw [cnt_upd pos _ _ hp]
    have p1 : pos c.copies = 1 := if_pos (by omega)
    have p0 : pos 0 = 0 := if_neg (by omega)
    rw [p1, p0, sumN_zero]; rfl
  · show cntM (fupd (fun _ => 0) p c.copies) c.nn = (if 1 < c.copies then 1 else 0)
    unfold cntM
    rw [cnt_upd many _ _ hp]
    have p1 : many c.copies = 1 := if_pos (by omega)
    have p0 : many 0 = 0 := if_neg (by omega)
    rw [p1, p0, sumN_zero, if_pos h1]; rfl
  · show (0 : Int) ≤ c.qT.getD i 0 * pt * belowF c.af c.ae c.an 0
    have e : belowF c.af c.ae c.an 0 = 0 := if_pos h.af.1
    rw [e]; simp

theorem enough_start {c : Cx} {s : St} (h : Hold c s) (hn : 1 ≤ c.nn) : Enough c (c.nn + 1) s := ⟨by omega, fun _ => by have := (hold_tr h hn).1; omega⟩

/-- how far the times have come behind s spans -/
def Cx.upTo (c : Cx) (s : Nat) (K : Int) : Prop := 0 ≤ K ∧ K ≤ 1073750000 ∧ (s < c.first.length → K ≤ c.first.getD s 0)
theorem run_inv {c : Cx} (h : CxOK c) {pt : Int} (hpt : 0 ≤ pt) {p : Nat} (hp : p < c.nn) : ∀ s, s ≤ c.first.length → ∃ K, c.upTo s K ∧ SInv c pt K (c.runTo p pt s)
  | 0, _ => ⟨0, ⟨Int.le_refl _, by omega, fun _ => by rw [h.f0]; exact Int.le_refl _⟩, init_inv h hp⟩
  | s + 1, hs => by
    obtain ⟨K, hK, hi⟩ := run_inv h hpt hp s (by omega)
    have hf := h.fle s (by omega)
    have hst := start_gt h (s := s) (by omega)
    obtain ⟨K2, h1, h2, h3, h4⟩ := span_inv h hpt (Ls_inv h (s + 1) hs).inr (c.nn + 1) (c.first.getD s 0) (c.runTo p pt s) hst.1 ⟨hi.hold, hi.tal.mono (hK.2.2 (by omega))⟩ (enough_start hi.hold (by omega))
    have hnn := h.nn
    refine ⟨K2, ⟨by omega, by omega, fun h5 => ?_⟩, h4⟩
    have e : c.start (s + 1) = c.first.getD (s + 1) 0 := if_pos h5
    omega
end Go.Proofs.Qxb6612920a.spray
