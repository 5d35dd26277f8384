import Derived.Test.Qxb6612920aEnds
import Derived.Test.Qxb6612920aShape
namespace Go.Proofs.Qxb6612920a.spray

/-! ### The transfers of one object -/
theorem cntP_le_sum (held : Nat → Int) : ∀ n, (∀ i, i < n → 0 ≤ held i) → cntP held n ≤ sumN held n := by
  intro n h
  unfold cntP
  refine sumN_le fun i hi => ?_
  have := h i hi
  unfold pos
  split <;> omega
theorem fin_tr {c : Cx} (h : CxOK c) {pt : Int} (hpt : 0 ≤ pt) {p : Nat} (hp : p < c.nn) : 0 ≤ (c.fin p pt).tr ∧ (c.fin p pt).tr ≤ (c.nn : Int) - 1 ∧ (¬ 1 < c.copies → (c.fin p pt).tr = 0) ∧ (1 < c.copies → (c.fin p pt).tr ≤ c.copies - 1) := by
  obtain ⟨K, _, hi⟩ := run_inv h hpt hp c.first.length (Nat.le_refl _)
  have e : (c.fin p pt).tr = (c.runTo p pt c.first.length).tr := (finTo_same c pt _ _).2.2.1
  rw [e]
  have h1 := hold_tr hi.hold (by omega)
  refine ⟨h1.1, h1.2, fun hc => (hi.hold.2 hc).2, fun hc => ?_⟩
  have h2 := hi.hold.1 hc
  have h3 := cntP_le_sum _ c.nn h2.nonneg
  have := h2.cP
  have := h2.sum
  omega

theorem fin_bnd {c : Cx} (h : CxOK c) {pt : Int} (hpt : 0 ≤ pt) {p : Nat} (hp : p < c.nn) : Bnd c pt (c.fin p pt) := by
  obtain ⟨K, hK, hi⟩ := run_inv h hpt hp c.first.length (Nat.le_refl _)
  exact finTo_bnd h hpt hi.tal (by have := hK.2.1; unfold never; omega) _ (Nat.le_refl _)

/-! ### A querier that is the publisher -/
structure Mine (p i : Nat) (s : St) : Prop where
  held : 0 < s.held p
  since : s.since i = 0
  pc : ∀ k, s.pc i k = 0
theorem mine_serve {c : Cx} {pt : Int} {L : Int → List Int} {K : Int} {s : St} {p i i' : Nat} (hq : (c.qS.getD i 0).toNat = p) (hm : Mine p i s) (hv : s.served i = true ∨ K = 0) :
    Mine p i (c.serve pt L K s i') ∧ (s.served i = true ∨ i' = i → (c.serve pt L K s i').served i = true) := by
  by_cases e : i' = i
  · subst e
    have hs : servesF L s.held (c.qS.getD i' 0).toNat = true := by
      rw [hq]; unfold servesF; simp [hm.held]
    unfold Cx.serve
    rw [hs]
    by_cases hv2 : s.served i' = true
    · rw [if_pos hv2.symm]
      exact ⟨hm, fun _ => hv2⟩
    · have hK : K = 0 := by
        rcases hv with h | h
        · exact absurd h hv2
        · exact h
      subst hK
      rw [if_neg (fun h => hv2 h.symm)]
      refine ⟨⟨hm.held, ?_, fun k => ?_⟩, fun _ => ?_⟩
      · show fupd s.since i' 0 i' = 0
        rw [fupd_same]
      · show fupd s.pc i' _ i' k = 0
        rw [fupd_same, hm.pc]
        unfold Cx.adds addF withinF
        rw [hm.since, if_pos (by omega)]
        simp
      · show fupd s.served i' true i' = true
        rw [fupd_same]
  · have hne : i ≠ i' := fun h => e h.symm
    unfold Cx.serve
    split
    · refine ⟨hm, fun h => ?_⟩
      rcases h with h | h
      · exact h
      · exact absurd h e
    · refine ⟨⟨hm.held, ?_, fun k => ?_⟩, fun h => ?_⟩
      · show fupd s.since i' K i = 0
        rw [fupd_other _ _ hne]; exact hm.since
      · show fupd s.pc i' _ i k = 0
        rw [fupd_other _ _ hne]; exact hm.pc k
      · show fupd s.served i' _ i = true
        rw [fupd_other _ _ hne]
        rcases h with h | h
        · exact h
        · exact absurd h e
theorem mine_serveTo {c : Cx} {pt : Int} {L : Int → List Int} {K : Int} {s : St} {p i : Nat} (hq : (c.qS.getD i 0).toNat = p) (hm : Mine p i s) (hv : s.served i = true ∨ K = 0) :
    ∀ n, Mine p i (c.serveTo pt L K s n) ∧ (s.served i = true ∨ i < n → (c.serveTo pt L K s n).served i = true)
  | 0 => ⟨hm, fun h => by
      rcases h with h | h
      · exact h
      · omega⟩
  | n + 1 => by
    have ih := mine_serveTo (pt := pt) (L := L) hq hm hv n
    have hv2 : (c.serveTo pt L K s n).served i = true ∨ K = 0 := by
      rcases hv with h | h
      · exact Or.inl (ih.2 (Or.inl h))
      · exact Or.inr h
    have st := mine_serve (pt := pt) (L := L) (i' := n) hq ih.1 hv2
    refine ⟨st.1, fun h => st.2 ?_⟩
    rcases h with h | h
    · exact Or.inl (ih.2 (Or.inl h))
    · by_cases e : n = i
      · exact Or.inr e
      · exact Or.inl (ih.2 (Or.inr (by omega)))
theorem mine_sample {c : Cx} {pt : Int} {L : Int → List Int} {K : Int} {s : St} {p i : Nat} (hi : i < c.qS.length) (hq : (c.qS.getD i 0).toNat = p) (hm : Mine p i s) (hv : s.served i = true ∨ K = 0) :
    Mine p i (c.sample pt L K s) ∧ (c.sample pt L K s).served i = true := by
  have hm2 : Mine p i (c.passed L s) := ⟨passF_keeps L c.nn s.held s.giv s.tr p hm.held, hm.since, hm.pc⟩
  have h := mine_serveTo (pt := pt) (L := L) (K := K) hq hm2 hv c.qS.length
  exact ⟨h.1, h.2 (Or.inr hi)⟩
theorem mine_span {c : Cx} {pt : Int} {L : Int → List Int} {en : Int} {p i : Nat} (hi : i < c.qS.length) (hq : (c.qS.getD i 0).toNat = p) : ∀ (m : Nat) (K : Int) (s : St), Mine p i s → (s.served i = true ∨ K = 0) → Mine p i (c.span pt L en (m + 1) K s) ∧ (c.span pt L en (m + 1) K s).served i = true
  | 0, K, s, hm, hv => by
    have h := mine_sample (pt := pt) (L := L) hi hq hm hv
    unfold Cx.span
    split
    · exact h
    · exact h
  | m + 1, K, s, hm, hv => by
    have h := mine_sample (pt := pt) (L := L) hi hq hm hv
    unfold Cx.span
    split
    · exact h
    · exact mine_span hi hq m (K + 1) _ h.1 (Or.inl h.2)
theorem mine_run {c : Cx} (h : CxOK c) {pt : Int} {p i : Nat} (hi : i < c.qS.length) (hq : (c.qS.getD i 0).toNat = p) (hc : 1 ≤ c.copies) : ∀ s, Mine p i (c.runTo p pt s) ∧ (1 ≤ s → (c.runTo p pt s).served i = true)
  | 0 => by
    refine ⟨⟨?_, rfl, fun _ => rfl⟩, fun h => by omega⟩
    show 0 < fupd (fun _ => 0) p c.copies p
    rw [fupd_same]; omega
  | s + 1 => by
    have ih := mine_run h (pt := pt) hi hq hc s
    have hv : (c.runTo p pt s).served i = true ∨ c.first.getD s 0 = 0 := by
      by_cases e : s = 0
      · subst e; exact Or.inr h.f0
      · exact Or.inl (ih.2 (by omega))
    have := mine_span (pt := pt) (L := c.Ls (s + 1)) (en := c.start (s + 1)) hi hq c.nn (c.first.getD s 0) _ ih.1 hv
    exact ⟨this.1, fun _ => this.2⟩
theorem below_never {c : Cx} (h : CxOK c) : belowF c.af c.ae c.an never = c.an := by
  have h1 := h.af
  have h2 := h.ae
  have h3 := h.an
  unfold belowF
  rw [if_neg (by unfold never; omega)]
  have h4 : 65536 ≤ ceilF (never - c.af) c.ae := by
    have h5 : 65536 ≤ (never - c.af) / c.ae := by
      rw [Int.le_ediv_iff_mul_le (by omega)]
      have : 65536 * c.ae ≤ 65536 * 65536 := by omega
      unfold never; omega
    unfold ceilF
    split <;> omega
  omega
theorem fin_self {c : Cx} (h : CxOK c) {pt : Int} {p i : Nat} (hi : i < c.qS.length) (hq : (c.qS.getD i 0).toNat = p) (hc : 1 ≤ c.copies) {k : Nat} (hk : k < c.ls.length) : (c.fin p pt).pc i k = c.qT.getD i 0 * pt * c.an := by
  obtain ⟨hm, hv⟩ := mine_run h (pt := pt) hi hq hc c.first.length
  have hv := hv h.nf
  unfold Cx.fin
  generalize c.runTo p pt c.first.length = s at *
  have key : ∀ n, i < n → (c.finTo pt s n).pc i k = c.qT.getD i 0 * pt * c.an := by
    intro n
    induction n with
    | zero => intro h; omega
    | succ n ih =>
      intro hn
      have hsm := finTo_same c pt s n
      unfold Cx.finTo
      by_cases e : n = i
      · subst e
        rw [hsm.2.2.2.2, if_pos hv]
        show fupd (c.finTo pt s n).pc n (fun k => (c.finTo pt s n).pc n k + c.adds pt (c.finTo pt s n) n never k) n k = _
        rw [fupd_same, finTo_later c pt s n (Nat.le_refl _), hm.pc]
        unfold Cx.adds addF withinF
        rw [hsm.2.2.2.2, hsm.2.2.2.1, hv, hm.since]
        have hl := h.ls k hk
        simp only [if_true]
        rw [if_neg (by unfold never; omega), show max (0 : Int) (0 - c.ls.getD k 0) = 0 from by omega, below_never h]
        have e0 : belowF c.af c.ae c.an 0 = 0 := if_pos h.af.1
        rw [e0]
        simp
      · split
        · show fupd (c.finTo pt s n).pc n (fun k => (c.finTo pt s n).pc n k + c.adds pt (c.finTo pt s n) n never k) i k = _
          rw [fupd_other _ _ (fun e2 => e e2.symm)]
          exact ih (by omega)
        · exact ih (by omega)
  exact key _ hi

/-! ### No copies -/
structure Bare (s : St) : Prop where
  held : ∀ x, s.held x ≤ 0
  giv : s.giv = 0
  served : ∀ i, s.served i = false
  pc : ∀ i k, s.pc i k = 0
theorem bare_passed {c : Cx} {L : Int → List Int} {s : St} (h : Bare s) : Bare (c.passed L s) := by
  have e : passF L c.nn s.held s.giv s.tr = ⟨false, s.held, s.giv, s.tr⟩ := if_pos h.giv
  unfold Cx.passed
  rw [e]
  exact ⟨h.held, h.giv, h.served, h.pc⟩
theorem bare_serve {c : Cx} {pt : Int} {L : Int → List Int} {K : Int} {s : St} (h : Bare s) (i : Nat) : c.serve pt L K s i = s := by
  have hs : servesF L s.held (c.qS.getD i 0).toNat = false := by
    unfold servesF
    rw [Bool.or_eq_false_iff]
    refine ⟨decide_eq_false (by have := h.held (c.qS.getD i 0).toNat; omega), ?_⟩
    rw [List.any_eq_false]
    intro b _
    have := h.held b.toNat
    simp; omega
  unfold Cx.serve
  rw [hs, if_pos (h.served i).symm]
theorem bare_serveTo {c : Cx} {pt : Int} {L : Int → List Int} {K : Int} {s : St} (h : Bare s) : ∀ n, c.serveTo pt L K s n = s
  | 0 => rfl
  | n + 1 => by
    show c.serve pt L K (c.serveTo pt L K s n) n = s
    rw [bare_serveTo h n]
    exact bare_serve h n
theorem bare_span {c : Cx} {pt : Int} {L : Int → List Int} {en : Int} : ∀ (m : Nat) (K : Int) (s : St), Bare s → Bare (c.span pt L en m K s)
  | 0, _, _, h => h
  | m + 1, K, s, h => by
    have h2 : Bare (c.sample pt L K s) := by
      unfold Cx.sample
      rw [bare_serveTo (bare_passed h)]
      exact bare_passed h
    unfold Cx.span
    split
    · exact h2
    · exact bare_span m (K + 1) _ h2
theorem bare_run {c : Cx} {pt : Int} {p : Nat} (hc : c.copies < 1) : ∀ s, Bare (c.runTo p pt s)
  | 0 => by
    refine ⟨fun x => ?_, if_neg (by omega), fun _ => rfl, fun _ _ => rfl⟩
    show fupd (fun _ => 0) p c.copies x ≤ 0
    by_cases e : x = p
    · subst e; rw [fupd_same]; omega
    · rw [fupd_other _ _ e]; exact Int.le_refl _
  | s + 1 => bare_span _ _ _ (bare_run hc s)
theorem fin_none {c : Cx} {pt : Int} {p : Nat} (hc : c.copies < 1) (i k : Nat) : (c.fin p pt).pc i k = 0 := by
  have h := bare_run (pt := pt) (p := p) hc c.first.length
  unfold Cx.fin
  generalize c.runTo p pt c.first.length = s at *
  have key : ∀ n, c.finTo pt s n = s := by
    intro n
    induction n with
    | zero => rfl
    | succ n ih =>
      unfold Cx.finTo
      rw [ih, h.served n]
      rfl
  rw [key]
  exact h.pc i k

/-! ### The sums -/
theorem sumN_comm (f : Nat → Nat → Int) (m : Nat) : ∀ n, sumN (fun i => sumN (fun j => f i j) m) n = sumN (fun j => sumN (fun i => f i j) n) m
  | 0 => (sumN_zero m).symm
  | n + 1 => by
    show sumN (fun i => sumN (fun j => f i j) m) n + sumN (fun j => f n j) m = sumN (fun j => sumN (fun i => f i j) n + f n j) m
    rw [sumN_comm f m n, sumN_add]
theorem answers_bounds {c : Cx} (h : CxOK c) {I : Ins} (hp : ∀ j, j < I.pS.length → 0 ≤ I.pS.getD j 0 ∧ I.pS.getD j 0 < c.nn) (hpt : ∀ j, j < I.pS.length → 0 ≤ I.pT.getD j 0 ∧ I.pT.getD j 0 ≤ 1024) {k : Nat} (hk : k < c.ls.length) :
    selfB c.copies c.qS I.pS c.qT I.pT c.an ≤ total c I.pS.length (c.finOf I) k ∧ total c I.pS.length (c.finOf I) k ≤ totalB c.qS I.pS c.qT I.pT c.an ∧ (c.copies < 1 → total c I.pS.length (c.finOf I) k = 0) := by
  have hb : ∀ j, j < I.pS.length → Bnd c (I.pT.getD j 0) (c.finOf I j) := fun j hj => fin_bnd h (hpt j hj).1 (by have := hp j hj; omega)
  unfold total selfB totalB
  rw [sumN_comm, sumN_comm (fun i j => pairW c.qT I.pT c.an i j)]
  refine ⟨sumN_le fun j hj => sumN_le fun i hi => ?_, sumN_le fun j hj => sumN_le fun i hi => ?_, fun hc => ?_⟩
  · unfold pairSelf
    split
    · rename_i hc
      have e := fin_self h (pt := I.pT.getD j 0) (p := (I.pS.getD j 0).toNat) hi (by rw [hc.2]) hc.1 hk
      unfold Cx.finOf
      rw [e]
      exact Int.le_refl _
    · exact (hb j hj i hi k hk).1
  · exact (hb j hj i hi k hk).2
  · refine (sumN_congr (g := fun _ => 0) fun j _ => ?_).trans (sumN_zero _)
    exact (sumN_congr (g := fun _ => 0) fun i _ => fin_none hc i k).trans (sumN_zero _)
/-- one object by itself -/
def Ins.one (I : Ins) (j : Nat) (pv ptv : Value) : Ins := { I with pS := [I.pS.getD j 0], pT := [I.pT.getD j 0], pv := pv, ptv := ptv }
theorem one_fin (c : Cx) (I : Ins) (j : Nat) (pv ptv : Value) : c.finOf (I.one j pv ptv) 0 = c.finOf I j := rfl
def Cx.sofar (c : Cx) (I : Ins) (j k : Nat) : Int := sumN (fun j => sumN (fun i => (c.finOf I j).pc i k) c.qS.length) j
theorem one_total (c : Cx) (I : Ins) (j : Nat) (pv ptv : Value) (k : Nat) : c.sofar I (j + 1) k = c.sofar I j k + total c (I.one j pv ptv).pS.length (c.finOf (I.one j pv ptv)) k := by
  show c.sofar I j k + sumN (fun i => (c.finOf I j).pc i k) c.qS.length = c.sofar I j k + (0 + sumN (fun i => (c.finOf (I.one j pv ptv) 0).pc i k) c.qS.length)
  rw [one_fin]; omega
theorem sofar_le {c : Cx} (h : CxOK c) {I : Ins} (hnp : I.pS.length ≤ 4096) (hp : ∀ j, j < I.pS.length → 0 ≤ I.pS.getD j 0 ∧ I.pS.getD j 0 < c.nn) (hpt : ∀ j, j < I.pS.length → 0 ≤ I.pT.getD j 0 ∧ I.pT.getD j 0 ≤ 1024) {k j : Nat} (hk : k < c.ls.length) (hj : j ≤ I.pS.length) : 0 ≤ c.sofar I j k ∧ c.sofar I j k ≤ 1152921504606846976 :=
  total_le h (np := j) (by omega) (P := fun j => I.pT.getD j 0) (fun j' hj' => hpt j' (by omega)) (O := c.finOf I) (fun j' hj' => fin_bnd h (hpt j' (by omega)).1 (by have := hp j' (by omega); omega)) k hk
end Go.Proofs.Qxb6612920a.spray
