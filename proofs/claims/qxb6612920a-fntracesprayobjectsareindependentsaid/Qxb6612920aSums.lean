import Derived.Test.Qxb6612920aStart
namespace Go.Proofs.Qxb6612920a.spray
open Go.RowKit Go.PlainAid

/-! ### What the pairs of one object have tallied (plain) -/
def Bnd (c : Cx) (pt : Int) (s : St) : Prop := ∀ i, i < c.qS.length → ∀ k, k < c.ls.length → 0 ≤ s.pc i k ∧ s.pc i k ≤ c.qT.getD i 0 * pt * c.an
theorem Tal.bnd {c : Cx} (h : CxOK c) {pt K : Int} (hpt : 0 ≤ pt) {s : St} (ht : Tal c pt K s) : Bnd c pt s := fun i hi k hk =>
  ⟨(ht.pc i hi k hk).1, Int.le_trans (ht.pc i hi k hk).2 (Int.mul_le_mul_of_nonneg_left (below_bounds h.ae.1 h.an.1).2 (Int.mul_nonneg (h.qT i hi).1 hpt))⟩

theorem weight_le {c : Cx} (h : CxOK c) {pt : Int} (hpt : 0 ≤ pt ∧ pt ≤ 1024) {i : Nat} (hi : i < c.qS.length) : 0 ≤ c.qT.getD i 0 * pt * c.an ∧ c.qT.getD i 0 * pt * c.an ≤ 68719476736 := by
  have h1 := h.qT i hi
  have h2 : 0 ≤ c.qT.getD i 0 * pt := Int.mul_nonneg h1.1 hpt.1
  have h3 : c.qT.getD i 0 * pt ≤ 1024 * 1024 := Int.mul_le_mul h1.2 hpt.2 hpt.1 (by omega)
  have h4 : c.qT.getD i 0 * pt * c.an ≤ 1024 * 1024 * 65536 := Int.mul_le_mul h3 h.an.2 h.an.1 (by omega)
  exact ⟨Int.mul_nonneg h2 h.an.1, by omega⟩
theorem total_le {c : Cx} (h : CxOK c) {np : Nat} (hnp : np ≤ 4096) {P : Nat → Int} (hP : ∀ j, j < np → 0 ≤ P j ∧ P j ≤ 1024) {O : Nat → St} (hb : ∀ j, j < np → Bnd c (P j) (O j)) (k : Nat) (hk : k < c.ls.length) : 0 ≤ total c np O k ∧ total c np O k ≤ 1152921504606846976 := by
  have e : ∀ j, j < np → 0 ≤ sumN (fun i => (O j).pc i k) c.qS.length ∧ sumN (fun i => (O j).pc i k) c.qS.length ≤ 281474976710656 := by
    intro j hj
    refine ⟨sumN_nonneg fun i hi => (hb j hj i hi k hk).1, ?_⟩
    have h1 : sumN (fun i => (O j).pc i k) c.qS.length ≤ sumN (fun _ => 68719476736) c.qS.length := sumN_le fun i hi => Int.le_trans (hb j hj i hi k hk).2 (weight_le h (hP j hj) hi).2
    rw [sumN_const] at h1
    have := h.nq
    omega
  unfold total
  refine ⟨sumN_nonneg fun j hj => (e j hj).1, ?_⟩
  have h1 : sumN (fun j => sumN (fun i => (O j).pc i k) c.qS.length) np ≤ sumN (fun _ => 281474976710656) np := sumN_le fun j hj => (e j hj).2
  rw [sumN_const] at h1
  omega

theorem run_bnd {c : Cx} (h : CxOK c) {pt : Int} (hpt : 0 ≤ pt) {p : Nat} (hp : p < c.nn) {s : Nat} (hs : s ≤ c.first.length) : Bnd c pt (c.runTo p pt s) := by
  obtain ⟨K, _, hi⟩ := run_inv h hpt hp s hs
  exact hi.tal.bnd h hpt

/-! ### A span, sample by sample -/
theorem span_end {c : Cx} {pt : Int} {L : Int → List Int} {en : Int} {m : Nat} {k : Int} {s : St} (h : (passF L c.nn s.held s.giv s.tr).moved = false ∨ k + 1 = en) : c.span pt L en (m + 1) k s = c.sample pt L k s := if_pos h
theorem span_on {c : Cx} {pt : Int} {L : Int → List Int} {en : Int} {m : Nat} {k : Int} {s : St} (h : ¬ ((passF L c.nn s.held s.giv s.tr).moved = false ∨ k + 1 = en)) : c.span pt L en (m + 1) k s = c.span pt L en m (k + 1) (c.sample pt L k s) := if_neg h

/-- the objects while span s has come to object j -/
def Cx.part (c : Cx) (I : Ins) (s j : Nat) : Nat → St := fun j' => if j' < j then c.runTo (I.pS.getD j' 0).toNat (I.pT.getD j' 0) (s + 1) else c.runTo (I.pS.getD j' 0).toNat (I.pT.getD j' 0) s
theorem part_zero (c : Cx) (I : Ins) (s : Nat) : c.part I s 0 = fun j => c.runTo (I.pS.getD j 0).toNat (I.pT.getD j 0) s := by
  funext j
  exact if_neg (by omega)
theorem part_at (c : Cx) (I : Ins) (s j : Nat) : c.part I s j j = c.runTo (I.pS.getD j 0).toNat (I.pT.getD j 0) s := if_neg (by omega)
theorem part_next (c : Cx) (I : Ins) (s j : Nat) : fupd (c.part I s j) j (c.runTo (I.pS.getD j 0).toNat (I.pT.getD j 0) (s + 1)) = c.part I s (j + 1) := by
  funext j'
  unfold fupd Cx.part
  by_cases e : j' = j
  · subst e; rw [if_pos rfl, if_pos (by omega)]
  · rw [if_neg e]
    by_cases e2 : j' < j
    · rw [if_pos e2, if_pos (by omega)]
    · rw [if_neg e2, if_neg (by omega)]
theorem part_bnd {c : Cx} (h : CxOK c) {I : Ins} (hp : ∀ j, j < I.pS.length → 0 ≤ I.pS.getD j 0 ∧ I.pS.getD j 0 < c.nn) (hpt : ∀ j, j < I.pS.length → 0 ≤ I.pT.getD j 0 ∧ I.pT.getD j 0 ≤ 1024) {s j : Nat} (hs : s < c.first.length) (j' : Nat) (hj' : j' < I.pS.length) : Bnd c (I.pT.getD j' 0) (c.part I s j j') := by
  have h1 := hp j' hj'
  unfold Cx.part
  split
  · exact run_bnd h (hpt j' hj').1 (by omega) (by omega)
  · exact run_bnd h (hpt j' hj').1 (by omega) (by omega)
theorem fupd_bnd {c : Cx} {I : Ins} {O : Nat → St} (h : ∀ j', j' < I.pS.length → Bnd c (I.pT.getD j' 0) (O j')) {j : Nat} {st : St} (hst : Bnd c (I.pT.getD j 0) st) (j' : Nat) (hj' : j' < I.pS.length) : Bnd c (I.pT.getD j' 0) (fupd O j st j') := by
  by_cases e : j' = j
  · subst e; rw [fupd_same]; exact hst
  · rw [fupd_other _ _ e]; exact h j' hj'

/-! ### The last tallies -/
theorem finTo_same (c : Cx) (pt : Int) (s : St) : ∀ n, (c.finTo pt s n).held = s.held ∧ (c.finTo pt s n).giv = s.giv ∧ (c.finTo pt s n).tr = s.tr ∧ (c.finTo pt s n).since = s.since ∧ (c.finTo pt s n).served = s.served
  | 0 => ⟨rfl, rfl, rfl, rfl, rfl⟩
  | n + 1 => by
    have h := finTo_same c pt s n
    unfold Cx.finTo
    split
    · exact h
    · exact h
theorem finTo_later (c : Cx) (pt : Int) (s : St) {i : Nat} : ∀ n, n ≤ i → (c.finTo pt s n).pc i = s.pc i
  | 0, _ => rfl
  | n + 1, hn => by
    have h := finTo_later c pt s (i := i) n (by omega)
    unfold Cx.finTo
    split
    · show fupd (c.finTo pt s n).pc n _ i = s.pc i
      rw [fupd_other _ _ (by omega)]; exact h
    · exact h
theorem finTo_bnd {c : Cx} (hc : CxOK c) {pt K : Int} (hpt : 0 ≤ pt) {s : St} (ht : Tal c pt K s) (hK : K ≤ never) : ∀ n, n ≤ c.qS.length → Bnd c pt (c.finTo pt s n)
  | 0, _ => ht.bnd hc hpt
  | n + 1, hn => by
    have h := finTo_bnd hc hpt ht hK n (by omega)
    have hsm := finTo_same c pt s n
    unfold Cx.finTo
    split
    · intro i hi k hk
      show 0 ≤ fupd (c.finTo pt s n).pc n _ i k ∧ fupd (c.finTo pt s n).pc n _ i k ≤ _
      by_cases e : i = n
      · subst e
        rw [fupd_same, finTo_later c pt s i (Nat.le_refl _)]
        have hs := ht.since i hi
        have hb := adds_bounds hc hpt (c.finTo pt s i) hi («to» := never) (by rw [hsm.2.2.2.1]; omega) k
        rw [hsm.2.2.2.1] at hb
        have hp := ht.pc i hi k hk
        have e2 : c.qT.getD i 0 * pt * belowF c.af c.ae c.an never = c.qT.getD i 0 * pt * belowF c.af c.ae c.an (s.since i) + c.qT.getD i 0 * pt * (belowF c.af c.ae c.an never - belowF c.af c.ae c.an (s.since i)) := by
          rw [← Int.mul_add]; congr 1; omega
        have e3 : c.qT.getD i 0 * pt * belowF c.af c.ae c.an never ≤ c.qT.getD i 0 * pt * c.an := Int.mul_le_mul_of_nonneg_left (below_bounds hc.ae.1 hc.an.1).2 (Int.mul_nonneg (hc.qT i hi).1 hpt)
        omega
      · rw [fupd_other _ _ e]; exact h i hi k hk
    · exact h

/-- all pairs in their order -/
def Cx.finAll (c : Cx) (np : Nat) (pT : List Int) (O : Nat → St) : Nat → Nat → St
  | 0 => O
  | x + 1 => if (c.finAll np pT O x (x % np)).served (x / np) then fupd (c.finAll np pT O x) (x % np) (c.tally (pT.getD (x % np) 0) (c.finAll np pT O x (x % np)) (x / np) never) else c.finAll np pT O x
def doneAt (np x j : Nat) : Nat := if j < x % np then x / np + 1 else x / np
theorem succ_div_mod {np x : Nat} (h : 0 < np) : ((x + 1) % np = x % np + 1 ∧ (x + 1) / np = x / np ∧ x % np + 1 < np) ∨ ((x + 1) % np = 0 ∧ (x + 1) / np = x / np + 1 ∧ x % np + 1 = np) := by
  have h1 := Nat.mod_lt x h
  have h2 := Nat.div_add_mod x np
  by_cases e : x % np + 1 = np
  · right
    have e2 : x + 1 = np * (x / np + 1) := by rw [Nat.mul_add]; omega
    exact ⟨by rw [e2]; simp, by rw [e2]; exact Nat.mul_div_cancel_left _ h, e⟩
  · left
    have e2 : x + 1 = (x % np + 1) + np * (x / np) := by omega
    have h3 : x % np + 1 < np := by omega
    exact ⟨by rw [e2, Nat.add_mul_mod_self_left, Nat.mod_eq_of_lt h3], by rw [e2, Nat.add_mul_div_left _ _ h, Nat.div_eq_of_lt h3]; omega, h3⟩
theorem finAll_eq (c : Cx) {np : Nat} (pT : List Int) (O : Nat → St) : ∀ x j, j < np → c.finAll np pT O x j = c.finTo (pT.getD j 0) (O j) (doneAt np x j)
  | 0, j, hj => by
    have e : doneAt np 0 j = 0 := by unfold doneAt; simp
    rw [e]; rfl
  | x + 1, j, hj => by
    have h0 : 0 < np := by omega
    have hm := Nat.mod_lt x h0
    have ih := finAll_eq c pT O x j hj
    have ihm := finAll_eq c pT O x (x % np) hm
    have em : doneAt np x (x % np) = x / np := by unfold doneAt; rw [if_neg (by omega)]
    rw [em] at ihm
    unfold Cx.finAll
    by_cases e : j = x % np
    · have e2 : doneAt np (x + 1) j = x / np + 1 := by
        unfold doneAt
        rcases succ_div_mod (x := x) h0 with ⟨a, b, d⟩ | ⟨a, b, d⟩
        · rw [a, b, if_pos (by omega)]
        · rw [a, b, if_neg (by omega)]
      subst e
      rw [e2, ihm]
      show _ = if (c.finTo _ _ (x / np)).served (x / np) then _ else _
      split
      · rw [fupd_same]
      · exact ihm
    · have e2 : doneAt np (x + 1) j = doneAt np x j := by
        unfold doneAt
        rcases succ_div_mod (x := x) h0 with ⟨a, b, d⟩ | ⟨a, b, d⟩
        · rw [a, b]
          by_cases e3 : j < x % np
          · rw [if_pos (by omega), if_pos e3]
          · rw [if_neg (by omega), if_neg e3]
        · rw [a, b, if_neg (by omega), if_pos (by omega)]
      rw [e2]
      split
      · rw [fupd_other _ _ e]; exact ih
      · exact ih
theorem done_all {np nq j : Nat} (hj : j < np) : doneAt np (nq * np) j = nq := by
  have h0 : 0 < np := by omega
  unfold doneAt
  rw [Nat.mul_mod_left, if_neg (by omega), Nat.mul_div_cancel _ h0]
theorem done_le {np nq x j : Nat} (hj : j < np) (hx : x < nq * np) : doneAt np x j ≤ nq := by
  have h0 : 0 < np := by omega
  have h1 : x / np < nq := Nat.div_lt_of_lt_mul (by rw [Nat.mul_comm]; exact hx)
  unfold doneAt
  split <;> omega
theorem Glob.congr {w0 w : World} {c : Cx} {N sb vb sx vx : Nat} {I : Ins} {O O' : Nat → St} {L : Int → List Int} {n : Nat} (h : Glob w0 w c N sb vb sx vx I O L n) (e : ∀ j, j < I.pS.length → O j = O' j) : Glob w0 w c N sb vb sx vx I O' L n := by
  have d := h.dyn
  refine ⟨h.fix, ⟨fun j hj => by rw [← e j hj]; exact d.obj j hj, fun i hi j hj => by rw [← e j hj]; exact d.sc i hi j hj, fun i hi j hj => by rw [← e j hj]; exact d.vc i hi j hj, d.sf, d.vf, ?_⟩, h.lnk, h.only, h.lay⟩
  have et : total c I.pS.length O' = total c I.pS.length O := by
    funext k
    unfold total
    exact sumN_congr fun j hj => by rw [e j hj]
  rw [et]
  exact d.nums
end Go.Proofs.Qxb6612920a.spray
