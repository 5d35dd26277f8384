import Derived.Test.Qxb6612920aMem
namespace Go.Proofs.Qxb6612920a.spray
open Go.RowKit Go.PlainAid

theorem div_pair {np i j : Nat} (hj : j < np) : ((i * np + j : Nat) : Int) / (np : Int) = (i : Int) := by
  rw [← Int.natCast_ediv, Nat.mul_comm, Nat.mul_add_div (by omega), Nat.div_eq_of_lt hj]; omega
theorem mod_pair {np i j : Nat} (hj : j < np) : ((i * np + j : Nat) : Int) % (np : Int) = (j : Int) := by
  rw [← Int.natCast_emod, Nat.mul_comm, Nat.mul_add_mod, Nat.mod_eq_of_lt hj]

/-- a row that is not empty, at i -/
theorem RowAt.at {w : World} {B : Nat} {q : IntKind} {v : Value} {zs : List Int} (h : RowAt w B q v zs) {i : Nat} (hi : i < zs.length) : ∃ g cap, v = .slice (some ⟨g, 0, none⟩) zs.length cap ∧ g < B ∧ g < w.heap.size ∧ w.cell? ⟨g, i, none⟩ = some (.int q (zs.getD i 0)) := by
  obtain ⟨p, cap, rfl, h⟩ := h
  rcases h with h | ⟨g, rfl, h1, h2, h3⟩
  · rw [h] at hi; simp at hi
  · exact ⟨g, cap, rfl, h1, h2, h3 i hi⟩

set_option maxRecDepth 100000 in
set_option maxHeartbeats 8000000 in
theorem closure_any (c : Cx) (hc : CxOK c) (N sb vb sx vx : Nat) (I : Ins) (hy : LayOK N I.pS.length sb vb sx vx) (O : Nat → St) (w : World) (hF : FixAt w c N sb vb sx vx I) (hD : DynAt w c N I.pS.length sb vb O) (hpT : I.pT.length = I.pS.length) (hnp : I.pS.length ≤ 4096)
    (i j : Nat) (hi : i < c.qS.length) (hj : j < I.pS.length) (hpt : 0 ≤ I.pT.getD j 0 ∧ I.pT.getD j 0 ≤ 1024) (to : Int) (hto : 0 ≤ (O j).since i ∧ (O j).since i ≤ to ∧ (O j).since i < 9223372036854775807) (hto2 : to ≤ 9223372036854775807) (hto3 : (O j).served i = false → to < 9223372036854775807)
    (htot : ∀ k, k < c.ls.length → 0 ≤ total c I.pS.length O k ∧ total c I.pS.length O k ≤ 1152921504606846976) :
    Calls Try.prog 16 #[.int .i64 ((i * I.pS.length + j : Nat) : Int), .int .i64 to, .pointer (some ⟨N, 0, none⟩), .pointer (some ⟨vx, 0, none⟩), .pointer (some ⟨sx, 0, none⟩), .pointer (some ⟨N + 1, 0, none⟩)] w fun r w' => r = .returned (.tuple #[]) ∧
      DynAt w' c N I.pS.length sb vb (fupd O j (c.tally (I.pT.getD j 0) (O j) i to)) ∧ Only (fun k => k = N + I.pS.length + 7) w w' := by
  have hpl := pair_lt (nq := c.qS.length) hi hj
  have hdiv := div_pair (i := i) hj
  have hmod := mod_pair (i := i) hj
  obtain ⟨gp, capp, hpv, _⟩ := hF.rp.at hj
  obtain ⟨gq, capq, hqv, hgq1, hgq2, hgq⟩ := hF.rqt.at (i := i) (by rw [hc.nqT]; exact hi)
  obtain ⟨gt, capt, htv, hgt1, hgt2, hgt⟩ := hF.rpt.at (i := j) (by rw [hpT]; exact hj)
  have csc := hD.sc i hi j hj
  have cvc := hD.vc i hi j hj
  have hqt := hc.qT i hi
  have hw0 : 0 ≤ c.qT.getD i 0 * I.pT.getD j 0 := Int.mul_nonneg hqt.1 hpt.1
  have hw1 : c.qT.getD i 0 * I.pT.getD j 0 ≤ 1024 * 1024 := Int.mul_le_mul hqt.2 hpt.2 hpt.1 (by omega)
  have hal := hF.l
  have hrl := hF.rl
  have hF0 := hF
  have hD0 := hD
  obtain ⟨hFq, hFp, hFqt, hFpt, hFa0, hFa1, hFa2, hFl, hFans, hFsx, hFvx, _, _, _, _, _, hsz, _⟩ := hF
  have hxs := hy.x
  have hys := hy.y
  have hss := hy.s
  have hvs := hy.v
  have hfin : ∀ wx, NumsAt wx (N + I.pS.length + 7) c.ls.length (fun k => total c I.pS.length O k + addF c.af c.ae c.an (c.qT.getD i 0 * I.pT.getD j 0) ((O j).since i) to (if (O j).served i then (O j).since i else to) (c.ls.getD k 0)) → Only (fun k => k = N + I.pS.length + 7) w wx → DynAt wx c N I.pS.length sb vb (fupd O j (c.tally (I.pT.getD j 0) (O j) i to)) := fun wx h1 h2 => hD0.tallied hy hsz hi hj h2 h1
  have hcall := fun (wz : World) (hz : Only (fun k => k = N + I.pS.length + 7) w wz) (hnz : NumsAt wz (N + I.pS.length + 7) c.ls.length (total c I.pS.length O)) (ans : Int) (ha : 0 ≤ ans ∧ ans < 9223372036854775807) => tally_any c.af c.ae c.an (c.qT.getD i 0 * I.pT.getD j 0) ((O j).since i) to ans (N + I.pS.length + 7) N (total c I.pS.length O) c.ls I.lv wz hnz (by omega) (hrl.stay hz (fun k hk => by omega)) ⟨hc.af.1, by have := hc.af.2; omega⟩ ⟨hc.ae.1, by have := hc.ae.2; omega⟩ ⟨hc.an.1, by have := hc.an.2; omega⟩ ⟨hw0, by omega⟩ ⟨hto.1, hto.2.1⟩ hto2 ha (fun k hk => ⟨(hc.ls k hk).1, by have := (hc.ls k hk).2; omega⟩) (by have := hc.nl; omega) htot c.ls.length (Nat.le_refl _)
  rw [hqv] at hFqt
  rw [htv] at hFpt
  rw [hpv] at hFp
  have hnum := hD.nums
  clear hD hD0 hF0 htot
  have HS : Hid (∀ z, Only (fun k => k = N + I.pS.length + 7) w z → z.cell? ⟨N, 4, none⟩ = some (.int .i64 c.af) ∧ z.cell? ⟨N, 5, none⟩ = some (.int .i64 c.ae) ∧ z.cell? ⟨N, 6, none⟩ = some (.int .i64 c.an) ∧ z.cell? ⟨N + 1, 0, none⟩ = some (.slice (some ⟨N + I.pS.length + 7, 0, none⟩) c.ls.length c.ls.length) ∧
      z.cell? ⟨N, 2, none⟩ = some (.slice (some ⟨gq, 0, none⟩) c.qT.length capq) ∧ z.cell? ⟨gq, i, none⟩ = some (.int .i64 (c.qT.getD i 0)) ∧ z.cell? ⟨N, 3, none⟩ = some (.slice (some ⟨gt, 0, none⟩) I.pT.length capt) ∧ z.cell? ⟨gt, j, none⟩ = some (.int .i64 (I.pT.getD j 0)) ∧ z.cell? ⟨N, 7, none⟩ = some I.lv ∧
      z.cell? ⟨sx, 0, none⟩ = some (.slice (some ⟨sb, 0, none⟩) (c.qS.length * I.pS.length) (c.qS.length * I.pS.length)) ∧ z.cell? ⟨sb, i * I.pS.length + j, none⟩ = some (.int .i64 ((O j).since i))) := by
    intro z hz
    have h0 : ∀ o, z.cell? ⟨N, o, none⟩ = w.cell? ⟨N, o, none⟩ := fun o => hz.cellAt N o (by omega) (by omega)
    exact ⟨(h0 4).trans hFa0, (h0 5).trans hFa1, (h0 6).trans hFa2, (hz.cellAt _ _ (by omega) (by omega)).trans hFans, (h0 2).trans hFqt, (hz.cellAt _ _ (by omega) (by omega)).trans hgq, (h0 3).trans hFpt, (hz.cellAt _ _ (by omega) (by omega)).trans hgt, (h0 7).trans hFl, (hz.cellAt _ _ (by omega) (by omega)).trans hFsx, (hz.cellAt _ _ (by omega) (by omega)).trans csc⟩
  have Hcall := Lib.hid hcall
  have Hfin := Lib.hid hfin
  have Hnum := Lib.hid hnum
  have HO : Hid (Only (fun k => k = N + I.pS.length + 7) w w) := Only.refl _ _
  have n1 : IntKind.i64.wrap (c.qT.getD i 0 * I.pT.getD j 0) = c.qT.getD i 0 * I.pT.getD j 0 := IntWalk.i64_in _ ⟨by omega, by omega⟩
  have k1 : (0 : Int) ≤ (i : Int) := by omega
  have k2 : (i : Int) < (c.qT.length : Int) := by have := hc.nqT; omega
  have k3 : (0 : Int) ≤ (j : Int) := by omega
  have k4 : (j : Int) < (I.pT.length : Int) := by omega
  have k5 : (0 : Int) < (I.pS.length : Int) := by omega
  have hnq := hc.nq
  have hpl2 : i * I.pS.length + j < 4096 * 4096 + 4096 := by
    have := Nat.mul_le_mul (Nat.le_of_lt (Nat.lt_of_lt_of_le hi hnq)) hnp
    omega
  have n2 : IntKind.i64.wrap (i : Int) = (i : Int) := IntWalk.i64_in _ ⟨by omega, by omega⟩
  clear hcall hfin hnum hal hrl hqv htv hpv hc hgq hgt hpT hnq hto2
  have hmod2 : ((i * I.pS.length + j : Nat) : Int).tmod (I.pS.length : Int) = (j : Int) := by rw [Int.tmod_eq_emod_of_nonneg (by omega)]; exact hmod
  have hdiv2 : ((i * I.pS.length + j : Nat) : Int).tdiv (I.pS.length : Int) = (i : Int) := by rw [Int.tdiv_eq_ediv_of_nonneg (by omega)]; exact hdiv
  generalize hpairE : i * I.pS.length + j = pair at *
  generalize hmE : c.qS.length * I.pS.length = m at *
  have k6 : (0 : Int) ≤ (pair : Int) := by omega
  have k7 : (pair : Int) < (m : Int) := by omega
  have k8 : (1 : Int) ≤ (I.pS.length : Int) := by omega
  have k9 : (pair : Int) ≤ 9223372036854775807 := by omega
  have k10 : (I.pS.length : Int) ≤ 9223372036854775807 := by omega
  have k11 : ¬ I.pS = [] := fun e => by rw [e] at hj; simp at hj
  generalize c.qT.getD i 0 = wq at *
  generalize I.pT.getD j 0 = wp at *
  generalize (O j).since i = sn at *
  clear hpairE hmE
  cases hsv : (O j).served i
  all_goals rw [hsv] at cvc
  · have hans := hto3 hsv
    have Hc := Lib.hid (fun wz hz hnz => Hcall.out wz hz hnz to ⟨by omega, hans⟩)
    have Hf2 := Hfin
    rw [hsv] at Hf2
    go_enter Try.func16, Try.ntmps16
    go_wp2_with fail
    go_region_held3 (fun z => z.cell? ⟨N, 1, none⟩ = some (.slice (some ⟨gp, 0, none⟩) I.pS.length capp)) (assumption) (fail)
    go_wp2_with fail
    go_region_held3 (fun z => z.cell? ⟨N, 4, none⟩ = some (.int .i64 c.af) ∧ z.cell? ⟨N, 5, none⟩ = some (.int .i64 c.ae) ∧ z.cell? ⟨N, 6, none⟩ = some (.int .i64 c.an) ∧ z.cell? ⟨N + 1, 0, none⟩ = some (.slice (some ⟨N + I.pS.length + 7, 0, none⟩) c.ls.length c.ls.length) ∧
        z.cell? ⟨N, 2, none⟩ = some (.slice (some ⟨gq, 0, none⟩) c.qT.length capq) ∧ z.cell? ⟨gq, i, none⟩ = some (.int .i64 wq) ∧ z.cell? ⟨N, 3, none⟩ = some (.slice (some ⟨gt, 0, none⟩) I.pT.length capt) ∧ z.cell? ⟨gt, j, none⟩ = some (.int .i64 wp) ∧ z.cell? ⟨N, 7, none⟩ = some I.lv ∧
        z.cell? ⟨sx, 0, none⟩ = some (.slice (some ⟨sb, 0, none⟩) m m) ∧ z.cell? ⟨sb, pair, none⟩ = some (.int .i64 sn)) (first | exact HS.out _ Ho.out | exact HS.out w HO.out)
      ((go_at_call 17; refine (Hc.out w.drew.drew (show Only _ w w.drew.drew from ⟨rfl, rfl, rfl, Nat.le_refl _, fun _ _ _ => rfl⟩) (show NumsAt _ _ _ _ from ⟨Hnum.out.c, Hnum.out.f, Hnum.out.lt⟩)).mono ?_; rintro r wx ⟨rfl, hnx, hox⟩; have Hn := Lib.hid hnx; have Ho : Hid (Only (fun k => k = N + I.pS.length + 7) w wx) := (show Only _ w wx from ⟨hox.os, hox.tape, hox.output, hox.size, hox.block⟩); clear hnx hox))
    go_wp2_with fail
    go_end0
    exact ⟨rfl, Hf2.out _ (by simpa using Hn.out) Ho.out, Ho.out⟩
  · have Hc := Lib.hid (fun wz hz hnz => Hcall.out wz hz hnz sn ⟨hto.1, hto.2.2⟩)
    have Hf2 := Hfin
    rw [hsv] at Hf2
    go_enter Try.func16, Try.ntmps16
    go_wp2_with fail
    go_region_held3 (fun z => z.cell? ⟨N, 1, none⟩ = some (.slice (some ⟨gp, 0, none⟩) I.pS.length capp)) (assumption) (fail)
    go_wp2_with fail
    go_region_held3 (fun z => z.cell? ⟨N, 4, none⟩ = some (.int .i64 c.af) ∧ z.cell? ⟨N, 5, none⟩ = some (.int .i64 c.ae) ∧ z.cell? ⟨N, 6, none⟩ = some (.int .i64 c.an) ∧ z.cell? ⟨N + 1, 0, none⟩ = some (.slice (some ⟨N + I.pS.length + 7, 0, none⟩) c.ls.length c.ls.length) ∧
        z.cell? ⟨N, 2, none⟩ = some (.slice (some ⟨gq, 0, none⟩) c.qT.length capq) ∧ z.cell? ⟨gq, i, none⟩ = some (.int .i64 wq) ∧ z.cell? ⟨N, 3, none⟩ = some (.slice (some ⟨gt, 0, none⟩) I.pT.length capt) ∧ z.cell? ⟨gt, j, none⟩ = some (.int .i64 wp) ∧ z.cell? ⟨N, 7, none⟩ = some I.lv ∧
        z.cell? ⟨sx, 0, none⟩ = some (.slice (some ⟨sb, 0, none⟩) m m) ∧ z.cell? ⟨sb, pair, none⟩ = some (.int .i64 sn)) (first | exact HS.out _ Ho.out | exact HS.out w HO.out)
      ((go_at_call 17; refine (Hc.out w.drew.drew (show Only _ w w.drew.drew from ⟨rfl, rfl, rfl, Nat.le_refl _, fun _ _ _ => rfl⟩) (show NumsAt _ _ _ _ from ⟨Hnum.out.c, Hnum.out.f, Hnum.out.lt⟩)).mono ?_; rintro r wx ⟨rfl, hnx, hox⟩; have Hn := Lib.hid hnx; have Ho : Hid (Only (fun k => k = N + I.pS.length + 7) w wx) := (show Only _ w wx from ⟨hox.os, hox.tape, hox.output, hox.size, hox.block⟩); clear hnx hox))
    go_wp2_with fail
    go_end0
    exact ⟨rfl, Hf2.out _ (by simpa using Hn.out) Ho.out, Ho.out⟩
end Go.Proofs.Qxb6612920a.spray
