import Derived.Test.Qxb6612920aBegin
import Derived.Test.Qxb6612920aPass
namespace Go.Proofs.Qxb6612920a.spray
open Go.RowKit Go.PlainAid

/-- ALL THAT STANDS WHILE SPRAY RUNS (w0: the world of the call) -/
structure Glob (w0 w : World) (c : Cx) (N sb vb sx vx : Nat) (I : Ins) (O : Nat → St) (L : Int → List Int) (n : Nat) : Prop where
  fix : FixAt w c N sb vb sx vx I
  dyn : DynAt w c N I.pS.length sb vb O
  lnk : LinksAt w (N + I.pS.length + 8) (N + I.pS.length + 9) n L
  only : Only (fun k => N ≤ k) w0 w
  lay : LayOK N I.pS.length sb vb sx vx

theorem Glob.lift {w0 w w' : World} {c : Cx} {N sb vb sx vx : Nat} {I : Ins} {O : Nat → St} {L : Int → List Int} {n : Nat} (h : Glob w0 w c N sb vb sx vx I O L n) (ho : Only (fun k => N + I.pS.length + 9 ≤ k ∧ w.heap.size ≤ k) w w') : Glob w0 w' c N sb vb sx vx I O L n := by
  have hy := h.lay
  have h1 := hy.x
  have h2 := hy.y
  exact ⟨h.fix.stay hy ho (fun k hk => by omega), h.dyn.stay hy h.fix.size ho (fun k _ _ => by omega), links_stay h.lnk ho (by omega) (fun k _ hk => by omega), h.only.trans (ho.mono fun k _ hk => by omega), hy⟩
theorem Glob.new {w0 w w' : World} {c : Cx} {N sb vb sx vx : Nat} {I : Ins} {O : Nat → St} {L : Int → List Int} {n : Nat} (h : Glob w0 w c N sb vb sx vx I O L n) (ho : Below w.heap.size w w') : Glob w0 w' c N sb vb sx vx I O L n :=
  h.lift ⟨ho.os, ho.tape, ho.output, ho.size, fun k hk _ => ho.block k hk⟩

theorem fupd_self {α : Type} (f : Nat → α) (i : Nat) : fupd f i (f i) = f := by
  funext x
  unfold fupd
  split
  · rename_i e; rw [e]
  · rfl

theorem glob_pass {w0 w : World} {c : Cx} (hc : CxOK c) {N sb vb sx vx : Nat} {I : Ins} {O : Nat → St} {L : Int → List Int} {n : Nat} (h : Glob w0 w c N sb vb sx vx I O L n) (hL : LInv c.nn L) (hn : n < maxLen) {j : Nat} (hj : j < I.pS.length) (hh : Hold c (O j)) :
    Calls Try.prog 21 #[.pointer (some ⟨N + 2, j * 3, none⟩), .pointer (some ⟨N + I.pS.length + 8, 0, none⟩)] w fun e w' => e = .returned (.bool (passF L c.nn (O j).held (O j).giv (O j).tr).moved) ∧ Glob w0 w' c N sb vb sx vx I (fupd O j (c.passed L (O j))) L n := by
  have hy := h.lay
  have h1 := hy.s
  have h2 := hy.v
  have h3 := hy.x
  have h4 := hy.y
  have hsz := h.fix.size
  refine (pass_any (N + 2) (j * 3) (N + 3 + j) c.nn (N + I.pS.length + 8) (N + I.pS.length + 9) n (O j).held (O j).giv (O j).tr c.copies L w (h.dyn.obj j hj) h.lnk hn hc.nn hL.inr (fun a => by have := hL.len a; have := hc.nn; omega) (by omega) (by omega) hc.cop.2 ?_).mono ?_
  · by_cases h1 : 1 < c.copies
    · exact Or.inr (hh.1 h1)
    · exact Or.inl (hh.2 h1).1
  · rintro e w' ⟨rfl, hob, ht⟩
    refine ⟨rfl, ⟨h.fix.stay hy ht.only (fun k hk => by omega), h.dyn.touch hy hsz hj (s := c.passed L (O j)) ht hob rfl rfl rfl, links_stay h.lnk ht.only (by omega) (fun k _ _ => by omega), h.only.trans (ht.only.mono fun k _ hk => by omega), hy⟩⟩

theorem glob_serves {w0 w : World} {c : Cx} (hc : CxOK c) {N sb vb sx vx : Nat} {I : Ins} {O : Nat → St} {L : Int → List Int} {n : Nat} (h : Glob w0 w c N sb vb sx vx I O L n) (hL : LInv c.nn L) (hn : n < maxLen) {j : Nat} (hj : j < I.pS.length) {q : Nat} (hq : q < c.nn) :
    Calls Try.prog 22 #[.pointer (some ⟨N + 2, j * 3, none⟩), .pointer (some ⟨N + I.pS.length + 8, 0, none⟩), .int .i32 q] w fun e w' => e = .returned (.bool (servesF L (O j).held q)) ∧ w' = w :=
  serves_any (N + 2) (j * 3) (N + 3 + j) c.nn (N + I.pS.length + 8) (N + I.pS.length + 9) n (O j).held (O j).giv (O j).tr L q w (h.dyn.obj j hj) h.lnk hn hq hc.nn hL.inr (fun a => by have := hL.len a; have := hc.nn; omega)

theorem glob_tally {w0 w : World} {c : Cx} (hc : CxOK c) {N sb vb sx vx : Nat} {I : Ins} {O : Nat → St} {L : Int → List Int} {n : Nat} (h : Glob w0 w c N sb vb sx vx I O L n) (hpT : I.pT.length = I.pS.length) (hnp : I.pS.length ≤ 4096) {i j : Nat} (hi : i < c.qS.length) (hj : j < I.pS.length) (hpt : 0 ≤ I.pT.getD j 0 ∧ I.pT.getD j 0 ≤ 1024)
    (tt : Int) (hto : 0 ≤ (O j).since i ∧ (O j).since i ≤ tt ∧ (O j).since i < 9223372036854775807) (hto2 : tt ≤ 9223372036854775807) (hto3 : (O j).served i = false → tt < 9223372036854775807) (htot : ∀ k, k < c.ls.length → 0 ≤ total c I.pS.length O k ∧ total c I.pS.length O k ≤ 1152921504606846976) :
    Calls Try.prog 16 #[.int .i64 ((i * I.pS.length + j : Nat) : Int), .int .i64 tt, .pointer (some ⟨N, 0, none⟩), .pointer (some ⟨vx, 0, none⟩), .pointer (some ⟨sx, 0, none⟩), .pointer (some ⟨N + 1, 0, none⟩)] w fun r w' => r = .returned (.tuple #[]) ∧
      Glob w0 w' c N sb vb sx vx I (fupd O j (c.tally (I.pT.getD j 0) (O j) i tt)) L n := by
  have hy := h.lay
  have h3 := hy.x
  have h4 := hy.y
  have hsz := h.fix.size
  refine (closure_any c hc N sb vb sx vx I hy O w h.fix h.dyn hpT hnp i j hi hj hpt tt hto hto2 hto3 htot).mono ?_
  rintro r w' ⟨rfl, hd, ho⟩
  exact ⟨rfl, ⟨h.fix.stay hy ho (fun k hk => by omega), hd, links_stay h.lnk ho (by omega) (fun k _ _ => by omega), h.only.trans (ho.mono fun k _ hk => by omega), hy⟩⟩

theorem glob_turned {w0 w : World} {c : Cx} {N sb vb sx vx : Nat} {I : Ins} {O : Nat → St} {L : Int → List Int} {n : Nat} {i j : Nat} {pt k : Int} (h : Glob w0 w c N sb vb sx vx I (fupd O j (c.tally pt (O j) i k)) L n) (hi : i < c.qS.length) (hj : j < I.pS.length) (r : Bool) :
    Glob w0 ((w.setCell ⟨sb, i * I.pS.length + j, none⟩ (.int .i64 k)).setCell ⟨vb, i * I.pS.length + j, none⟩ (.bool r)) c N sb vb sx vx I (fupd O j (c.turn pt (O j) i k r)) L n := by
  have hy := h.lay
  have h1 := hy.s
  have h2 := hy.v
  have h3 := hy.x
  have h4 := hy.y
  have hne := hy.ne
  have hsz := h.fix.size
  have o1 : Only (fun k => k = sb ∨ k = vb) w ((w.setCell ⟨sb, i * I.pS.length + j, none⟩ (.int .i64 k)).setCell ⟨vb, i * I.pS.length + j, none⟩ (.bool r)) :=
    ((Only.setCell w ⟨sb, i * I.pS.length + j, none⟩ _).mono fun _ _ e => Or.inl e).trans ((Only.setCell _ ⟨vb, i * I.pS.length + j, none⟩ _).mono fun _ _ e => Or.inr e)
  exact ⟨h.fix.stay hy o1 (fun k hk => by omega), h.dyn.turned hy hsz hi hj r, links_stay h.lnk o1 (by omega) (fun k _ _ => by omega), h.only.trans (o1.mono fun k _ hk => by omega), hy⟩

theorem glob_linked {w0 w : World} {c : Cx} (hc : CxOK c) {N sb vb sx vx : Nat} {I : Ins} {O : Nat → St} {L : Int → List Int} {n : Nat} (h : Glob w0 w c N sb vb sx vx I O L n) (hL : LInv c.nn L) (hn : n < maxLen) {p : Int × Int} (hp : GoodP c.nn p) :
    Calls Try.prog 19 #[.pointer (some ⟨N + I.pS.length + 8, 0, none⟩), .int .i64 p.1, .int .i64 p.2] w fun e w' => e = .returned (.bool (decide (p.2 ∈ L p.1))) ∧ Glob w0 w' c N sb vb sx vx I O L n := by
  have hnn := hc.nn
  have g1 := hp.1
  have g2 := hp.2.1
  have g3 := hp.2.2
  refine (linked_any (N + I.pS.length + 8) (N + I.pS.length + 9) n L p.1 p.2 w h.lnk hn (wf_i64 (by omega) (by omega)) (hL.asc _) (by have := hL.len p.1; omega)).mono ?_
  rintro e w' ⟨rfl, hb⟩
  exact ⟨rfl, h.new hb⟩

theorem glob_apply {w0 w : World} {c : Cx} (hc : CxOK c) {N sb vb sx vx : Nat} {I : Ins} {O : Nat → St} {L : Int → List Int} {n : Nat} (h : Glob w0 w c N sb vb sx vx I O L n) (hL : LInv c.nn L) (hn : n + 2 < 1099511627776) {p : Int × Int} (hp : GoodP c.nn p) :
    Calls Try.prog 18 #[.pointer (some ⟨N + I.pS.length + 8, 0, none⟩), .agg #[.int .i64 0, .int .i64 p.1, .int .i64 p.2, .bool (!decide (p.2 ∈ L p.1))]] w fun e w' => e = .returned (.tuple #[]) ∧ Glob w0 w' c N sb vb sx vx I O (linkF L p) (n + 2) := by
  have hnn := hc.nn
  have g1 := hp.1
  have g2 := hp.2.1
  have g3 := hp.2.2
  have hy := h.lay
  have h1 := hy.s
  have h2 := hy.v
  have h3 := hy.x
  have h4 := hy.y
  have hsz := h.fix.size
  refine (apply_any (N + I.pS.length + 8) (N + I.pS.length + 9) n L 0 p.1 p.2 w h.lnk hn (wf_i64 (by omega) (by omega)) (wf_i64 (by omega) (by omega)) (by omega) hL.asc (fun hm => hL.sym _ _ hm)).mono ?_
  rintro e w' ⟨rfl, hl, ho⟩
  exact ⟨rfl, ⟨h.fix.stay hy ho (fun k hk => by omega), h.dyn.stay hy hsz ho (fun k _ _ => by omega), hl, h.only.trans (ho.mono fun k _ hk => by omega), hy⟩⟩
end Go.Proofs.Qxb6612920a.spray
