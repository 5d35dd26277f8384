import Derived.Test.Qxb6612920aWithin
namespace Go.Proofs.Qxb6612920a.spray
open Go.RowKit Go.PlainAid

/-- v reads as zs, in a block below B -/
def RowAt (w : World) (B : Nat) (q : IntKind) (v : Value) (zs : List Int) : Prop :=
  ∃ p cap, v = .slice p zs.length cap ∧ (zs = [] ∨ ∃ g, p = some ⟨g, 0, none⟩ ∧ g < B ∧ g < w.heap.size ∧ ∀ i, i < zs.length → w.cell? ⟨g, i, none⟩ = some (.int q (zs.getD i 0)))
theorem RowAt.stay {w w' : World} {B : Nat} {q : IntKind} {v : Value} {zs : List Int} {S : Nat → Prop} (h : RowAt w B q v zs) (ho : Only S w w') (hS : ∀ k, k < B → ¬ S k) : RowAt w' B q v zs := by
  obtain ⟨p, cap, rfl, h⟩ := h
  refine ⟨p, cap, rfl, ?_⟩
  rcases h with h | ⟨g, rfl, h1, h2, h3⟩
  · exact Or.inl h
  · exact Or.inr ⟨g, rfl, h1, Nat.lt_of_lt_of_le h2 ho.size, fun i hi => (ho.cell ⟨g, i, none⟩ h2 (hS g h1)).trans (h3 i hi)⟩

/-- the numbers A in the first n cells of block b -/
structure NumsAt (w : World) (b n : Nat) (A : Nat → Int) : Prop where
  c : ∀ k, k < n → w.cell? ⟨b, k, none⟩ = some (.int .i64 (A k))
  f : ∀ k, w.frozen? ⟨b, k, none⟩ = false
  lt : b < w.heap.size
theorem NumsAt.stay {w w' : World} {b n : Nat} {A : Nat → Int} {S : Nat → Prop} (h : NumsAt w b n A) (ho : Only S w w') (hS : ¬ S b) : NumsAt w' b n A :=
  ⟨fun k hk => (ho.cell ⟨b, k, none⟩ h.lt hS).trans (h.c k hk), fun k => (ho.frozen ⟨b, k, none⟩ h.lt hS).trans (h.f k), Nat.lt_of_lt_of_le h.lt ho.size⟩
theorem NumsAt.set {w : World} {b n : Nat} {A : Nat → Int} (h : NumsAt w b n A) (i : Nat) (hi : i < n) (v : Int) : NumsAt (w.setCell ⟨b, i, none⟩ (.int .i64 v)) b n (fupd A i v) := by
  refine ⟨fun k hk => ?_, fun k => by simpa using h.f k, by simpa using h.lt⟩
  by_cases e : k = i
  · subst e
    rw [fupd_same]
    exact World.cell?_setCell_same' w _ _ (by rw [h.c k hk]; rfl)
  · rw [fupd_other _ _ e, ← h.c k hk]
    exact World.cell?_setCell_other w _ _ _ (by simp)

/-- what one tally adds at the latency l -/
def addF (f e n wt lo hi ans l : Int) : Int := wt * withinF f e n (max lo (ans - l)) hi

theorem tally_end {w0 wr wx : World} {pb ab k m : Nat} {A : Nat → Int} {f e n wt lo hi ans y : Int} {ls : List Int} (hb : BoxP wr pb f e n) (ho : Only (fun k => k = ab) w0 wr) (hn : NumsAt wr ab m (fun x => if x < k then A x + addF f e n wt lo hi ans (ls.getD x 0) else A x)) (hk : k < m) (hne : ab ≠ pb)
    (hbx : Below wr.drew.heap.size wr.drew wx) (hy : addF f e n wt lo hi ans (ls.getD k 0) = y) :
    BoxP (wx.setCell ⟨ab, k, none⟩ (.int .i64 (A k + y))) pb f e n ∧ Only (fun k => k = ab) w0 (wx.setCell ⟨ab, k, none⟩ (.int .i64 (A k + y))) ∧ NumsAt (wx.setCell ⟨ab, k, none⟩ (.int .i64 (A k + y))) ab m (fun x => if x < k + 1 then A x + addF f e n wt lo hi ans (ls.getD x 0) else A x) := by
  have o1 : Only (fun k => wr.heap.size ≤ k) wr wx := ⟨hbx.os, hbx.tape, hbx.output, hbx.size, fun i hi _ => hbx.block i hi⟩
  have o2 := Only.setCell wx ⟨ab, k, none⟩ (.int .i64 (A k + y))
  have hpl : pb < wr.heap.size := (Array.getElem?_eq_some_iff.1 hb).1
  refine ⟨?_, ?_, ?_⟩
  · exact (o2.block pb (Nat.lt_of_lt_of_le hpl o1.size) (fun h => hne h.symm)).trans ((o1.block pb hpl (by omega)).trans hb)
  · exact ho.trans ((o1.mono (T := fun k => k = ab) (fun i hi h => by omega)).trans o2)
  · have h1 := (hn.stay o1 (by have := hn.lt; omega)).set k hk (A k + y)
    refine ⟨fun x hx => (h1.c x hx).trans ?_, h1.f, h1.lt⟩
    by_cases e1 : x = k
    · subst e1
      rw [fupd_same, if_pos (by omega), hy]
    · rw [fupd_other _ _ e1]
      by_cases e2 : x < k
      · rw [if_pos e2, if_pos (by omega)]
      · rw [if_neg e2, if_neg (by omega)]

set_option maxRecDepth 100000 in
set_option maxHeartbeats 8000000 in
theorem tally_any (f e n wt lo hi ans : Int) (ab B : Nat) (A : Nat → Int) (ls : List Int) (lv : Value) (w : World) (hA : NumsAt w ab ls.length A) (hB : B ≤ ab) (hl : RowAt w B .i64 lv ls)
    (hf : 0 ≤ f ∧ f ≤ 1099511627776) (he : 1 ≤ e ∧ e ≤ 1099511627776) (hn : 0 ≤ n ∧ n ≤ 1048576) (hwt : 0 ≤ wt ∧ wt ≤ 1048576) (hlo : 0 ≤ lo ∧ lo ≤ hi) (hhi : hi ≤ 9223372036854775807) (hans : 0 ≤ ans ∧ ans < 9223372036854775807)
    (hls : ∀ i, i < ls.length → 0 ≤ ls.getD i 0 ∧ ls.getD i 0 ≤ 1099511627776) (hlen : ls.length ≤ 1099511627776) (hAb : ∀ k, k < ls.length → 0 ≤ A k ∧ A k ≤ 1152921504606846976) (acap : Nat) (hcap : ls.length ≤ acap) :
    Calls Try.prog 17 #[.agg #[.int .i64 f, .int .i64 e, .int .i64 n], .slice (some ⟨ab, 0, none⟩) ls.length acap, .int .i64 wt, lv, .int .i64 lo, .int .i64 hi, .int .i64 ans] w fun r w' => r = .returned (.tuple #[]) ∧
      NumsAt w' ab ls.length (fun k => A k + addF f e n wt lo hi ans (ls.getD k 0)) ∧ Only (fun k => k = ab) w w' := by
  obtain ⟨p, cap, rfl, hval⟩ := hl
  have Hval := Lib.hid hval
  obtain ⟨W0, hW0⟩ : ∃ W0, W0 = w.alloc (.cells #[.int .i64 f, .int .i64 e, .int .i64 n] 36 (0, 0)) := ⟨_, rfl⟩
  have box0 : BoxP W0 w.heap.size f e n := by subst hW0; exact heap_alloc_new w _
  have o0 : Only (fun k => k = ab) w W0 := hW0 ▸ Only.alloc _ _ _
  have na : ans ≠ 9223372036854775807 := by omega
  have nab : ab ≠ w.heap.size := by have := hA.lt; omega
  have nums0 : NumsAt W0 ab ls.length A := hA.stay (S := fun _ => False) (hW0 ▸ Only.alloc _ _ _) (fun h => h)
  have HA := Lib.hid hA
  have H0 := Lib.hid (And.intro box0 (And.intro o0 nums0))
  have Hc := Lib.hid (fun lo hi (w : World) => within_any f e n lo hi w hf he ⟨hn.1, by omega⟩)
  clear hval box0 o0 nums0 hA
  go_enter Try.func17, Try.ntmps17
  go_wp2_with fail
  rw [← hW0, show (ans == 9223372036854775807) = false from by simpa using na]
  clear hW0
  go_loopw [20] (fun i wr => ∃ k : Nat, k ≤ ls.length ∧ i = .int .i64 k ∧ Hid (BoxP wr w.heap.size f e n ∧ Only (fun k => k = ab) w wr ∧ NumsAt wr ab ls.length (fun x => if x < k then A x + addF f e n wt lo hi ans (ls.getD x 0) else A x))) (fun i _ => ls.length - (intOf i).toNat)
  case atStart => exact ⟨0, Nat.zero_le _, rfl, ⟨H0.out.1, H0.out.2.1, by simpa using H0.out.2.2⟩⟩
  case round =>
    obtain ⟨k, hk, rfl, Hk⟩ := hrel
    by_cases hlt : k < ls.length
    · have j2 : (k : Int) < (ls.length : Int) := by omega
      have j1 : (0 : Int) ≤ (k : Int) := by omega
      rcases Hval.out with h0 | ⟨g, hp, hg1, hg2, hcell⟩
      · rw [h0] at hlt; simp at hlt
      subst hp
      have ck : wr.cell? ⟨g, k, none⟩ = some (.int .i64 (ls.getD k 0)) := (Hk.out.2.1.cell ⟨g, k, none⟩ hg2 (by show ¬ g = ab; omega)).trans (hcell k hlt)
      have hlk := hls k hlt
      have hAk := hAb k hlt
      have hcA := Hk.out.2.2.c k hlt
      rw [if_neg (by omega)] at hcA
      generalize hlz : ls.getD k 0 = l at *
      have n1 : IntKind.i64.wrap (ans - l) = ans - l := IntWalk.i64_in _ ⟨by omega, by omega⟩
      have hw := within_bounds (f := f) (e := e) (n := n) (lo := max lo (ans - l)) (hi := hi) (from' := 0) he.1 hn.1 (by omega) (by omega)
      have hw2 := (below_bounds (f := f) (e := e) (n := n) (k := hi) he.1 hn.1).2
      have hw3 := (below_bounds (f := f) (e := e) (n := n) (k := 0) he.1 hn.1).1
      have hcall := Hc.out (max lo (ans - l)) hi wr.drew (by omega) (by omega)
      have hadd : addF f e n wt lo hi ans l = wt * withinF f e n (max lo (ans - l)) hi := rfl
      generalize withinF f e n (max lo (ans - l)) hi = x at *
      have hx : x ≤ 1048576 := by omega
      have hwx : wt * x ≤ 1048576 * 1048576 := Int.mul_le_mul hwt.2 hx hw.1 (by omega)
      have hwx0 : 0 ≤ wt * x := Int.mul_nonneg hwt.1 hw.1
      have n2 : IntKind.i64.wrap (wt * x) = wt * x := IntWalk.i64_in _ ⟨by omega, by omega⟩
      have n3 : IntKind.i64.wrap (A k + wt * x) = A k + wt * x := IntWalk.i64_in _ ⟨by omega, by omega⟩
      have Hcall := Lib.hid hcall
      have Hadd := Lib.hid hadd
      have p0 := Hk.out.1.c0
      have p1 := Hk.out.1.c1
      have p2 := Hk.out.1.c2
      have fA := Hk.out.2.2.f k
      have hablt := Hk.out.2.2.lt
      have hpblt : w.heap.size < wr.heap.size := (Array.getElem?_eq_some_iff.1 Hk.out.1).1
      have jc : (k : Int) < (acap : Int) := by omega
      clear hcall hadd hcell hw hw2 hw3
      go_wp2_with fail
      go_region_with ((go_at_call 23; refine Hcall.out.mono ?_; rintro r wx ⟨rfl, hbx⟩; have qA : wx.cell? ⟨ab, k, none⟩ = some (.int .i64 (A k)) := (World.cell?_of_block (a := ⟨ab, k, none⟩) (hbx.block ab hablt)).trans hcA; have qf : wx.frozen? ⟨ab, k, none⟩ = false := (World.frozen?_of_block (a := ⟨ab, k, none⟩) (hbx.block ab hablt)).trans fA))
      all_goals
        have hend : BoxP (wx.setCell ⟨ab, k, none⟩ (.int .i64 (A k + wt * x))) w.heap.size f e n ∧ Only (fun k => k = ab) w (wx.setCell ⟨ab, k, none⟩ (.int .i64 (A k + wt * x))) ∧ NumsAt (wx.setCell ⟨ab, k, none⟩ (.int .i64 (A k + wt * x))) ab ls.length (fun x => if x < k + 1 then A x + addF f e n wt lo hi ans (ls.getD x 0) else A x) :=
          tally_end (w0 := w) Hk.out.1 Hk.out.2.1 Hk.out.2.2 hlt nab hbx (by rw [← Hadd.out, hlz])
        have Hend := Lib.hid hend
        clear hend hbx qA qf
        go_wp2_with fail
        go_roundw
        case rel => exact ⟨k + 1, by omega, by go_num, Hend.out⟩
        case measure => simp [intOf]; omega
    · have j2 : ¬ (k : Int) < (ls.length : Int) := by omega
      obtain rfl : k = ls.length := by omega
      go_wp2_with fail
      go_end0
      refine ⟨rfl, ⟨fun x hx => ?_, Hk.out.2.2.f, Hk.out.2.2.lt⟩, Hk.out.2.1⟩
      exact (Hk.out.2.2.c x hx).trans (congrArg (fun z => some (Value.int .i64 z)) (if_pos hx))
end Go.Proofs.Qxb6612920a.spray
