import Derived.Test.Qxb6612920aClones
namespace Go.Proofs.Qxb6612920a.spray
open Go.RowKit Go.PlainAid

/-- a row of pairs that lies behind block g -/
def PairsUp (w : World) (g : Nat) (v : Value) (ps : List (Int × Int)) : Prop :=
  ∃ p cap, v = .slice p ps.length cap ∧ (ps = [] ∨ ∃ b, p = some ⟨b, 0, none⟩ ∧ g < b ∧ b < w.heap.size ∧ ∀ i, i < ps.length → w.cell? ⟨b, i * 2, none⟩ = some (.int .i32 (ps.getD i (0, 0)).1) ∧ w.cell? ⟨b, i * 2 + 1, none⟩ = some (.int .i32 (ps.getD i (0, 0)).2))
theorem PairsUp.stay {w w' : World} {g : Nat} {v : Value} {ps : List (Int × Int)} {S : Nat → Prop} (h : PairsUp w g v ps) (ho : Only S w w') (hS : ∀ k, g < k → k < w.heap.size → ¬ S k) : PairsUp w' g v ps := by
  obtain ⟨p, cap, rfl, h⟩ := h
  refine ⟨p, cap, rfl, ?_⟩
  rcases h with h | ⟨b, rfl, h1, h2, h3⟩
  · exact Or.inl h
  · exact Or.inr ⟨b, rfl, h1, Nat.lt_of_lt_of_le h2 ho.size, fun i hi => ⟨(ho.cellAt b _ h2 (hS b h1 h2)).trans (h3 i hi).1, (ho.cellAt b _ h2 (hS b h1 h2)).trans (h3 i hi).2⟩⟩
theorem PairsUp.pairs {w : World} {g : Nat} {v : Value} {ps : List (Int × Int)} (h : PairsUp w g v ps) : PairsAt w w.heap.size v ps := by
  obtain ⟨p, cap, rfl, h⟩ := h
  refine ⟨p, cap, rfl, ?_⟩
  rcases h with h | ⟨b, rfl, h1, h2, h3⟩
  · exact Or.inl h
  · exact Or.inr ⟨b, rfl, h2, h2, h3⟩

/-- behind i rows -/
structure CL (W0 w : World) (g : Nat) (cs : List (List (Int × Int))) (i : Nat) : Prop where
  only : Only (fun k => k = g) W0 w
  lt : g < W0.heap.size
  done : ∀ s, s < i → s < cs.length → ∃ rv, w.cell? ⟨g, s, none⟩ = some rv ∧ PairsUp w g rv (cs.getD s [])
  left : ∀ s, i ≤ s → s < cs.length → w.cell? ⟨g, s, none⟩ = some (.slice none 0 0)
  fr : ∀ s, w.frozen? ⟨g, s, none⟩ = false
theorem CL.skip {W0 w : World} {g : Nat} {cs : List (List (Int × Int))} {i : Nat} (h : CL W0 w g cs i) (hi : i < cs.length) (h0 : cs.getD i [] = []) : CL W0 w g cs (i + 1) := by
  refine ⟨h.only, h.lt, fun s hs hl => ?_, fun s hs hl => h.left s (by omega) hl, h.fr⟩
  by_cases e : s = i
  · subst e
    exact ⟨_, h.left s (Nat.le_refl _) hi, none, 0, by rw [h0]; rfl, Or.inl h0⟩
  · exact h.done s (by omega) hl
/-- the cells of a row of pairs -/
def flat (ps : List (Int × Int)) : List Value := ps.flatMap fun p => [.int .i32 p.1, .int .i32 p.2]
theorem flat_len (ps : List (Int × Int)) : (flat ps).length = ps.length * 2 := by
  induction ps with
  | nil => rfl
  | cons p ps ih =>
    show (Value.int .i32 p.1 :: Value.int .i32 p.2 :: flat ps).length = _
    simp only [List.length_cons, ih]; omega
theorem flat_at : ∀ (ps : List (Int × Int)) (i : Nat), i < ps.length → (flat ps)[i * 2]? = some (.int .i32 (ps.getD i (0, 0)).1) ∧ (flat ps)[i * 2 + 1]? = some (.int .i32 (ps.getD i (0, 0)).2)
  | p :: ps, 0, _ => ⟨rfl, rfl⟩
  | p :: ps, i + 1, h => by
    have ih := flat_at ps i (by simpa using h)
    show (Value.int .i32 p.1 :: Value.int .i32 p.2 :: flat ps)[(i + 1) * 2]? = _ ∧ (Value.int .i32 p.1 :: Value.int .i32 p.2 :: flat ps)[(i + 1) * 2 + 1]? = _
    rw [show (i + 1) * 2 = i * 2 + 1 + 1 from by omega, List.getElem?_cons_succ, List.getElem?_cons_succ, List.getElem?_cons_succ, List.getElem?_cons_succ]
    simpa using ih
theorem flat_one (ps : List (Int × Int)) : ∀ v ∈ flat ps, v.oneCell' = true := by
  intro v hv
  obtain ⟨p, _, h⟩ := List.mem_flatMap.1 hv
  simp at h
  rcases h with rfl | rfl <;> rfl
theorem flat_src {w : World} {x : Addr} {ps : List (Int × Int)} (h : ps = [] ∨ ∃ g o, some x = some ⟨g, o, none⟩ ∧ g < w.heap.size ∧ ∀ i, i < ps.length → w.cell? ⟨g, o + i * 2, none⟩ = some (.int .i32 (ps.getD i (0, 0)).1) ∧ w.cell? ⟨g, o + i * 2 + 1, none⟩ = some (.int .i32 (ps.getD i (0, 0)).2))
    {w' : World} (hw : ∀ g o, g < w.heap.size → w'.cell? ⟨g, o, none⟩ = w.cell? ⟨g, o, none⟩) : ∀ j v, (flat ps)[j]? = some v → w'.cell? (x.add j) = some v := by
  rcases h with rfl | ⟨g, o, e, hg, hc⟩
  · intro j v hj; simp [flat] at hj
  · obtain rfl := Option.some.inj e
    intro j v hj
    have hl : j < ps.length * 2 := by rw [← flat_len]; exact (List.getElem?_eq_some_iff.1 hj).1
    have hf := flat_at ps (j / 2) (by omega)
    have hcc := hc (j / 2) (by omega)
    rw [add_off, hw g (o + j) hg]
    by_cases e : j % 2 = 0
    · have e2 : j / 2 * 2 = j := by omega
      rw [e2] at hf hcc
      rw [hcc.1, ← hj, hf.1]
    · have e2 : j / 2 * 2 + 1 = j := by omega
      rw [Nat.add_assoc, e2] at hcc
      rw [e2] at hf
      rw [hcc.2, ← hj, hf.2]
theorem CL.next {W0 w w' : World} {g : Nat} {cs : List (List (Int × Int))} {i cap : Nat} {o1 : Obj} {t : TypeId} (h : CL W0 w g cs i) (hi : i < cs.length)
    (hrow : w'.heap[w.heap.size]? = some (.cells (flat (cs.getD i [])).toArray t (0, 0)))
    (ho : Only (fun k => k = w.heap.size) ((w.setCell ⟨g, i, none⟩ (.slice (some ⟨w.heap.size, 0, none⟩) (cs.getD i []).length cap)).alloc o1) w') : CL W0 w' g cs (i + 1) := by
  have hgw : g < w.heap.size := Nat.lt_of_lt_of_le h.lt h.only.size
  obtain ⟨v, hv⟩ : ∃ v : Value, v = .slice (some ⟨w.heap.size, 0, none⟩) (cs.getD i []).length cap := ⟨_, rfl⟩
  rw [← hv] at ho
  have o1' : Only (fun k => k = g) w ((w.setCell ⟨g, i, none⟩ v).alloc o1) := (Only.setCell w ⟨g, i, none⟩ v).trans (Only.alloc _ _ o1)
  have oa : Only (fun k => k = g) w w' := ⟨ho.os.trans o1'.os, ho.tape.trans o1'.tape, ho.output.trans o1'.output, Nat.le_trans o1'.size ho.size, fun k hk hS => (ho.block k (by simp; omega) (by omega)).trans (o1'.block k hk hS)⟩
  have cg : ∀ s, w'.cell? ⟨g, s, none⟩ = (w.setCell ⟨g, i, none⟩ v).cell? ⟨g, s, none⟩ := fun s => (ho.cellAt g s (by simp; omega) (by omega)).trans ((Only.alloc (fun _ => False) _ o1).cellAt g s (by simpa using hgw) (fun h => h))
  refine ⟨h.only.trans oa, h.lt, fun s hs hl => ?_, fun s hs hl => ?_, fun s => ?_⟩
  · by_cases e : s = i
    · subst e
      refine ⟨v, ?_, _, cap, hv, Or.inr ⟨w.heap.size, rfl, hgw, blk_lt hrow, fun j hj => ?_⟩⟩
      · rw [cg]
        refine World.cell?_setCell_same' _ _ _ ?_
        rw [h.left s (Nat.le_refl _) hl]
        rfl
      · have hf := flat_at _ j hj
        have hlen := flat_len (cs.getD s [])
        rw [blk_cell hrow (j * 2) (by omega), blk_cell hrow (j * 2 + 1) (by omega)]
        exact ⟨(List.getElem?_eq_getElem _).symm.trans hf.1, (List.getElem?_eq_getElem _).symm.trans hf.2⟩
    · obtain ⟨rv, h1, h2⟩ := h.done s (by omega) hl
      refine ⟨rv, ?_, h2.stay oa (fun k hk _ => by omega)⟩
      rw [cg, World.cell?_setCell_other _ _ _ _ (fun e2 => e (congrArg Addr.off e2).symm), h1]
  · rw [cg, World.cell?_setCell_other _ _ _ _ (fun e2 => by have := congrArg Addr.off e2; simp at this; omega)]
    exact h.left s (by omega) hl
  · rw [ho.frozenAt g s (by simp; omega) (by omega), (Only.alloc (fun _ => False) _ o1).frozenAt g s (by simpa using hgw) (fun h => h), World.frozen?_setCell]
    exact h.fr s
theorem CL.all {W0 w : World} {g : Nat} {cs : List (List (Int × Int))} (h : CL W0 w g cs cs.length) (cap : Nat) : ChgAt w w.heap.size (.slice (some ⟨g, 0, none⟩) cs.length cap) cs := by
  have hgw : g < w.heap.size := Nat.lt_of_lt_of_le h.lt h.only.size
  refine ⟨_, cap, rfl, Or.inr ⟨g, rfl, hgw, hgw, fun s hs => ?_⟩⟩
  obtain ⟨rv, h1, h2⟩ := h.done s hs hs
  exact ⟨rv, h1, h2.pairs⟩
theorem info43 : (Try.prog.info? 43).map (fun i => (i.zero, i.size, i.bytes)) = some (some (.slice none 0 0), 1, 24) := by kernel_rfl
theorem info44 : (Try.prog.info? 44).map (fun i => (i.zero, i.size, i.bytes)) = some (some (.agg #[.int .i32 0, .int .i32 0]), 2, 8) := by kernel_rfl
theorem size44 : (Try.prog.info? 44).map (·.size) = some 2 := by kernel_rfl
theorem make43 (w : World) (n : Nat) (hn : n ≤ 1099511627776) : (Instr.makeSlice 23 (.int .i64 (n : Int)) (.int .i64 (n : Int))).run Try.prog w = .ok (.slice (some ⟨w.heap.size, 0, none⟩) n n) (w.alloc (.cells (madeCells #[.slice none 0 0] n) 43)) := by
  obtain ⟨i0, hi, hz0, hz1, hz2⟩ := info_parts info43
  have h := run_make (P := Try.prog) w 23 43 i0 (.slice none 0 0) Try.underlying23 hi hz0 .i64 .i64 n n (by omega) (Int.le_refl _) (by rw [hz2]; omega) (by omega)
  simpa [hz1, Value.cells] using h
theorem make44 (w : World) (n : Nat) (hn : n ≤ 1099511627776) : (Instr.makeSlice 43 (.int .i64 (n : Int)) (.int .i64 (n : Int))).run Try.prog w = .ok (.slice (some ⟨w.heap.size, 0, none⟩) n n) (w.alloc (.cells (madeCells #[.int .i32 0, .int .i32 0] (n * 2)) 44)) := by
  obtain ⟨i0, hi, hz0, hz1, hz2⟩ := info_parts info44
  have h := run_make (P := Try.prog) w 43 44 i0 (.agg #[.int .i32 0, .int .i32 0]) Try.underlying43 hi hz0 .i64 .i64 n n (by omega) (Int.le_refl _) (by rw [hz2]; omega) (by omega)
  simpa [hz1, Value.cells] using h
theorem cl_start (w : World) (cs : List (List (Int × Int))) : CL (w.alloc (.cells (madeCells #[.slice none 0 0] cs.length) 43 (0, 0))) (w.alloc (.cells (madeCells #[.slice none 0 0] cs.length) 43 (0, 0))) w.heap.size cs 0 :=
  ⟨Only.refl _ _, by simp, fun s hs => by omega, fun s _ hl => by rw [cell_new]; exact made_one _ hl, fun s => froz_new _ _ _ s⟩

set_option maxRecDepth 100000 in
set_option maxHeartbeats 1000000 in
theorem clone_chg (v : Value) (cs : List (List (Int × Int))) (w : World) (h : InChg w v cs) (hl : cs.length ≤ 1073741824) (hls : ∀ s, s < cs.length → (cs.getD s []).length ≤ 1073741824) :
    Calls Try.prog 8 #[v] w fun r w' => ∃ v', r = .returned v' ∧ ChgAt w' w'.heap.size v' cs ∧ Below w.heap.size w w' := by
  obtain ⟨p, cap, rfl, hnil, hrow⟩ := h
  cases p with
  | none =>
    obtain ⟨rfl, rfl⟩ := hnil rfl
    clear hnil hrow
    have he : ∀ w : World, (binOp .eql 23 (.slice none 0 0) (.slice none 0 0)).run Try.prog w = .ok (.bool true) w := fun _ => rfl
    go_enter Try.func8, Try.ntmps8
    go_wp2_with fail
    go_ret
    exact ⟨_, rfl, ⟨none, 0, rfl, Or.inl rfl⟩, Below.refl _ _⟩
  | some x =>
    have m1 := make43 w cs.length (by omega)
    have he : ∀ w : World, (binOp .eql 23 (.slice (some x) cs.length cap) (.slice none 0 0)).run Try.prog w = .ok (.bool false) w := fun _ => rfl
    have Hrow := Lib.hid hrow
    have Hls := Lib.hid hls
    obtain ⟨W0, hW0⟩ : ∃ W0, W0 = w.alloc (.cells (madeCells #[.slice none 0 0] cs.length) 43 (0, 0)) := ⟨_, rfl⟩
    have Hst : Hid (CL W0 W0 w.heap.size cs 0) := by rw [hW0]; exact cl_start w cs
    have HW0 := Lib.hid hW0
    rw [← hW0] at m1
    clear hrow hnil hls hW0
    go_enter Try.func8, Try.ntmps8
    go_wp2_with fail
    go_loopg [4] cs.length (fun gk i wr => ∃ a : Nat, a ≤ cs.length ∧ gk = cs.length - a ∧ i = .int .i64 a ∧ Hid (CL W0 wr w.heap.size cs a))
    case atStart => exact ⟨0, Nat.zero_le _, rfl, rfl, Hst.out⟩
    case round =>
      obtain ⟨a, ha, rfl, rfl, Ha⟩ := hrel
      by_cases hlt : a < cs.length
      · have j1 : (0 : Int) ≤ (a : Int) := by omega
        have j2 : (a : Int) < (cs.length : Int) := by omega
        rcases Hrow.out with h0 | ⟨g, o, hx, hg, hc⟩
        · rw [h0] at hlt; simp at hlt
        obtain rfl := Option.some.inj hx
        obtain ⟨rv, hrv, hpairs⟩ := hc a hlt
        have hold : ∀ g o, g < w.heap.size → wr.cell? ⟨g, o, none⟩ = w.cell? ⟨g, o, none⟩ := fun g o hg => by
          rw [Ha.out.only.cellAt g o (by rw [HW0.out]; simp; omega) (by omega), HW0.out]
          exact (Only.alloc (fun _ => False) w _).cellAt g o hg (fun h => h)
        have c1 := (hold g (o + a) hg).trans hrv
        obtain ⟨p2, cap2, rfl, hnil2, hrow2⟩ := hpairs
        have hl2 := Hls.out a hlt
        clear hc
        cases p2 with
        | none =>
          obtain ⟨h0, rfl⟩ := hnil2 rfl
          have Hn := Lib.hid (Ha.out.skip hlt h0)
          rw [h0] at c1
          have he2 : ∀ w : World, (binOp .neq 43 (.slice none 0 0) (.slice none 0 0)).run Try.prog w = .ok (.bool false) w := fun _ => rfl
          simp only [List.length_nil] at c1
          clear hnil2 hrow2 hrv hl2 hold
          go_wp2_with fail
          go_roundg (cs.length - (a + 1))
          case measure => omega
          case rel => exact ⟨a + 1, by omega, rfl, by go_num, Hn.out⟩
        | some x2 =>
          have he2 : ∀ w : World, (binOp .neq 43 (.slice (some x2) (cs.getD a []).length cap2) (.slice none 0 0)).run Try.prog w = .ok (.bool true) w := fun _ => rfl
          have m2 := make44 wr (cs.getD a []).length (by omega)
          have hgw : w.heap.size < wr.heap.size := Nat.lt_of_lt_of_le Ha.out.lt Ha.out.only.size
          have cy := Ha.out.left a (Nat.le_refl _) hlt
          have fy := Ha.out.fr a
          have ny := World.new_ne wr ⟨w.heap.size, a, none⟩ cy
          have nx := World.new_ne wr ⟨g, o + a, none⟩ c1
          have hgr : g < wr.heap.size := by omega
          have nb : ¬ g = w.heap.size := by omega
          have nb' : ¬ w.heap.size = g := by omega
          obtain ⟨ps, hps⟩ : ∃ ps, ps = cs.getD a [] := ⟨_, rfl⟩
          rw [← hps] at m2 c1 he2 hrow2 hl2
          obtain ⟨W1, hW1⟩ : ∃ W1, W1 = (wr.setCell ⟨w.heap.size, a, none⟩ (.slice (some ⟨wr.heap.size, 0, none⟩) ps.length ps.length)).alloc (.cells (madeCells #[.int .i32 0, .int .i32 0] (ps.length * 2)) 44 (0, 0)) := ⟨_, rfl⟩
          have oW : Only (fun k => k = w.heap.size) wr W1 := by rw [hW1]; exact (Only.setCell wr ⟨w.heap.size, a, none⟩ _).trans (Only.alloc _ _ _)
          have hblk : W1.heap[wr.heap.size]? = some (.cells (madeCells #[.int .i32 0, .int .i32 0] (ps.length * 2)) 44 (0, 0)) := by
            have h1 := heap_alloc_new (wr.setCell ⟨w.heap.size, a, none⟩ (.slice (some ⟨wr.heap.size, 0, none⟩) ps.length ps.length)) (.cells (madeCells #[.int .i32 0, .int .i32 0] (ps.length * 2)) 44 (0, 0))
            rw [hW1]
            simpa using h1
          obtain ⟨w2, hcp, hrow3, ho2⟩ := run_copy_wide (P := Try.prog) W1.drew 43 43 3 44 2 wr.heap.size ps.length ps.length x2 cap2 (madeCells #[.int .i32 0, .int .i32 0] (ps.length * 2)) 44 (flat ps) Try.underlying43 size44 hblk (flat_len ps) (flat_src hrow2 (w' := W1.drew) (fun g o hg => (oW.cellAt g o (by omega) (by omega)).trans (hold g o hg))) (by rw [size_madeCells, flat_len]) (flat_one ps)
          have Hn : Hid (CL W0 w2 w.heap.size cs (a + 1)) := by
            have ho3 : Only (fun k => k = wr.heap.size) W1 w2 := ⟨ho2.os, ho2.tape, ho2.output, ho2.size, ho2.block⟩
            rw [hW1, hps] at ho3
            exact Ha.out.next hlt (by rw [← hps]; exact hrow3) ho3
          have d1 : W1.cell? ⟨g, o + a, none⟩ = some (.slice (some x2) ps.length cap2) := (oW.cellAt g (o + a) (by omega) (by omega)).trans c1
          have d2 : W1.cell? ⟨w.heap.size, a, none⟩ = some (.slice (some ⟨wr.heap.size, 0, none⟩) ps.length ps.length) := by
            rw [hW1, (Only.alloc (fun _ => False) _ _).cellAt w.heap.size a (by simpa using hgw) (fun h => h)]
            refine World.cell?_setCell_same' _ _ _ ?_
            rw [cy]
            rfl
          have hsz1 : wr.heap.size ≤ W1.heap.size := oW.size
          have e1 : w2.cell? ⟨g, o + a, none⟩ = some (.slice (some x2) ps.length cap2) := (ho2.cellAt g (o + a) (show g < W1.heap.size by omega) (by omega)).trans d1
          have e2 : w2.cell? ⟨w.heap.size, a, none⟩ = some (.slice (some ⟨wr.heap.size, 0, none⟩) ps.length ps.length) := (ho2.cellAt w.heap.size a (show w.heap.size < W1.heap.size by omega) (by omega)).trans d2
          have HW1 := Lib.hid hW1
          clear hnil2 hrow2 hrv hl2 hold hps hW1 hrow3 ho2 hblk oW Hrow Hst
          go_wp2_with fail
          rw [← HW1.out]
          go_region_held3 (fun z => z.cell? ⟨g, o + a, none⟩ = some (.slice (some x2) ps.length cap2) ∧ z.cell? ⟨w.heap.size, a, none⟩ = some (.slice (some ⟨wr.heap.size, 0, none⟩) ps.length ps.length)) (first | exact ⟨d1, d2⟩ | exact ⟨e1, e2⟩) (fail)
          go_wp2_with fail
          go_roundg (cs.length - (a + 1))
          case measure => omega
          case rel => exact ⟨a + 1, by omega, rfl, by go_num, Hn.out⟩
      · have j2 : ¬ (a : Int) < (cs.length : Int) := by omega
        obtain rfl : a = cs.length := by omega
        have Hend : Hid (ChgAt wr wr.heap.size (.slice (some ⟨w.heap.size, 0, none⟩) cs.length cs.length) cs ∧ Below w.heap.size w wr) :=
          ⟨Ha.out.all _, by
            have h1 := Ha.out.only
            rw [HW0.out] at h1
            exact ((Below.refl _ w).alloc (Nat.le_refl _) _).trans (h1.below (by simp) (by omega))⟩
        go_wp2_with fail
        go_ret
        exact ⟨_, rfl, Hend.out⟩
end Go.Proofs.Qxb6612920a.spray
