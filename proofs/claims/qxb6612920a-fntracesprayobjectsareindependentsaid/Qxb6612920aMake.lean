import Derived.Test.Qxb6612920aClosure
import Derived.Laws.MakeOwn
import Derived.Deep.LoopGhost
import Derived.Deep.DeepCutAuto
namespace Go.Proofs.Qxb6612920a.spray
open Go.RowKit Go.PlainAid
theorem info52 : (Try.prog.info? 52).map (fun i => (i.zero, i.size, i.bytes)) = some (some (.agg #[.slice none 0 0, .int .i64 0, .int .i64 0]), 3, 40) := by kernel_rfl
theorem info4 : (Try.prog.info? 4).map (fun i => (i.zero, i.size, i.bytes)) = some (some (.bool false), 1, 1) := by kernel_rfl

theorem make3 (w : World) (n : Nat) (hn : n ≤ 1099511627776) : (Instr.makeSlice 22 (.int .i64 (n : Int)) (.int .i64 (n : Int))).run Try.prog w = .ok (.slice (some ⟨w.heap.size, 0, none⟩) n n) (w.alloc (.cells (madeCells #[.int .i64 0] n) 3)) := by
  obtain ⟨i0, hi, hz0, hz1, hz2⟩ := info_parts info3
  have h := run_make (P := Try.prog) w 22 3 i0 (.int .i64 0) Try.underlying22 hi hz0 .i64 .i64 n n (by omega) (Int.le_refl _) (by rw [hz2]; omega) (by omega)
  simpa [hz1, Value.cells] using h
theorem make4 (w : World) (n : Nat) (hn : n ≤ 1099511627776) : (Instr.makeSlice 53 (.int .i64 (n : Int)) (.int .i64 (n : Int))).run Try.prog w = .ok (.slice (some ⟨w.heap.size, 0, none⟩) n n) (w.alloc (.cells (madeCells #[.bool false] n) 4)) := by
  obtain ⟨i0, hi, hz0, hz1, hz2⟩ := info_parts info4
  have h := run_make (P := Try.prog) w 53 4 i0 (.bool false) Try.underlying53 hi hz0 .i64 .i64 n n (by omega) (Int.le_refl _) (by rw [hz2]; omega) (by omega)
  simpa [hz1, Value.cells] using h
theorem make52 (w : World) (n : Nat) (hn : n ≤ 1099511627776) : (Instr.makeSlice 50 (.int .i64 (n : Int)) (.int .i64 (n : Int))).run Try.prog w = .ok (.slice (some ⟨w.heap.size, 0, none⟩) n n) (w.alloc (.cells (madeCells #[.slice none 0 0, .int .i64 0, .int .i64 0] (n * 3)) 52)) := by
  obtain ⟨i0, hi, hz0, hz1, hz2⟩ := info_parts info52
  have h := run_make (P := Try.prog) w 50 52 i0 (.agg #[.slice none 0 0, .int .i64 0, .int .i64 0]) Try.underlying50 hi hz0 .i64 .i64 n n (by omega) (Int.le_refl _) (by rw [hz2]; omega) (by omega)
  simpa [hz1, Value.cells] using h

theorem made_one (z : Value) {n p : Nat} (hp : p < n) : (madeCells #[z] n)[p]? = some z := by
  rw [Array.getElem?_eq_getElem (by rw [size_madeCells]; exact hp)]
  simp [madeCells, Nat.mod_one]
theorem made_three (x y z : Value) {n j : Nat} (hj : j < n) : (madeCells #[x, y, z] (n * 3))[j * 3]? = some x ∧ (madeCells #[x, y, z] (n * 3))[j * 3 + 1]? = some y ∧ (madeCells #[x, y, z] (n * 3))[j * 3 + 2]? = some z := by
  have m0 : j * 3 % 3 = 0 := by omega
  have m1 : (j * 3 + 1) % 3 = 1 := by omega
  have m2 : (j * 3 + 2) % 3 = 2 := by omega
  refine ⟨?_, ?_, ?_⟩
  · rw [Array.getElem?_eq_getElem (by rw [size_madeCells]; omega)]
    simp [madeCells, m0]
  · rw [Array.getElem?_eq_getElem (by rw [size_madeCells]; omega)]
    simp [madeCells, m1]
  · rw [Array.getElem?_eq_getElem (by rw [size_madeCells]; omega)]
    simp [madeCells, m2]

theorem cell_new (w : World) (cs : Array Value) (t : TypeId) (o : Nat) : (w.alloc (.cells cs t (0, 0))).cell? ⟨w.heap.size, o, none⟩ = cs[o]? := by
  have h := heap_alloc_new w (.cells cs t (0, 0))
  unfold World.cell?
  rw [h]
  simp
theorem froz_new (w : World) (cs : Array Value) (t : TypeId) (o : Nat) : (w.alloc (.cells cs t (0, 0))).frozen? ⟨w.heap.size, o, none⟩ = false := by
  have h := heap_alloc_new w (.cells cs t (0, 0))
  unfold World.frozen?
  rw [h]
  simp

/-- the objects while they are made -/
structure Making (W0 w : World) (c : Cx) (N : Nat) (pS : List Int) (a : Nat) : Prop where
  size : w.heap.size = N + 3 + a
  done : ∀ j, j < a → ObjAt w (N + 2) (j * 3) (N + 3 + j) c.nn (c.init (pS.getD j 0).toNat).held (c.init (pS.getD j 0).toNat).giv (c.init (pS.getD j 0).toNat).tr
  h0 : ∀ j, a ≤ j → j < pS.length → (w.cell? ⟨N + 2, j * 3, none⟩).isSome = true
  h1 : ∀ j, a ≤ j → j < pS.length → w.cell? ⟨N + 2, j * 3 + 1, none⟩ = some (.int .i64 0)
  h2 : ∀ j, a ≤ j → j < pS.length → w.cell? ⟨N + 2, j * 3 + 2, none⟩ = some (.int .i64 0)
  fr : ∀ o, w.frozen? ⟨N + 2, o, none⟩ = false
  only : Only (fun k => k = N + 2) W0 w

theorem making_start {w : World} {c : Cx} {N : Nat} {pS : List Int} (hN : w.heap.size = N + 2) :
    Making (w.alloc (.cells (madeCells #[.slice none 0 0, .int .i64 0, .int .i64 0] (pS.length * 3)) 52 (0, 0))) (w.alloc (.cells (madeCells #[.slice none 0 0, .int .i64 0, .int .i64 0] (pS.length * 3)) 52 (0, 0))) c N pS 0 := by
  refine ⟨by simp [hN], fun j hj => absurd hj (Nat.not_lt_zero _), fun j _ hj => ?_, fun j _ hj => ?_, fun j _ hj => ?_, fun o => ?_, Only.refl _ _⟩
  · rw [← hN, cell_new, (made_three _ _ _ hj).1]; rfl
  · rw [← hN, cell_new, (made_three _ _ _ hj).2.1]
  · rw [← hN, cell_new, (made_three _ _ _ hj).2.2]
  · rw [← hN, froz_new]

theorem ObjAt.set_far {w : World} {ob oo hb nn : Nat} {held : Nat → Int} {giv tr : Int} (h : ObjAt w ob oo hb nn held giv tr) (o : Nat) (u : Value) (h0 : o ≠ oo) (h1 : o ≠ oo + 1) (h2 : o ≠ oo + 2) : ObjAt (w.setCell ⟨ob, o, none⟩ u) ob oo hb nn held giv tr := by
  have oth : ∀ x, o ≠ x → (w.setCell ⟨ob, o, none⟩ u).cell? ⟨ob, x, none⟩ = w.cell? ⟨ob, x, none⟩ := fun x hx => World.cell?_setCell_other w _ _ _ (fun e => hx (congrArg Addr.off e))
  exact ⟨(oth _ h0).trans h.c0, (oth _ h1).trans h.c1, (oth _ h2).trans h.c2, by simpa using h.f1, by simpa using h.f2, fun k hk => (World.cell?_of_block (a := ⟨hb, k, none⟩) (Below.heap_setCell _ _ _ _ (by simpa using h.ne.symm))).trans (h.hc k hk), fun k => by simpa using h.hf k, h.ne⟩

/-- the new object's row -/
theorem new_row (w : World) (c : Cx) (p : Nat) (i : Nat) (hi : i < c.nn) : (w.alloc (.cells ((madeCells #[.int .i64 0] c.nn).setIfInBounds p (.int .i64 c.copies)) 3 (0, 0))).cell? ⟨w.heap.size, i, none⟩ = some (.int .i64 ((c.init p).held i)) := by
  rw [cell_new, Array.getElem?_setIfInBounds]
  show _ = some (Value.int .i64 (fupd (fun _ => 0) p c.copies i))
  by_cases e : p = i
  · subst e
    rw [if_pos rfl, if_pos (by rw [size_madeCells]; exact hi), fupd_same]
  · rw [if_neg e, made_one _ hi, fupd_other _ _ (fun e' => e e'.symm)]

theorem Making.next {W0 w : World} {c : Cx} {N : Nat} {pS : List Int} {a : Nat} (h : Making W0 w c N pS a) (ha : a < pS.length) {p : Nat} (hp : pS.getD a 0 = (p : Int)) (w1 : World) (g : Int) (hg : g = if 1 < c.copies then 1 else 0)
    (hw1 : w1 = w.setCell ⟨N + 2, a * 3, none⟩ (.slice (some ⟨w.heap.size, 0, none⟩) c.nn c.nn) ∧ g = 0 ∨ w1 = (w.setCell ⟨N + 2, a * 3, none⟩ (.slice (some ⟨w.heap.size, 0, none⟩) c.nn c.nn)).setCell ⟨N + 2, a * 3 + 1, none⟩ (.int .i64 1) ∧ g = 1) :
    Making W0 (w1.alloc (.cells ((madeCells #[.int .i64 0] c.nn).setIfInBounds p (.int .i64 c.copies)) 3 (0, 0))) c N pS (a + 1) := by
  have hs1 : w1.heap.size = w.heap.size := by rcases hw1 with ⟨rfl, _⟩ | ⟨rfl, _⟩ <;> simp
  have hsz := h.size
  have hx0 := h.h0 a (Nat.le_refl _) ha
  have hx1 := h.h1 a (Nat.le_refl _) ha
  have hx2 := h.h2 a (Nat.le_refl _) ha
  have oth : ∀ x, x ≠ a * 3 → x ≠ a * 3 + 1 → w1.cell? ⟨N + 2, x, none⟩ = w.cell? ⟨N + 2, x, none⟩ := by
    intro x h0 h1
    have e0 : (⟨N + 2, a * 3, none⟩ : Addr) ≠ ⟨N + 2, x, none⟩ := fun e => h0 (congrArg Addr.off e).symm
    have e1 : (⟨N + 2, a * 3 + 1, none⟩ : Addr) ≠ ⟨N + 2, x, none⟩ := fun e => h1 (congrArg Addr.off e).symm
    rcases hw1 with ⟨rfl, _⟩ | ⟨rfl, _⟩
    · exact World.cell?_setCell_other w _ _ _ e0
    · exact (World.cell?_setCell_other _ _ _ _ e1).trans (World.cell?_setCell_other w _ _ _ e0)
  have ne01 : (⟨N + 2, a * 3 + 1, none⟩ : Addr) ≠ ⟨N + 2, a * 3, none⟩ := fun e => by have := congrArg Addr.off e; simp at this
  have ne10 : (⟨N + 2, a * 3, none⟩ : Addr) ≠ ⟨N + 2, a * 3 + 1, none⟩ := fun e => ne01 e.symm
  have same0 : w1.cell? ⟨N + 2, a * 3, none⟩ = some (.slice (some ⟨w.heap.size, 0, none⟩) c.nn c.nn) := by
    have e := World.cell?_setCell_same' w ⟨N + 2, a * 3, none⟩ (.slice (some ⟨w.heap.size, 0, none⟩) c.nn c.nn) hx0
    rcases hw1 with ⟨rfl, _⟩ | ⟨rfl, _⟩
    · exact e
    · exact (World.cell?_setCell_other _ _ _ _ ne01).trans e
  have same1 : w1.cell? ⟨N + 2, a * 3 + 1, none⟩ = some (.int .i64 g) := by
    have e := (World.cell?_setCell_other w ⟨N + 2, a * 3, none⟩ ⟨N + 2, a * 3 + 1, none⟩ (.slice (some ⟨w.heap.size, 0, none⟩) c.nn c.nn) ne10).trans hx1
    rcases hw1 with ⟨rfl, rfl⟩ | ⟨rfl, rfl⟩
    · exact e
    · exact World.cell?_setCell_same' _ _ _ (by rw [e]; rfl)
  have fr1 : ∀ o, w1.frozen? ⟨N + 2, o, none⟩ = false := fun o => by rcases hw1 with ⟨rfl, _⟩ | ⟨rfl, _⟩ <;> simpa using h.fr o
  have o1 : Only (fun k => k = N + 2) w w1 := by
    rcases hw1 with ⟨rfl, _⟩ | ⟨rfl, _⟩
    · exact Only.setCell w ⟨N + 2, a * 3, none⟩ _
    · exact (Only.setCell w ⟨N + 2, a * 3, none⟩ _).trans (Only.setCell _ ⟨N + 2, a * 3 + 1, none⟩ _)
  have o2 : Only (fun _ => False) w1 (w1.alloc (.cells ((madeCells #[.int .i64 0] c.nn).setIfInBounds p (.int .i64 c.copies)) 3 (0, 0))) := Only.alloc _ _ _
  have ob2 : ∀ o, (w1.alloc (.cells ((madeCells #[.int .i64 0] c.nn).setIfInBounds p (.int .i64 c.copies)) 3 (0, 0))).cell? ⟨N + 2, o, none⟩ = w1.cell? ⟨N + 2, o, none⟩ := fun o => o2.cellAt (N + 2) o (by omega) (fun h => h)
  have of2 : ∀ o, (w1.alloc (.cells ((madeCells #[.int .i64 0] c.nn).setIfInBounds p (.int .i64 c.copies)) 3 (0, 0))).frozen? ⟨N + 2, o, none⟩ = false := fun o => (o2.frozenAt (N + 2) o (by omega) (fun h => h)).trans (fr1 o)
  refine ⟨by simp; omega, fun j hj => ?_, fun j h1 h2 => ?_, fun j h1 h2 => ?_, fun j h1 h2 => ?_, of2, h.only.trans (o1.trans (o2.mono fun _ _ f => f.elim))⟩
  · by_cases e : j = a
    · subst e
      have hb : N + 3 + j = w1.heap.size := by omega
      rw [hp, Int.toNat_natCast]
      refine ⟨(ob2 _).trans (same0.trans (by rw [hsz])), (ob2 _).trans (same1.trans ?_), (ob2 _).trans ((oth _ (by omega) (by omega)).trans hx2), of2 _, of2 _, fun i hi => ?_, fun i => ?_, by omega⟩
      · rw [hg]; rfl
      · rw [hb]; exact new_row w1 c p i hi
      · rw [hb]; exact froz_new w1 _ _ _
    · have o := h.done j (by omega)
      have hlt : N + 3 + j < w.heap.size := by omega
      refine ⟨(ob2 _).trans ((oth _ (by omega) (by omega)).trans o.c0), (ob2 _).trans ((oth _ (by omega) (by omega)).trans o.c1), (ob2 _).trans ((oth _ (by omega) (by omega)).trans o.c2), of2 _, of2 _, fun i hi => ?_, fun i => ?_, o.ne⟩
      · exact (o2.cellAt _ _ (by omega) (fun h => h)).trans ((o1.cellAt _ _ hlt (by omega)).trans (o.hc i hi))
      · exact (o2.frozenAt _ _ (by omega) (fun h => h)).trans ((o1.frozenAt _ _ hlt (by omega)).trans (o.hf i))
  · rw [ob2, oth _ (by omega) (by omega)]; exact h.h0 j (by omega) h2
  · rw [ob2, oth _ (by omega) (by omega)]; exact h.h1 j (by omega) h2
  · rw [ob2, oth _ (by omega) (by omega)]; exact h.h2 j (by omega) h2

/-- the rows of since and served, and their boxes -/
structure Boxes (w w' : World) (m sb vb sx vx : Nat) : Prop where
  only : Only (fun _ => False) w w'
  size : w'.heap.size = w.heap.size + 4
  s : w.heap.size ≤ sb ∧ sb < w.heap.size + 4
  v : w.heap.size ≤ vb ∧ vb < w.heap.size + 4
  x : w.heap.size ≤ sx ∧ sx < w.heap.size + 4
  y : w.heap.size ≤ vx ∧ vx < w.heap.size + 4
  ne : sb ≠ vb ∧ sb ≠ sx ∧ sb ≠ vx ∧ vb ≠ sx ∧ vb ≠ vx ∧ sx ≠ vx
  hs : w'.heap[sb]? = some (.cells (madeCells #[.int .i64 0] m) 3 (0, 0))
  hv : w'.heap[vb]? = some (.cells (madeCells #[.bool false] m) 4 (0, 0))
  hx : w'.heap[sx]? = some (.cells #[.slice (some ⟨sb, 0, none⟩) m m] 22 (0, 0))
  hy : w'.heap[vx]? = some (.cells #[.slice (some ⟨vb, 0, none⟩) m m] 53 (0, 0))

theorem four_new (w : World) (o0 o1 o2 o3 : Obj) : ((((w.alloc o0).alloc o1).alloc o2).alloc o3).heap[w.heap.size]? = some o0 ∧ ((((w.alloc o0).alloc o1).alloc o2).alloc o3).heap[w.heap.size + 1]? = some o1 ∧ ((((w.alloc o0).alloc o1).alloc o2).alloc o3).heap[w.heap.size + 1 + 1]? = some o2 ∧ ((((w.alloc o0).alloc o1).alloc o2).alloc o3).heap[w.heap.size + 1 + 1 + 1]? = some o3 ∧
    Only (fun _ => False) w ((((w.alloc o0).alloc o1).alloc o2).alloc o3) ∧ ((((w.alloc o0).alloc o1).alloc o2).alloc o3).heap.size = w.heap.size + 4 := by
  have s1 : (w.alloc o0).heap.size = w.heap.size + 1 := by simp
  have s2 : ((w.alloc o0).alloc o1).heap.size = w.heap.size + 1 + 1 := by simp
  have s3 : (((w.alloc o0).alloc o1).alloc o2).heap.size = w.heap.size + 1 + 1 + 1 := by simp
  have n0 := heap_alloc_new w o0
  have n1 := heap_alloc_new (w.alloc o0) o1
  have n2 := heap_alloc_new ((w.alloc o0).alloc o1) o2
  have n3 := heap_alloc_new (((w.alloc o0).alloc o1).alloc o2) o3
  rw [s1] at n1
  rw [s2] at n2
  rw [s3] at n3
  refine ⟨?_, ?_, ?_, n3, ((Only.alloc _ _ _).trans (Only.alloc _ _ _)).trans ((Only.alloc _ _ _).trans (Only.alloc _ _ _)), by simp⟩
  · rw [Below.heap_alloc _ _ _ (by omega), Below.heap_alloc _ _ _ (by omega), Below.heap_alloc _ _ _ (by omega)]; exact n0
  · rw [Below.heap_alloc _ _ _ (by omega), Below.heap_alloc _ _ _ (by omega)]; exact n1
  · rw [Below.heap_alloc _ _ _ (by omega)]; exact n2
theorem boxes_mk {w w' : World} {m sb vb sx vx : Nat} (hx : w'.heap[sx]? = some (.cells #[.slice (some ⟨sb, 0, none⟩) m m] 22 (0, 0))) (hy : w'.heap[vx]? = some (.cells #[.slice (some ⟨vb, 0, none⟩) m m] 53 (0, 0))) (hs : w'.heap[sb]? = some (.cells (madeCells #[.int .i64 0] m) 3 (0, 0))) (hv : w'.heap[vb]? = some (.cells (madeCells #[.bool false] m) 4 (0, 0)))
    (only : Only (fun _ => False) w w') (size : w'.heap.size = w.heap.size + 4) (lo : w.heap.size ≤ sb ∧ w.heap.size ≤ vb ∧ w.heap.size ≤ sx ∧ w.heap.size ≤ vx) : Boxes w w' m sb vb sx vx := by
  have l1 := (Array.getElem?_eq_some_iff.1 hx).1
  have l2 := (Array.getElem?_eq_some_iff.1 hy).1
  have l3 := (Array.getElem?_eq_some_iff.1 hs).1
  have l4 := (Array.getElem?_eq_some_iff.1 hv).1
  refine ⟨only, size, by omega, by omega, by omega, by omega, ⟨?_, ?_, ?_, ?_, ?_, ?_⟩, hs, hv, hx, hy⟩
  · rintro rfl; rw [hs] at hv; simp at hv
  · rintro rfl; rw [hs] at hx; simp at hx
  · rintro rfl; rw [hs] at hy; simp at hy
  · rintro rfl; rw [hv] at hx; simp at hx
  · rintro rfl; rw [hv] at hy; simp at hy
  · rintro rfl; rw [hx] at hy; simp at hy

/-- behind the statement that makes the four -/
def AfterBoxes (w : World) (m : Nat) (s12 s13 : Value) (wx : World) : Prop := ∃ sb vb sx vx : Nat, s12 = .pointer (some ⟨sx, 0, none⟩) ∧ s13 = .pointer (some ⟨vx, 0, none⟩) ∧ Boxes w wx m sb vb sx vx
theorem after_perm {w : World} {m : Nat} {o0 o1 o2 o3 : Obj} {s12 s13 : Value} (h : ∀ W : World, W.heap[w.heap.size]? = some o0 → W.heap[w.heap.size + 1]? = some o1 → W.heap[w.heap.size + 1 + 1]? = some o2 → W.heap[w.heap.size + 1 + 1 + 1]? = some o3 → Only (fun _ => False) w W → W.heap.size = w.heap.size + 4 → AfterBoxes w m s12 s13 W) :
    Hid (AfterBoxes w m s12 s13 ((((w.alloc o0).alloc o1).alloc o2).alloc o3).drew) := by
  obtain ⟨h0, h1, h2, h3, hO, hS⟩ := four_new w o0 o1 o2 o3
  exact h _ h0 h1 h2 h3 ⟨hO.os, hO.tape, hO.output, hO.size, hO.block⟩ hS
end Go.Proofs.Qxb6612920a.spray
