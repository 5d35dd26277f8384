import Derived.Test.Qxb6612920aEnds
namespace Go.Proofs.Qxb6612920a.spray
open Go.RowKit Go.PlainAid

/-! ### What came in -/
/-- a row of numbers, wherever it lies -/
def InAt (w : World) (q : IntKind) (v : Value) (zs : List Int) : Prop :=
  ∃ p cap, v = .slice p zs.length cap ∧ (p = none → zs = [] ∧ cap = 0) ∧ (zs = [] ∨ ∃ g o, p = some ⟨g, o, none⟩ ∧ g < w.heap.size ∧ ∀ i, i < zs.length → w.cell? ⟨g, o + i, none⟩ = some (.int q (zs.getD i 0)))
def InPairs (w : World) (v : Value) (ps : List (Int × Int)) : Prop :=
  ∃ p cap, v = .slice p ps.length cap ∧ (p = none → ps = [] ∧ cap = 0) ∧ (ps = [] ∨ ∃ g o, p = some ⟨g, o, none⟩ ∧ g < w.heap.size ∧ ∀ i, i < ps.length → w.cell? ⟨g, o + i * 2, none⟩ = some (.int .i32 (ps.getD i (0, 0)).1) ∧ w.cell? ⟨g, o + i * 2 + 1, none⟩ = some (.int .i32 (ps.getD i (0, 0)).2))
def InChg (w : World) (v : Value) (cs : List (List (Int × Int))) : Prop :=
  ∃ p cap, v = .slice p cs.length cap ∧ (p = none → cs = [] ∧ cap = 0) ∧ (cs = [] ∨ ∃ g o, p = some ⟨g, o, none⟩ ∧ g < w.heap.size ∧ ∀ s, s < cs.length → ∃ rv, w.cell? ⟨g, o + s, none⟩ = some rv ∧ InPairs w rv (cs.getD s []))
theorem InAt.stay {w w' : World} {q : IntKind} {v : Value} {zs : List Int} (h : InAt w q v zs) (hb : Below w.heap.size w w') : InAt w' q v zs := by
  obtain ⟨p, cap, e, h1, h2⟩ := h
  refine ⟨p, cap, e, h1, ?_⟩
  rcases h2 with h2 | ⟨g, o, e2, h3, h4⟩
  · exact Or.inl h2
  · exact Or.inr ⟨g, o, e2, Nat.lt_of_lt_of_le h3 hb.size, fun i hi => (hb.cell (p := ⟨g, o + i, none⟩) h3).trans (h4 i hi)⟩
theorem InPairs.stay {w w' : World} {v : Value} {zs : List (Int × Int)} (h : InPairs w v zs) (hb : Below w.heap.size w w') : InPairs w' v zs := by
  obtain ⟨p, cap, e, h1, h2⟩ := h
  refine ⟨p, cap, e, h1, ?_⟩
  rcases h2 with h2 | ⟨g, o, e2, h3, h4⟩
  · exact Or.inl h2
  · exact Or.inr ⟨g, o, e2, Nat.lt_of_lt_of_le h3 hb.size, fun i hi => ⟨(hb.cell (p := ⟨g, o + i * 2, none⟩) h3).trans (h4 i hi).1, (hb.cell (p := ⟨g, o + i * 2 + 1, none⟩) h3).trans (h4 i hi).2⟩⟩
theorem InChg.stay {w w' : World} {v : Value} {zs : List (List (Int × Int))} (h : InChg w v zs) (hb : Below w.heap.size w w') : InChg w' v zs := by
  obtain ⟨p, cap, e, h1, h2⟩ := h
  refine ⟨p, cap, e, h1, ?_⟩
  rcases h2 with h2 | ⟨g, o, e2, h3, h4⟩
  · exact Or.inl h2
  · refine Or.inr ⟨g, o, e2, Nat.lt_of_lt_of_le h3 hb.size, fun i hi => ?_⟩
    obtain ⟨rv, h5, h6⟩ := h4 i hi
    exact ⟨rv, (hb.cell (p := ⟨g, o + i, none⟩) h3).trans h5, h6.stay hb⟩

theorem add_off (g o i : Nat) : (⟨g, o, none⟩ : Addr).add i = ⟨g, o + i, none⟩ := by
  by_cases h0 : i = 0
  · subst h0; simp [Addr.add]
  · simp [Addr.add, h0]
theorem splice_all {α : Type} (cur cs : List α) (h : cur.length = cs.length) : splice cur 0 cs = cs := by
  simp [splice, ← h]
theorem row_of_block {w : World} {q : IntKind} {g cap : Nat} {t : TypeId} {zs : List Int} (h : w.heap[g]? = some (.cells (zs.map (Value.int q)).toArray t (0, 0))) : RowAt w w.heap.size q (.slice (some ⟨g, 0, none⟩) zs.length cap) zs := by
  have hl := blk_lt h
  refine ⟨_, cap, rfl, Or.inr ⟨g, rfl, hl, hl, fun i hi => ?_⟩⟩
  rw [blk_cell h i (by simpa using hi)]
  simp [List.getD, hi]
theorem ints_one (q : IntKind) (zs : List Int) : ∀ v ∈ zs.map (Value.int q), v.oneCell' = true := by
  intro v hv
  obtain ⟨x, _, rfl⟩ := List.mem_map.1 hv
  rfl
theorem info21 : (Try.prog.info? 21).map (fun i => (i.zero, i.size, i.bytes)) = some (some (.int .i32 0), 1, 4) := by kernel_rfl
theorem size21 : (Try.prog.info? 21).map (·.size) = some 1 := by kernel_rfl
theorem make21 (w : World) (n : Nat) (hn : n ≤ 1099511627776) : (Instr.makeSlice 24 (.int .i64 (n : Int)) (.int .i64 (n : Int))).run Try.prog w = .ok (.slice (some ⟨w.heap.size, 0, none⟩) n n) (w.alloc (.cells (madeCells #[.int .i32 0] n) 21)) := by
  obtain ⟨i0, hi, hz0, hz1, hz2⟩ := info_parts info21
  have h := run_make (P := Try.prog) w 24 21 i0 (.int .i32 0) Try.underlying24 hi hz0 .i64 .i64 n n (by omega) (Int.le_refl _) (by rw [hz2]; omega) (by omega)
  simpa [hz1, Value.cells] using h
/-- copy of elements of z cells each into a row that is known whole -/
theorem run_copy_wide {P : Program} (w : World) (dT sT ty elem : TypeId) (z g n dCap : Nat) (a : Addr) (sCap : Nat) (cur : Array Value) (t : TypeId) (cs : List Value)
    (hu : P.underlying dT = some (.slice elem)) (hs : (P.info? elem).map (·.size) = some z)
    (hg : w.heap[g]? = some (.cells cur t (0, 0))) (hn : cs.length = n * z)
    (hsrc : ∀ j v, cs[j]? = some v → w.cell? (a.add j) = some v) (hfit : cur.size = cs.length) (h1 : ∀ v ∈ cs, v.oneCell' = true) :
    ∃ w', (Builtin.copy_ #[dT, sT] ty #[.slice (some ⟨g, 0, none⟩) n dCap, .slice (some a) n sCap]).run P w = .ok (goInt n) w' ∧ w'.heap[g]? = some (.cells cs.toArray t (0, 0)) ∧ Only (fun k => k = g) w w' := by
  have hl := run_loadCells_list (P := P) w a cs hsrc
  have hst := run_storeCells_at P g 0 t cs 0 cur w hg (by omega) h1
  have e : (cur.toList.take (0 + 0) ++ cs ++ cur.toList.drop (0 + 0 + cs.length)).toArray = cs.toArray := by
    rw [List.drop_of_length_le (by simp; omega)]; simp
  rw [e] at hst
  refine ⟨w.setRow g cs.toArray, ?_, setRow_heap w g cur _ t _ hg, ⟨rfl, rfl, rfl, by simp, fun k _ hk => setRow_other w g k _ hk⟩⟩
  cases hq : P.info? elem with
  | none => simp [hq] at hs
  | some i =>
    have hi : i.size = z := by simpa [hq] using hs
    simp [Builtin.copy_, run_underlying hu, Builtin.lenOf, Builtin.firstCells, sizeOf, typeInfo, hq, hi, ← hn, hl, hst]
theorem src_of {w : World} {q : IntKind} {x : Addr} {zs : List Int} (o1 : Obj) (h : zs = [] ∨ ∃ g o, some x = some ⟨g, o, none⟩ ∧ g < w.heap.size ∧ ∀ i, i < zs.length → w.cell? ⟨g, o + i, none⟩ = some (.int q (zs.getD i 0))) :
    ∀ j v, (zs.map (Value.int q))[j]? = some v → (w.alloc o1).cell? (x.add j) = some v := by
  rcases h with rfl | ⟨g, o, e, hg, hc⟩
  · intro j v hj; simp at hj
  · obtain rfl := Option.some.inj e
    intro j v hj
    have hl : j < zs.length := by have := (List.getElem?_eq_some_iff.1 hj).1; simpa using this
    rw [add_off, (Only.alloc (fun _ => False) w o1).cellAt g (o + j) hg (fun h => h), hc j hl, ← hj]
    simp [List.getD, hl]

set_option maxRecDepth 100000 in
theorem clone_ints (v : Value) (zs : List Int) (w : World) (h : InAt w .i64 v zs) (hl : zs.length ≤ 1099511627776) :
    Calls Try.prog 7 #[v] w fun r w' => ∃ v', r = .returned v' ∧ RowAt w' w'.heap.size .i64 v' zs ∧ Below w.heap.size w w' := by
  obtain ⟨p, cap, rfl, hnil, hrow⟩ := h
  cases p with
  | none =>
    obtain ⟨rfl, rfl⟩ := hnil rfl
    clear hnil hrow
    have he : ∀ w : World, (binOp .eql 22 (.slice none 0 0) (.slice none 0 0)).run Try.prog w = .ok (.bool true) w := fun _ => rfl
    go_enter Try.func7, Try.ntmps7
    go_wp2_with fail
    go_ret
    exact ⟨_, rfl, ⟨none, 0, rfl, Or.inl rfl⟩, Below.refl _ _⟩
  | some x =>
    have m1 := make3 w zs.length hl
    obtain ⟨w2, hcp, hrow2, ho2⟩ := run_copy_wide (P := Try.prog) (w.alloc (.cells (madeCells #[.int .i64 0] zs.length) 3 (0, 0))) 22 22 3 3 1 w.heap.size zs.length zs.length x cap (madeCells #[.int .i64 0] zs.length) 3 (zs.map (Value.int .i64)) Try.underlying22 size3 (heap_alloc_new w _) (by simp) (src_of _ hrow) (by simp [size_madeCells]) (ints_one _ _)
    have he : ∀ w : World, (binOp .eql 22 (.slice (some x) zs.length cap) (.slice none 0 0)).run Try.prog w = .ok (.bool false) w := fun _ => rfl
    have Hend : Hid (RowAt w2 w2.heap.size .i64 (.slice (some ⟨w.heap.size, 0, none⟩) zs.length zs.length) zs ∧ Below w.heap.size w w2) :=
      ⟨row_of_block hrow2, ((Below.refl _ w).alloc (Nat.le_refl _) _).trans (ho2.below (by simp) (by omega))⟩
    clear hrow hnil hrow2 ho2
    go_enter Try.func7, Try.ntmps7
    go_wp2_with fail
    go_ret
    exact ⟨_, rfl, Hend.out⟩
set_option maxRecDepth 100000 in
theorem clone_int32s (v : Value) (zs : List Int) (w : World) (h : InAt w .i32 v zs) (hl : zs.length ≤ 1099511627776) :
    Calls Try.prog 9 #[v] w fun r w' => ∃ v', r = .returned v' ∧ RowAt w' w'.heap.size .i32 v' zs ∧ Below w.heap.size w w' := by
  obtain ⟨p, cap, rfl, hnil, hrow⟩ := h
  cases p with
  | none =>
    obtain ⟨rfl, rfl⟩ := hnil rfl
    clear hnil hrow
    have he : ∀ w : World, (binOp .eql 24 (.slice none 0 0) (.slice none 0 0)).run Try.prog w = .ok (.bool true) w := fun _ => rfl
    go_enter Try.func9, Try.ntmps9
    go_wp2_with fail
    go_ret
    exact ⟨_, rfl, ⟨none, 0, rfl, Or.inl rfl⟩, Below.refl _ _⟩
  | some x =>
    have m1 := make21 w zs.length hl
    obtain ⟨w2, hcp, hrow2, ho2⟩ := run_copy_wide (P := Try.prog) (w.alloc (.cells (madeCells #[.int .i32 0] zs.length) 21 (0, 0))) 24 24 3 21 1 w.heap.size zs.length zs.length x cap (madeCells #[.int .i32 0] zs.length) 21 (zs.map (Value.int .i32)) Try.underlying24 size21 (heap_alloc_new w _) (by simp) (src_of _ hrow) (by simp [size_madeCells]) (ints_one _ _)
    have he : ∀ w : World, (binOp .eql 24 (.slice (some x) zs.length cap) (.slice none 0 0)).run Try.prog w = .ok (.bool false) w := fun _ => rfl
    have Hend : Hid (RowAt w2 w2.heap.size .i32 (.slice (some ⟨w.heap.size, 0, none⟩) zs.length zs.length) zs ∧ Below w.heap.size w w2) :=
      ⟨row_of_block hrow2, ((Below.refl _ w).alloc (Nat.le_refl _) _).trans (ho2.below (by simp) (by omega))⟩
    clear hrow hnil hrow2 ho2
    go_enter Try.func9, Try.ntmps9
    go_wp2_with fail
    go_ret
    exact ⟨_, rfl, Hend.out⟩
end Go.Proofs.Qxb6612920a.spray
