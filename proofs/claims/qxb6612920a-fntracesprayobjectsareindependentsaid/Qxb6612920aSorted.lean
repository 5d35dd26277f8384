import Derived.Test.Qxb6612920aShelf
import Derived.Test.Qxb6612920aLists
import Derived.WalkKit
import Derived.WalkSpells
import Derived.WalkLawsBesides
import Derived.Maps.OwnRows
import Derived.Laws.CopyOwn
import Derived.Deep.RegionHeld3
import Derived.Lib.Hide
namespace Go.Proofs.Qxb6612920a.spray
open Go.RowKit Go.PlainAid

theorem info3 : (Try.prog.info? 3).map (fun i => (i.zero, i.size, i.bytes)) = some (some (.int .i64 0), 1, 8) := by kernel_rfl
theorem size3 : (Try.prog.info? 3).map (·.size) = some 1 := by kernel_rfl

/-- sort.SearchInts over an owned, ascending row -/
theorem search_own (base : Nat) (v : Value) (zs : List Int) (x : Int) (w : World) (h : w.ownsRow base 3 1 v zs.length (zs.map (Value.int .i64))) (ha : Asc zs) (hl : zs.length < 4611686018427387904) :
    Calls Try.prog 26 #[v, .int .i64 x] w fun e w' => e = .returned (.int .i64 (cntLt zs x)) ∧ Below w.heap.size w w' := by
  rcases h.2 with ⟨rfl, h0⟩ | ⟨g, cap, cur, rfl, _⟩
  · have hz : zs = [] := List.eq_nil_of_length_eq_zero h0
    subst hz
    exact Any.sort_SearchInts_none Try.searchInts none 0 x w
  · have := Any.sort_SearchInts Try.searchInts g 0 cap zs.toArray x w (fun i hi => by
      have hi' : i < zs.length := by simpa using hi
      rw [Nat.zero_add, h.cellAt i (by omega), getElem!_pos zs.toArray i hi]
      simp [hi']) (h.lt g rfl).2 (by simpa using hl) (asc_mono x ha)
    exact this

/-- copy inside a row that is known whole, as a step of a region that draws: all other blocks are as they were -/
theorem step_copy_in {P : Program} {ops : Array Oper} {o : Oper} {a : Act} {w : World} {K : Act → World → Prop} {Q : Exit → Act → World → Prop} {E : Prop} (hgd : o.guard = none) (d s : Operand) (dT sT : TypeId)
    (ho : o.op = .call { callee := .builtin .copy, args := #[d, s], argTypes := #[dT, sT] }) (elem : TypeId) (hu : P.underlying dT = some (.slice elem)) (hsz : (P.info? elem).map (·.size) = some 1)
    (dp sp : Option Addr) (dLen dCap sLen sCap : Nat) (hd : a.eval d = .slice dp dLen dCap) (hs : a.eval s = .slice sp sLen sCap)
    (g off : Nat) (cur : List Value) (t : TypeId) (hg : w.heap[g]? = some (.cells cur.toArray t (0, 0))) (cs : List Value) (hn : cs.length = Nat.min sLen dLen)
    (hpos : 0 < cs.length → dp = some ⟨g, off, none⟩ ∧ ∃ ad, sp = some ad ∧ ∀ j v, cs[j]? = some v → w.cell? (ad.add j) = some v)
    (hfit : off + cs.length ≤ cur.length) (h1 : ∀ v ∈ cs, v.oneCell' = true)
    (h : ∀ w', Hid (w'.heap[g]? = some (.cells (splice cur off cs).toArray t (0, 0))) → w.grownBy w' (some g) → K (a.put o.dst (goInt cs.length)) w') :
    if Region.wanted o (yielded ops a.tmps) = true then Oper.wp P o a w K Q else E := by
  have hw : Region.wanted o (yielded ops a.tmps) = true := by simp [Region.wanted, hgd]
  rw [if_pos hw]
  by_cases h0 : cs.length = 0
  · obtain rfl : cs = [] := List.eq_nil_of_length_eq_zero h0
    have hrun := run_copy_none (P := P) w dT sT o.type elem dp sp dLen dCap sLen sCap hu hsz (by simpa using hn.symm)
    unfold Oper.wp
    simp [execOp, ho, resolve, invoke, builtin, hd, hs, hrun, Result.andThen]
    exact h w (show _ = _ by simpa [splice] using hg) (World.grownBy.refl w _)
  · obtain ⟨rfl, ad, rfl, hsrc⟩ := hpos (by omega)
    have hrun := run_copy_row (P := P) w dT sT o.type elem g off dLen dCap ad sLen sCap cur.toArray t cs hu hsz hg hn hsrc (by simpa using hfit) h1
    unfold Oper.wp
    simp [execOp, ho, resolve, invoke, builtin, hd, hs, hrun, Result.andThen]
    exact h _ (show _ = _ by simpa [splice] using setRow_heap w g _ _ t _ hg) ⟨rfl, rfl, rfl, by simp [World.setRow], fun k _ hk => setRow_other w g k _ (fun e => hk (by rw [e]))⟩

/-! ### A block that is known whole -/
theorem blk_cell {w : World} {g : Nat} {l : List Value} {t : TypeId} (h : w.heap[g]? = some (.cells l.toArray t (0, 0))) (i : Nat) (hi : i < l.length) : w.cell? ⟨g, i, none⟩ = some l[i] := by
  simp [World.cell?, h, hi]
theorem blk_frozen {w : World} {g : Nat} {l : List Value} {t : TypeId} (h : w.heap[g]? = some (.cells l.toArray t (0, 0))) (i : Nat) : w.frozen? ⟨g, i, none⟩ = false := by
  simp [World.frozen?, h]
theorem blk_set {w : World} {g : Nat} {l : List Value} {t : TypeId} (h : w.heap[g]? = some (.cells l.toArray t (0, 0))) (i : Nat) (u : Value) : (w.setCell ⟨g, i, none⟩ u).heap[g]? = some (.cells (l.set i u).toArray t (0, 0)) := by
  have := heap_setCell_same w g i l.toArray t u h
  simpa using this
theorem blk_lt {w : World} {g : Nat} {o : Obj} (h : w.heap[g]? = some o) : g < w.heap.size := (Array.getElem?_eq_some_iff.1 h).1

theorem grown_trans {a b c : World} {row : Option Nat} {g : Nat} (h : a.grownBy b row) (k : b.grownBy c (some g)) (hg : row = some g ∨ a.heap.size ≤ g) : a.grownBy c row :=
  ⟨k.os.trans h.os, k.tape.trans h.tape, k.output.trans h.output, Nat.le_trans h.size k.size, fun i hi hne => (k.block i (Nat.lt_of_lt_of_le hi h.size) (fun e => by
    cases e
    rcases hg with rfl | hg
    · exact hne rfl
    · omega)).trans (h.block i hi hne)⟩
theorem grown_set {a b : World} {row : Option Nat} {g : Nat} (h : a.grownBy b row) (i : Nat) (u : Value) (hg : row = some g ∨ a.heap.size ≤ g) : a.grownBy (b.setCell ⟨g, i, none⟩ u) row :=
  grown_trans h ⟨rfl, rfl, rfl, by simp, fun k _ hk => heap_setCell_other b ⟨g, i, none⟩ k u (fun e => hk (by rw [e]))⟩ hg

theorem grown_trans' {a b c : World} {row : Option Nat} {o : Obj} (h : a.grownBy b row) (k : (b.alloc o).grownBy c row) : a.grownBy c row :=
  ⟨k.os.trans h.os, k.tape.trans h.tape, k.output.trans h.output, Nat.le_trans h.size (Nat.le_trans (by simp) k.size), fun i hi hne => ((k.block i (by have := h.size; simp; omega) hne).trans (Below.heap_alloc b o i (by have := h.size; omega))).trans (h.block i hi hne)⟩

/-- the row behind insert -/
theorem ins_row (zs : List Int) (x : Int) (cur cs : List Value) (i : Nat) (hi : i ≤ zs.length) (htake : cur.take (zs.length + 1) = zs.map (Value.int .i64) ++ [.int .i64 0]) (hcs : cs = (zs.drop i).map (Value.int .i64)) :
    ((splice cur (i + 1) cs).set i (.int .i64 x)).take (zs.length + 1) = (zs.take i ++ x :: zs.drop i).map (Value.int .i64) := by
  have hl : zs.length + 1 ≤ cur.length := by
    have := congrArg List.length htake
    simp at this
    omega
  have h1 : cur.take i = (zs.take i).map (Value.int .i64) := by
    have h2 : (cur.take (zs.length + 1)).take i = cur.take i := by rw [List.take_take, Nat.min_eq_left (by omega)]
    rw [← h2, htake, List.take_append_of_le_length (by simp; omega), List.map_take]
  have hcl : cs.length = zs.length - i := by rw [hcs]; simp
  apply List.ext_getElem?
  intro j
  by_cases hj : j < zs.length + 1
  · rw [List.getElem?_take_of_lt hj]
    by_cases hji : j = i
    · subst hji
      rw [List.getElem?_set_self (by rw [length_splice _ _ _ (by omega)]; omega), List.map_append, List.getElem?_append_right (by simp; omega)]
      simp [Nat.min_eq_left hi]
    · rw [List.getElem?_set_ne (by omega)]
      by_cases hlt : j < i
      · rw [List.map_append, List.getElem?_append_left (by simp; omega), ← h1]
        unfold splice
        rw [List.getElem?_append_left (by simp; omega), List.getElem?_take_of_lt (by omega), List.getElem?_take_of_lt hlt]
      · unfold splice
        rw [List.getElem?_append_right (by simp; omega), List.getElem?_append_left (by simp; omega), hcs, List.map_append, List.getElem?_append_right (by simp; omega)]
        simp only [List.length_map, List.length_take, Nat.min_eq_left hi, Nat.min_eq_left (show i + 1 ≤ cur.length from by omega), List.map_cons]
        rw [show j - i = j - (i + 1) + 1 from by omega, List.getElem?_cons_succ]
  · rw [List.getElem?_eq_none (by simp; omega), List.getElem?_eq_none (by simp; omega)]

theorem ins_end {w3 : World} {base g cap i : Nat} {zs : List Int} {x : Int} {cur cs : List Value} (hgb : base ≤ g) (hncap : zs.length + 1 ≤ cap) (hcapm : cap ≤ maxLen) (hcsz : cur.length = cap) (hil : i ≤ zs.length)
    (hlen : (splice cur (i + 1) cs).length = cur.length) (hrow : w3.heap[g]? = some (.cells (splice cur (i + 1) cs).toArray 3 (0, 0))) (htake : cur.take (zs.length + 1) = zs.map (Value.int .i64) ++ [.int .i64 0]) (hcs : cs = (zs.drop i).map (Value.int .i64))
    (hidx : cntLt zs x = i) (hwf : ∀ z ∈ zs, (Lit.int .i64 z).wf = true) (hx : (Lit.int .i64 x).wf = true) :
    (w3.setCell ⟨g, i, none⟩ (.int .i64 x)).ownsInts base 3 .i64 (.slice (some ⟨g, 0, none⟩) (zs.length + 1) cap) (insF zs x) := by
  refine ⟨⟨by simp, Or.inr ⟨g, cap, ((splice cur (i + 1) cs).set i (.int .i64 x)).toArray, by rw [length_insF], hgb, blk_set hrow i _, by rw [length_insF]; exact hncap, hcapm, by simp; omega, ?_⟩⟩, fun z hz => ?_⟩
  · rw [length_insF, Nat.mul_one]
    have := ins_row zs x cur cs i hil htake hcs
    unfold insF
    rw [hidx]
    exact this
  · rcases (mem_insF zs x z).1 hz with rfl | hz
    · exact hx
    · exact hwf z hz

set_option maxRecDepth 100000 in
set_option maxHeartbeats 1000000 in
theorem insert_any (base : Nat) (v : Value) (zs : List Int) (x : Int) (w : World) (h : w.ownsInts base 3 .i64 v zs) (ha : Asc zs) (hl : zs.length ≤ 1099511627776) (hb : base ≤ w.heap.size) (hx : (Lit.int .i64 x).wf = true) :
    Calls Try.prog 24 #[v, .int .i64 x] w fun e w' => ∃ v', e = .returned v' ∧ w'.ownsInts base 3 .i64 v' (insF zs x) ∧ w.grownBy w' v.ownBlock ∧ (v'.ownBlock = v.ownBlock ∨ ∃ g, v'.ownBlock = some g ∧ w.heap.size ≤ g) := by
  obtain ⟨i0, hi, hz0, hz1, hz2⟩ := info_parts info3
  go_enter Try.func24, Try.ntmps24
  go_wp2_with fail
  refine (search_own base v zs x _ h.1 ha (by omega)).mono ?_
  rintro e w1 ⟨rfl, hb1⟩
  have hcl := cntLt_le zs x
  have hg1 : w.grownBy w1 v.ownBlock := ⟨hb1.os, hb1.tape, hb1.output, hb1.size, fun k hk _ => hb1.block k hk⟩
  have hown1 := h.1.kept (row := none) (w' := w1) ⟨hb1.os, hb1.tape, hb1.output, hb1.size, fun k hk _ => hb1.block k hk⟩ (by cases v.ownBlock <;> simp)
  have hs1 := hb1.size
  generalize hidx : cntLt zs x = i at hcl
  have Hidx : Hid (cntLt zs x = i) := hidx
  clear hidx hb1
  go_wp2_with (at_builtin; refine wpList_append_own_at _ rfl _ _ 22 rfl base 3 i0 (.int .i64 0) 1 8 Try.underlying22 hi hz0 hz1 hz2 rfl (by decide) _ _ _ rfl (hown1.alloc _) ⟨w1.heap.size, 0, none⟩ 1 1 [.int .i64 0] rfl rfl (cell_one_new _ _ _) (ints_oneCell .i64 [0]) (by unfold maxLen; omega) (by omega) (by simp; omega) ?_)
  intro v' w2 hown2 hgrow2 hnil2 hloc2
  obtain ⟨g, cap, cur, hv', hgb, hcur, hncap, hcapm, hcsz, htake⟩ : ∃ g cap, ∃ cur : List Value, v' = .slice (some ⟨g, 0, none⟩) (zs.length + 1) cap ∧ base ≤ g ∧ w2.heap[g]? = some (.cells cur.toArray 3 (0, 0)) ∧ zs.length + 1 ≤ cap ∧ cap ≤ maxLen ∧ cur.length = cap ∧ cur.take (zs.length + 1) = zs.map (Value.int .i64) ++ [.int .i64 0] := by
    rcases hown2.2 with ⟨_, h0⟩ | ⟨g, cap, cur, hv, hgb, hcur, h1, h2, h3, h4⟩
    · omega
    · exact ⟨g, cap, cur.toList, hv, hgb, by simpa using hcur, h1, h2, by simpa using h3, by simpa using h4⟩
  rw [hv']
  subst hv'
  clear hown2 hnil2 hi hz0 hz1 hz2
  unfold maxLen at hcapm
  have hil : i ≤ zs.length := hcl
  have b1 : (0 : Int) ≤ (i : Int) + 1 := by omega
  have b2 : (i : Int) + 1 ≤ (zs.length : Int) + 1 := by omega
  have b3 : (i : Int) ≤ (zs.length : Int) + 1 := by omega
  have n1 : IntKind.i64.wrap ((i : Int) + 1) = (i : Int) + 1 := IntWalk.i64_in _ ⟨by omega, by omega⟩
  have n2 : ((i : Int) + 1).toNat = i + 1 := by omega
  have hne : ¬ cap = i := by omega
  have hclen : ((zs.drop i).map (Value.int .i64)).length = Nat.min (zs.length + 1 - i) (zs.length - i) := by
    simp only [List.length_map, List.length_drop, Nat.min_def]; split <;> omega
  have hpos : 0 < ((zs.drop i).map (Value.int .i64)).length → (if cap = i + 1 then some (⟨g, 0, none⟩ : Addr) else some ⟨g, i + 1, none⟩) = some ⟨g, i + 1, none⟩ ∧ ∃ ad, some (⟨g, i, none⟩ : Addr) = some ad ∧ ∀ j u, ((zs.drop i).map (Value.int .i64))[j]? = some u → w2.drew.cell? (ad.add j) = some u := by
    intro hp
    simp only [List.length_map, List.length_drop] at hp
    refine ⟨if_neg (by omega), _, rfl, fun j u hj => ?_⟩
    obtain ⟨hj1, hj2⟩ := List.getElem?_eq_some_iff.1 hj
    simp only [List.length_map, List.length_drop] at hj1
    rw [WideShapes.add_plain]
    show w2.cell? ⟨g, i + j, none⟩ = some u
    have hc1 : cur[i + j]? = some u := by
      have h1 : (cur.take (zs.length + 1))[i + j]? = cur[i + j]? := List.getElem?_take_of_lt (by omega)
      rw [← h1, htake, List.getElem?_append_left (by simp; omega), ← hj2]
      simp [show i + j < zs.length from by omega]
    simp [World.cell?, hcur, hc1]
  have hfit : i + 1 + ((zs.drop i).map (Value.int .i64)).length ≤ cur.length := by simp; omega
  have hone := ints_oneCell .i64 (zs.drop i)
  obtain ⟨cs, hcs⟩ : ∃ cs, cs = (zs.drop i).map (Value.int .i64) := ⟨_, rfl⟩
  rw [← hcs] at hclen hpos hfit hone
  have Hcs : Hid (cs = (zs.drop i).map (Value.int .i64)) := hcs
  have Htake : Hid (cur.take (zs.length + 1) = zs.map (Value.int .i64) ++ [.int .i64 0]) := htake
  have Hcur : Hid (w2.heap[g]? = some (.cells cur.toArray 3 (0, 0))) := hcur
  have Hpos := Lib.hid hpos
  have Hclen := Lib.hid hclen
  clear hcs htake hcur hpos hclen
  go_wp2_with fail
  go_region_held3 (fun _ => True) (trivial) ((refine step_copy_in rfl (.tmp 15) (.tmp 18) 22 22 rfl 3 Try.underlying22 size3 (if cap = i + 1 then some ⟨g, 0, none⟩ else some ⟨g, i + 1, none⟩) (some ⟨g, i, none⟩) (zs.length - i) (cap - (i + 1)) (zs.length + 1 - i) (cap - i) rfl rfl g (i + 1) cur 3 Hcur.out cs Hclen.out Hpos.out hfit hone ?_; intro w3 hc3 hg3))
  have hgg : v.ownBlock = some g ∨ w.heap.size ≤ g := by
    rcases hloc2 with e | e
    · exact Or.inl e.symm
    · right
      have e2 : g = w1.heap.size + 1 := Option.some.inj e
      omega
  have hg03 : w.grownBy w3 v.ownBlock := grown_trans (grown_trans' hg1 hgrow2) (b := w2) ⟨hg3.os, hg3.tape, hg3.output, hg3.size, hg3.block⟩ hgg
  have hrow3 := hc3.out
  have hlen3 : (splice cur (i + 1) cs).length = cur.length := length_splice _ _ _ hfit
  have c3 := blk_cell hrow3 i (by omega)
  have f3 := blk_frozen hrow3 i
  have Hrow := Lib.hid hrow3
  clear hrow3 hc3 hg3
  have hend := ins_end (x := x) hgb hncap (show cap ≤ maxLen by unfold maxLen; omega) hcsz hil hlen3 Hrow.out Htake.out Hcs.out Hidx.out h.2 hx
  have hgend := grown_set hg03 i (.int .i64 x) hgg
  have hlend : (Value.slice (some ⟨g, 0, none⟩) (zs.length + 1) cap).ownBlock = v.ownBlock ∨ ∃ b, (Value.slice (some ⟨g, 0, none⟩) (zs.length + 1) cap).ownBlock = some b ∧ w.heap.size ≤ b := by
    rcases hgg with e | e
    · exact Or.inl e.symm
    · exact Or.inr ⟨g, rfl, e⟩
  have Hend := Lib.hid (And.intro hend (And.intro hgend hlend))
  clear hend hgend hlend hloc2 hgg hg03
  go_wp2_with fail
  · have e : cap = i + 1 := by assumption
    subst e
    go_ret
    exact ⟨_, rfl, Hend.out.1, Hend.out.2.1, Hend.out.2.2⟩
  · go_ret
    exact ⟨_, rfl, Hend.out.1, Hend.out.2.1, Hend.out.2.2⟩

/-- the row behind remove -/
theorem rem_row (zs : List Int) (cur : List Value) (i : Nat) (hi : i < zs.length) (htake : cur.take zs.length = zs.map (Value.int .i64)) (cs : List Value) (hcs : cs = (zs.drop (i + 1)).map (Value.int .i64)) :
    (splice cur i cs).take (zs.length - 1) = (zs.take i ++ zs.drop (i + 1)).map (Value.int .i64) := by
  have hl : zs.length ≤ cur.length := by
    have := congrArg List.length htake
    simp at this
    omega
  have h1 : cur.take i = (zs.take i).map (Value.int .i64) := by
    have h2 : (cur.take zs.length).take i = cur.take i := by rw [List.take_take, Nat.min_eq_left (by omega)]
    rw [← h2, htake, List.map_take]
  have hcl : cs.length = zs.length - (i + 1) := by rw [hcs]; simp
  unfold splice
  rw [h1, hcs, ← List.append_assoc, List.take_append_of_le_length (by simp; omega), List.take_of_length_le (by simp; omega), List.map_append]

theorem setCells_splice {g : Nat} {t : TypeId} : ∀ (cs : List Value) (cur : List Value) (i : Nat) (w : World), w.heap[g]? = some (.cells cur.toArray t (0, 0)) → i + cs.length ≤ cur.length → (w.setCells g i cs).heap[g]? = some (.cells (splice cur i cs).toArray t (0, 0)) := by
  intro cs
  induction cs with
  | nil => intro cur i w h _; simpa [World.setCells, splice] using h
  | cons c cs ih =>
    intro cur i w h hl
    simp only [List.length_cons] at hl
    have h1 := blk_set h i c
    have h2 := ih (cur.set i c) (i + 1) (w.setCell ⟨g, i, none⟩ c) h1 (by simp; omega)
    have e : splice (cur.set i c) (i + 1) cs = splice cur i (c :: cs) := by
      have hll : i < cur.length := by omega
      have h3 : (cur.set i c).take (i + 1) = cur.take i ++ [c] := by
        rw [List.take_succ_eq_append_getElem (by simpa using hll), List.getElem_set_self, List.take_set_of_le (Nat.le_refl _)]
      have h4 : (cur.set i c).drop (i + 1 + cs.length) = cur.drop (i + (cs.length + 1)) := by
        rw [List.drop_set_of_lt (by omega), show i + 1 + cs.length = i + (cs.length + 1) from by omega]
      unfold splice
      rw [h3, h4, List.length_cons, List.append_assoc]
      rfl
    rw [e] at h2
    exact h2
theorem grown_setCells {a b : World} {row : Option Nat} {g : Nat} (h : a.grownBy b row) (hg : row = some g ∨ a.heap.size ≤ g) : ∀ (cs : List Value) (i : Nat), a.grownBy (b.setCells g i cs) row := by
  intro cs
  induction cs generalizing b with
  | nil => intro i; exact h
  | cons c cs ih => intro i; exact ih (grown_set h i c hg) (i + 1)

theorem rem_end {w3 : World} {base g cap i : Nat} {zs : List Int} {x : Int} {cur cs : List Value} (hgb : base ≤ g) (hncap : zs.length ≤ cap) (hcapm : cap ≤ maxLen) (hcsz : cur.length = cap) (hil : i < zs.length)
    (hrow : w3.heap[g]? = some (.cells cur.toArray 3 (0, 0))) (htake : cur.take zs.length = zs.map (Value.int .i64)) (hcs : cs = (zs.drop (i + 1)).map (Value.int .i64))
    (hidx : cntLt zs x = i) (hwf : ∀ z ∈ zs, (Lit.int .i64 z).wf = true) :
    (w3.setCells g i cs).ownsInts base 3 .i64 (.slice (some ⟨g, 0, none⟩) (zs.length - 1) cap) (remF zs x) := by
  have hlr : (remF zs x).length = zs.length - 1 := length_remF (by rw [hidx]; exact hil)
  have hcl : cs.length = zs.length - (i + 1) := by rw [hcs]; simp
  refine ⟨⟨by simp, Or.inr ⟨g, cap, (splice cur i cs).toArray, by rw [hlr], hgb, setCells_splice cs cur i w3 hrow (by omega), by omega, hcapm, ?_, ?_⟩⟩, fun z hz => ?_⟩
  · rw [List.size_toArray, length_splice _ _ _ (by omega)]; omega
  · rw [hlr, Nat.mul_one]
    unfold remF
    rw [hidx]
    exact rem_row zs cur i hil htake cs hcs
  · unfold remF at hz
    rcases List.mem_append.1 hz with hz | hz
    · exact hwf z (List.mem_of_mem_take hz)
    · exact hwf z (List.mem_of_mem_drop hz)

set_option maxRecDepth 100000 in
set_option maxHeartbeats 1000000 in
theorem remove_any (base : Nat) (v : Value) (zs : List Int) (x : Int) (w : World) (h : w.ownsInts base 3 .i64 v zs) (ha : Asc zs) (hl : zs.length ≤ 1099511627776) (hmem : x ∈ zs) :
    Calls Try.prog 25 #[v, .int .i64 x] w fun e w' => ∃ v', e = .returned v' ∧ w'.ownsInts base 3 .i64 v' (remF zs x) ∧ w.grownBy w' v.ownBlock ∧ v'.ownBlock = v.ownBlock := by
  obtain ⟨i0, hi, hz0, hz1, hz2⟩ := info_parts info3
  have hwf := h.2
  obtain ⟨g, cap, cur, hv, hgb, hcur, hncap, hcapm, hcsz, htake⟩ : ∃ g cap, ∃ cur : List Value, v = .slice (some ⟨g, 0, none⟩) zs.length cap ∧ base ≤ g ∧ w.heap[g]? = some (.cells cur.toArray 3 (0, 0)) ∧ zs.length ≤ cap ∧ cap ≤ maxLen ∧ cur.length = cap ∧ cur.take zs.length = zs.map (Value.int .i64) := by
    rcases h.1.2 with ⟨_, h0⟩ | ⟨g, cap, cur, hv, hgb, hcur, h1, h2, h3, h4⟩
    · have : zs = [] := List.eq_nil_of_length_eq_zero h0
      subst this
      simp at hmem
    · exact ⟨g, cap, cur.toList, hv, hgb, by simpa using hcur, h1, h2, by simpa using h3, by simpa using h4⟩
  subst hv
  obtain ⟨hil, _⟩ := asc_at ha hmem
  have hsearch := search_own base _ zs x w h.1 ha (by omega)
  have hcapm' := hcapm
  unfold maxLen at hcapm'
  have hglt := (h.1.lt g rfl).2
  clear h
  generalize hidx : cntLt zs x = i at hil hsearch
  obtain ⟨cs, hcs⟩ : ∃ cs, cs = (zs.drop (i + 1)).map (Value.int .i64) := ⟨_, rfl⟩
  have hcl : cs.length = zs.length - (i + 1) := by rw [hcs]; simp
  have hone : ∀ u ∈ cs, u.oneCell' = true := by rw [hcs]; exact ints_oneCell .i64 _
  have hsrc : ∀ (W : World), W.heap[g]? = some (.cells cur.toArray 3 (0, 0)) → ∀ ad : Addr, (cs.length = 0 ∨ ad = ⟨g, i + 1, none⟩) → ∀ j u, cs[j]? = some u → W.cell? (ad.add j) = some u := by
    intro W hW ad had j u hj
    obtain ⟨hj1, hj2⟩ := List.getElem?_eq_some_iff.1 hj
    rcases had with h0 | rfl
    · omega
    rw [WideShapes.add_plain]
    have hc1 : cur[i + 1 + j]? = some u := by
      have h1 : (cur.take zs.length)[i + 1 + j]? = cur[i + 1 + j]? := List.getElem?_take_of_lt (by omega)
      rw [← h1, htake, ← hj2]
      simp only [hcs, List.getElem?_map, List.getElem_map, List.getElem_drop]
      rw [List.getElem?_eq_getElem (by omega)]
      rfl
    simp [World.cell?, hW, hc1]
  have hspare : ∀ (W : World), W.heap[g]? = some (.cells cur.toArray 3 (0, 0)) → ∀ j, j < cs.length → (W.cell? ⟨g, 0 + i * 1 + j, none⟩).isSome = true ∧ W.frozen? ⟨g, 0 + i * 1 + j, none⟩ = false := by
    intro W hW j hj
    refine ⟨?_, blk_frozen hW _⟩
    rw [blk_cell hW _ (by omega)]
    rfl
  have Hidx := Lib.hid hidx
  have Hcs := Lib.hid hcs
  have Htake := Lib.hid htake
  have Hsrc := Lib.hid hsrc
  have Hspare := Lib.hid hspare
  have Hsearch := Lib.hid hsearch
  have Hcur := Lib.hid hcur
  clear hidx hcs htake hsrc hspare hsearch hcur
  have n1 : IntKind.i64.wrap ((i : Int) + 1) = (i : Int) + 1 := IntWalk.i64_in _ ⟨by omega, by omega⟩
  have n2 : ((i : Int) + 1).toNat = i + 1 := by omega
  have b2 : (i : Int) + 1 ≤ (zs.length : Int) := by omega
  have b3 : (i : Int) ≤ (cap : Int) := by omega
  go_enter Try.func25, Try.ntmps25
  go_wp2_with fail
  refine Hsearch.out.mono ?_
  rintro e w1 ⟨rfl, hb1⟩
  have Hcur1 := Lib.hid ((hb1.block g hglt).trans Hcur.out)
  have hg1 : w.grownBy w1 (some g) := ⟨hb1.os, hb1.tape, hb1.output, hb1.size, fun k hk _ => hb1.block k hk⟩
  clear hb1 Hcur Hsearch
  have b0 : (0 : Int) ≤ (i : Int) := by omega
  have b1 : (0 : Int) ≤ (i : Int) + 1 := by omega
  have hend := rem_end (w3 := w1.drew) (x := x) hgb hncap hcapm hcsz hil Hcur1.out Htake.out Hcs.out Hidx.out hwf
  have hgend := grown_setCells (b := w1.drew) (a := w) (row := some g) ⟨hg1.os, hg1.tape, hg1.output, hg1.size, hg1.block⟩ (Or.inl rfl) cs i
  have Hend := Lib.hid (And.intro hend hgend)
  clear hend hgend hg1
  have hlen2 : i + (zs.length - (i + 1)) = zs.length - 1 := by omega
  have Hlen2 := Lib.hid hlen2
  clear hlen2
  by_cases hcap : cap = i + 1
  · subst hcap
    have b4 : (i : Int) ≤ (i : Int) + 1 := by omega
    go_wp2_with fail
    go_region_held3 (fun _ => True) (trivial) ((refine step_append_room rfl (.tmp 11) (.tmp 15) 22 rfl 3 i0 1 Try.underlying22 hi hz1 g 0 i (i + 1) rfl ⟨g, 0, none⟩ (zs.length - (i + 1)) 0 cs rfl (by omega) (Hsrc.out _ Hcur1.out _ (Or.inl (by omega))) hone (by omega) (Hspare.out _ Hcur1.out) ?_))
    go_wp2_with fail
    go_ret
    have hcs0 : cs = [] := List.eq_nil_of_length_eq_zero (by omega)
    have e1 : zs.length - 1 = i := by omega
    have hE := Hend.out
    rw [hcs0, e1] at hE
    exact ⟨_, rfl, hE.1, hE.2, rfl⟩
  · go_wp2_with fail
    go_region_held3 (fun _ => True) (trivial) ((refine step_append_room rfl (.tmp 11) (.tmp 15) 22 rfl 3 i0 1 Try.underlying22 hi hz1 g 0 i cap rfl ⟨g, i + 1, none⟩ (zs.length - (i + 1)) (cap - (i + 1)) cs rfl (by omega) (Hsrc.out _ Hcur1.out _ (Or.inr rfl)) hone (by omega) (Hspare.out _ Hcur1.out) ?_))
    go_wp2_with fail
    go_ret
    have hE := Hend.out
    rw [← Hlen2.out] at hE
    have e2 : 0 + i * 1 = i := by omega
    rw [e2]
    exact ⟨_, rfl, hE.1, hE.2, rfl⟩
end Go.Proofs.Qxb6612920a.spray
