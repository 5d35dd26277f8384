import Derived.Test.Qxb6612920aSorted
import Derived.Maps.Views
import Derived.Maps.OwnSet
namespace Go.Proofs.Qxb6612920a.spray
open Go.RowKit Go.PlainAid Go.Maps Go.ChangeMaps Go.MapKept Go.ChangeShapes
open Go.WideElems (Fit rd rg pl rd_val elemAt)

/-! ### Which blocks were touched -/
/-- only blocks of S, and new ones, are not as they were -/
structure Only (S : Nat → Prop) (w w' : World) : Prop where
  os : w'.os = w.os
  tape : w'.tape = w.tape
  output : w'.output = w.output
  size : w.heap.size ≤ w'.heap.size
  block : ∀ k, k < w.heap.size → ¬ S k → w'.heap[k]? = w.heap[k]?

theorem Only.refl (S : Nat → Prop) (w : World) : Only S w w := ⟨rfl, rfl, rfl, Nat.le_refl _, fun _ _ _ => rfl⟩
theorem Only.trans {S : Nat → Prop} {a b c : World} (h : Only S a b) (k : Only S b c) : Only S a c :=
  ⟨k.os.trans h.os, k.tape.trans h.tape, k.output.trans h.output, Nat.le_trans h.size k.size, fun i hi hS => (k.block i (Nat.lt_of_lt_of_le hi h.size) hS).trans (h.block i hi hS)⟩
theorem Only.mono {S T : Nat → Prop} {a b : World} (h : Only S a b) (hs : ∀ k, k < a.heap.size → S k → T k) : Only T a b :=
  ⟨h.os, h.tape, h.output, h.size, fun i hi hT => h.block i hi (fun x => hT (hs i hi x))⟩
theorem Only.of_grown {a b : World} {row : Option Nat} (h : a.grownBy b row) : Only (fun k => some k = row) a b := ⟨h.os, h.tape, h.output, h.size, fun k hk hn => h.block k hk hn⟩
theorem Only.of_below {a b : World} {B : Nat} (h : Below B a b) : Only (fun k => B ≤ k) a b := ⟨h.os, h.tape, h.output, h.size, fun k _ hn => h.block k (by omega)⟩
theorem Only.below {a b : World} {B : Nat} {S : Nat → Prop} (h : Only S a b) (hB : B ≤ a.heap.size) (hS : ∀ k, k < B → ¬ S k) : Below B a b := ⟨h.os, h.tape, h.output, h.size, fun k hk => h.block k (by omega) (hS k hk)⟩
theorem Only.cell {S : Nat → Prop} {a b : World} (h : Only S a b) (ad : Addr) (hl : ad.block < a.heap.size) (hn : ¬ S ad.block) : b.cell? ad = a.cell? ad := World.cell?_of_block (h.block _ hl hn)
theorem Only.frozen {S : Nat → Prop} {a b : World} (h : Only S a b) (ad : Addr) (hl : ad.block < a.heap.size) (hn : ¬ S ad.block) : b.frozen? ad = a.frozen? ad := World.frozen?_of_block (h.block _ hl hn)
theorem Only.setCell (w : World) (ad : Addr) (u : Value) : Only (fun k => k = ad.block) w (w.setCell ad u) :=
  ⟨rfl, rfl, rfl, by simp, fun k _ hk => Below.heap_setCell w ad u k hk⟩
theorem Only.alloc (S : Nat → Prop) (w : World) (o : Obj) : Only S w (w.alloc o) := ⟨rfl, rfl, rfl, by simp, fun k hk _ => Below.heap_alloc w o k hk⟩

/-! ### The map of the links -/
/-- the elements of a datum -/
def itemsOf : DataW Unit → List (DataW Unit)
  | .slice l _ => l
  | _ => []
theorem items_row {w : World} {base : Nat} {v : Value} {zs : List Int} (h : w.ownsInts base 3 .i64 v zs) : itemsOf (rowDatum .i64 v zs) = lits .i64 zs := by
  rcases h.datum (H := Unit) with ⟨e, rfl⟩ | e
  · rw [e]; rfl
  · rw [e]; rfl
theorem lits_inj {a b : List Int} (h : lits (H := Unit) .i64 a = lits .i64 b) : a = b := (List.map_inj_right (fun x y hxy => by cases hxy; rfl)).1 h

def upd (L : Int → List Int) (a : Int) (zs : List Int) : Int → List Int := fun x => if x = a then zs else L x

/-- BLOCK bm IS THE MAP OF THE LISTS L; their rows lie behind it -/
def MapAt (w : World) (bm n : Nat) (L : Int → List Int) : Prop :=
  ∃ D, w.ownsGroups (H := Unit) Try.prog 3 (bm + 1) 3 .i64 bm n D ∧ ∀ a, (Lit.int .i64 a).wf = true → itemsOf (D.atKey (.int .i64 a) .nil) = lits .i64 (L a)

theorem map_made (w : World) : MapAt (w.alloc (.map #[] 0)) w.heap.size 0 (fun _ => []) :=
  ⟨_, World.ownsGroups_made w Try.prog 3 3 .i64, fun a _ => by rfl⟩

theorem map_lt {w : World} {bm n : Nat} {L : Int → List Int} (h : MapAt w bm n L) : bm < w.heap.size := by
  obtain ⟨D, ⟨es, clock, hb, _⟩, _⟩ := h
  exact (Array.getElem?_eq_some_iff.1 hb).1

theorem zero22 (w : World) : (zeroValue 22).run Try.prog w = .ok (.slice none 0 0) w := by
  go_simp

/-- the look-up, and the way back -/
theorem map_at {w : World} {bm n : Nat} {L : Int → List Int} (h : MapAt w bm n L) (hn : n < maxLen) (a : Int) (ha : (Lit.int .i64 a).wf = true) :
    ∃ v, (Instr.lookup 56 (.map (some bm)) (.int .i64 a) false).run Try.prog w = .ok v w ∧ w.ownsInts (bm + 1) 3 .i64 v (L a) ∧ (L a).length ≤ n ∧
      ∀ (w1 : World) (v' : Value) (zs' : List Int), w.grownBy w1 v.ownBlock → w1.ownsInts (bm + 1) 3 .i64 v' zs' → zs'.length ≤ n + 1 → (v'.ownBlock = v.ownBlock ∨ ∃ g, v'.ownBlock = some g ∧ w.heap.size ≤ g) →
        ∃ w2, (Instr.mapUpdate 56 (.map (some bm)) (.int .i64 a) v').run Try.prog w1 = .ok () w2 ∧ MapAt w2 bm (n + 1) (upd L a zs') ∧ w1.grownBy w2 (some bm) := by
  obtain ⟨D, hown, hD⟩ := h
  obtain ⟨v, zs, hrun, hat, hoi, hzl, hback⟩ := hown.at (int_keyed Try.underlying3) Try.underlying56 (zero22 w) hn (keyOf_int_mk Try.underlying3 ha)
  have hz : zs = L a := by
    have := hD a ha
    rw [hat, items_row hoi] at this
    exact lits_inj this
  subst hz
  refine ⟨v, hrun, hoi, hzl, fun w1 v' zs' hg ho hl hloc => ?_⟩
  obtain ⟨w2, hrun2, hown2, hg2⟩ := hback w1 v' zs' hg ho hl hloc
  refine ⟨w2, hrun2, ⟨_, hown2, fun x hx => ?_⟩, hg2⟩
  have hM : IsMap D := by
    obtain ⟨es, clock, _, _, _, hDe, _⟩ := hown
    exact ⟨_, hDe⟩
  unfold upd
  by_cases hxa : x = a
  · subst hxa
    rw [atKey_put_same hM (by simp [WideAt.IsKeyLit]), if_pos rfl, items_row ho]
  · rw [atKey_put_other (fun e => hxa (by cases e; rfl)), if_neg hxa]
    exact hD x hx

/-- what leaves the blocks from bm on alone leaves the map alone -/
theorem map_stay {w w' : World} {bm n : Nat} {L : Int → List Int} (h : MapAt w bm n L) (hk : ∀ k, bm ≤ k → k < w.heap.size → w'.heap[k]? = w.heap[k]?) : MapAt w' bm n L := by
  obtain ⟨D, ⟨es, clock, hb, F, hs, hDe, hbb, hlen, hap⟩, hD⟩ := h
  have keep : ∀ (v : Value) (zs : List Int), w.ownsInts (bm + 1) 3 .i64 v zs → w'.ownsInts (bm + 1) 3 .i64 v zs := by
    rintro v zs ⟨⟨h1, h2⟩, h3⟩
    refine ⟨⟨h1, ?_⟩, h3⟩
    rcases h2 with h2 | ⟨g, cap, cur, hv, hg, hc, hr⟩
    · exact Or.inl h2
    · exact Or.inr ⟨g, cap, cur, hv, hg, (hk g (by omega) (Array.getElem?_eq_some_iff.1 hc).1).trans hc, hr⟩
  have hs2 : ∀ x ∈ es.toList, ∀ z, rowElem (H := Unit) w (bm + 1) 3 .i64 x.val = some z → rowElem w' (bm + 1) 3 .i64 x.val = some z := by
    intro x _ z hz
    obtain ⟨ys, ho, rfl⟩ := rowElem_inv hz
    exact rowElem_mk (keep _ _ ho)
  obtain ⟨F2, hmap2, _⟩ := F.stay hs2
  refine ⟨D, ⟨es, clock, (hk bm (Nat.le_refl _) (Array.getElem?_eq_some_iff.1 hb).1).trans hb, F2, hs, by rw [hmap2]; exact hDe, hbb, fun x hx zs ho => ?_, hap⟩, hD⟩
  obtain ⟨y, hy⟩ := F.reads x hx
  obtain ⟨z, hz, _⟩ := rd_val hy
  obtain ⟨ys', ho', _⟩ := rowElem_inv hz
  rw [ho.unique (keep _ _ ho')]
  exact hlen x hx _ ho'

/-! ### The box of the links -/
/-- THE LINKS AT ⟨lb, 0⟩ ARE L; what they own lies from block B0 on -/
def LinksAt (w : World) (lb B0 n : Nat) (L : Int → List Int) : Prop :=
  w.frozen? ⟨lb, 0, none⟩ = false ∧ lb < B0 ∧ B0 ≤ w.heap.size ∧
    ((w.cell? ⟨lb, 0, none⟩ = some (.map none) ∧ ∀ a, L a = []) ∨ ∃ bm, w.cell? ⟨lb, 0, none⟩ = some (.map (some bm)) ∧ B0 ≤ bm ∧ MapAt w bm n L)

theorem links_stay {w w' : World} {lb B0 n : Nat} {L : Int → List Int} {S : Nat → Prop} (h : LinksAt w lb B0 n L) (hk : Only S w w') (h0 : ¬ S lb) (hS : ∀ k, B0 ≤ k → k < w.heap.size → ¬ S k) : LinksAt w' lb B0 n L := by
  obtain ⟨h1, h2, h2', h3⟩ := h
  have hl : lb < w.heap.size := by omega
  refine ⟨(hk.frozen _ hl h0).trans h1, h2, Nat.le_trans h2' hk.size, ?_⟩
  rcases h3 with ⟨h3, h4⟩ | ⟨bm, h3, h4, h5⟩
  · exact Or.inl ⟨(hk.cell _ hl h0).trans h3, h4⟩
  · exact Or.inr ⟨bm, (hk.cell _ hl h0).trans h3, h4, map_stay h5 (fun k hb hlt => hk.block k hlt (hS k (by omega) hlt))⟩

theorem owns_weak {w : World} {b b' : Nat} {v : Value} {zs : List Int} (h : w.ownsInts b 3 .i64 v zs) (hb : b' ≤ b) : w.ownsInts b' 3 .i64 v zs := by
  obtain ⟨⟨h1, h2⟩, h3⟩ := h
  refine ⟨⟨h1, ?_⟩, h3⟩
  rcases h2 with h2 | ⟨g, cap, cur, hv, hg, hr⟩
  · exact Or.inl h2
  · exact Or.inr ⟨g, cap, cur, hv, by omega, hr⟩

theorem links_look {w : World} {lb B0 n : Nat} {L : Int → List Int} (h : LinksAt w lb B0 n L) (hn : n < maxLen) (a : Int) (ha : (Lit.int .i64 a).wf = true) :
    ∃ m v, w.cell? ⟨lb, 0, none⟩ = some m ∧ (Instr.lookup 56 m (.int .i64 a) false).run Try.prog w = .ok v w ∧ w.ownsInts B0 3 .i64 v (L a) := by
  obtain ⟨h1, h2, _, h3⟩ := h
  rcases h3 with ⟨h3, h4⟩ | ⟨bm, h3, h4, h5⟩
  · refine ⟨.map none, .slice none 0 0, h3, ?_, by rw [h4]; exact World.ownsInts_nil _ _ _ _⟩
    exact Maps.look_nil false (int_keyed Try.underlying3) Try.underlying56 (zero22 w) (keyOf_int_mk Try.underlying3 ha)
  · obtain ⟨v, hrun, hoi, _⟩ := map_at h5 hn a ha
    exact ⟨_, v, h3, hrun, owns_weak hoi (by omega)⟩

/-- a look-up by its run -/
theorem wpList_lookup_run {P : Program} (w : World) {ops : Array Oper} {rest : List Oper} {o : Oper} {a : Act} {Q : Exit → Act → World → Prop}
    (hg : o.guard = none) (m x : Operand) (t : TypeId) (hop : o.op = Op.lookup t m x false) (mv key v : Value) (hm : a.eval m = mv) (hx : a.eval x = key)
    (hrun : (Instr.lookup t mv key false).run P w = .ok v w) (hK : wpList P ops Q rest (a.put o.dst v) w) : wpList P ops Q (o :: rest) a w := by
  refine wpList_plain hg fun K' hK' => ?_
  unfold Oper.wp
  simp [execOp, hop, hm, hx, hrun, Result.andThen]
  exact hK' _ _ hK
end Go.Proofs.Qxb6612920a.spray
