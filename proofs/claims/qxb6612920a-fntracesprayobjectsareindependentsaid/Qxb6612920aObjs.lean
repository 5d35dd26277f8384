import Derived.Test.Qxb6612920aLinks
import Derived.Test.Qxb6612920aHands
namespace Go.Proofs.Qxb6612920a.spray
open Go.RowKit Go.PlainAid

/-- AN OBJECT AT ⟨ob, oo⟩: its copies lie in block hb -/
structure ObjAt (w : World) (ob oo hb nn : Nat) (held : Nat → Int) (giv tr : Int) : Prop where
  c0 : w.cell? ⟨ob, oo, none⟩ = some (.slice (some ⟨hb, 0, none⟩) nn nn)
  c1 : w.cell? ⟨ob, oo + 1, none⟩ = some (.int .i64 giv)
  c2 : w.cell? ⟨ob, oo + 2, none⟩ = some (.int .i64 tr)
  f1 : w.frozen? ⟨ob, oo + 1, none⟩ = false
  f2 : w.frozen? ⟨ob, oo + 2, none⟩ = false
  hc : ∀ i, i < nn → w.cell? ⟨hb, i, none⟩ = some (.int .i64 (held i))
  hf : ∀ i, w.frozen? ⟨hb, i, none⟩ = false
  ne : ob ≠ hb


/-- what a step on the object touches -/
structure Touch (ob oo hb : Nat) (w w' : World) : Prop where
  only : Only (fun k => k = ob ∨ k = hb) w w'
  cell : ∀ o, o ≠ oo + 1 → o ≠ oo + 2 → w'.cell? ⟨ob, o, none⟩ = w.cell? ⟨ob, o, none⟩
  froz : ∀ o, w'.frozen? ⟨ob, o, none⟩ = w.frozen? ⟨ob, o, none⟩
theorem Touch.refl (ob oo hb : Nat) (w : World) : Touch ob oo hb w w := ⟨Only.refl _ _, fun _ _ _ => rfl, fun _ => rfl⟩
theorem Touch.trans {ob oo hb : Nat} {a b c : World} (h : Touch ob oo hb a b) (k : Touch ob oo hb b c) : Touch ob oo hb a c :=
  ⟨h.only.trans k.only, fun o h1 h2 => (k.cell o h1 h2).trans (h.cell o h1 h2), fun o => (k.froz o).trans (h.froz o)⟩

theorem ObjAt.set_held {w : World} {ob oo hb nn : Nat} {held : Nat → Int} {giv tr : Int} (h : ObjAt w ob oo hb nn held giv tr) (i : Nat) (hi : i < nn) (v : Int) :
    ObjAt (w.setCell ⟨hb, i, none⟩ (.int .i64 v)) ob oo hb nn (fupd held i v) giv tr ∧ Touch ob oo hb w (w.setCell ⟨hb, i, none⟩ (.int .i64 v)) := by
  have ne := h.ne
  have far : ∀ o, (w.setCell ⟨hb, i, none⟩ (.int .i64 v)).cell? ⟨ob, o, none⟩ = w.cell? ⟨ob, o, none⟩ := fun o => World.cell?_of_block (a := ⟨ob, o, none⟩) (Below.heap_setCell _ _ _ _ (by simpa using ne))
  refine ⟨⟨(far _).trans h.c0, (far _).trans h.c1, (far _).trans h.c2, by simpa using h.f1, by simpa using h.f2, fun k hk => ?_, fun k => by simpa using h.hf k, ne⟩, ⟨(Only.setCell w ⟨hb, i, none⟩ _).mono fun k _ e => Or.inr e, fun o _ _ => far o, fun o => by simp⟩⟩
  unfold fupd
  by_cases e : k = i
  · subst e
    rw [if_pos rfl]
    exact World.cell?_setCell_same' w _ _ (by rw [h.hc k hk]; rfl)
  · rw [if_neg e, ← h.hc k hk]
    exact World.cell?_setCell_other w _ _ _ (by simp)

theorem ObjAt.set_giv {w : World} {ob oo hb nn : Nat} {held : Nat → Int} {giv tr : Int} (h : ObjAt w ob oo hb nn held giv tr) (v : Int) :
    ObjAt (w.setCell ⟨ob, oo + 1, none⟩ (.int .i64 v)) ob oo hb nn held v tr ∧ Touch ob oo hb w (w.setCell ⟨ob, oo + 1, none⟩ (.int .i64 v)) := by
  have ne := h.ne
  have oth : ∀ o, o ≠ oo + 1 → (w.setCell ⟨ob, oo + 1, none⟩ (.int .i64 v)).cell? ⟨ob, o, none⟩ = w.cell? ⟨ob, o, none⟩ := fun o ho => World.cell?_setCell_other w _ _ _ (by simp)
  refine ⟨⟨(oth _ (by omega)).trans h.c0, World.cell?_setCell_same' w _ _ (by rw [h.c1]; rfl), (oth _ (by omega)).trans h.c2, by simpa using h.f1, by simpa using h.f2, fun k hk => ?_, fun k => by simpa using h.hf k, ne⟩, ⟨(Only.setCell w ⟨ob, oo + 1, none⟩ _).mono fun k _ e => Or.inl e, fun o h1 _ => oth o h1, fun o => by simp⟩⟩
  exact (World.cell?_of_block (a := ⟨hb, k, none⟩) (Below.heap_setCell _ _ _ _ (by simpa using ne.symm))).trans (h.hc k hk)

theorem ObjAt.set_tr {w : World} {ob oo hb nn : Nat} {held : Nat → Int} {giv tr : Int} (h : ObjAt w ob oo hb nn held giv tr) (v : Int) :
    ObjAt (w.setCell ⟨ob, oo + 2, none⟩ (.int .i64 v)) ob oo hb nn held giv v ∧ Touch ob oo hb w (w.setCell ⟨ob, oo + 2, none⟩ (.int .i64 v)) := by
  have ne := h.ne
  have oth : ∀ o, o ≠ oo + 2 → (w.setCell ⟨ob, oo + 2, none⟩ (.int .i64 v)).cell? ⟨ob, o, none⟩ = w.cell? ⟨ob, o, none⟩ := fun o ho => World.cell?_setCell_other w _ _ _ (by simp)
  refine ⟨⟨(oth _ (by omega)).trans h.c0, (oth _ (by omega)).trans h.c1, World.cell?_setCell_same' w _ _ (by rw [h.c2]; rfl), by simpa using h.f1, by simpa using h.f2, fun k hk => ?_, fun k => by simpa using h.hf k, ne⟩, ⟨(Only.setCell w ⟨ob, oo + 2, none⟩ _).mono fun k _ e => Or.inl e, fun o _ h2 => oth o h2, fun o => by simp⟩⟩
  exact (World.cell?_of_block (a := ⟨hb, k, none⟩) (Below.heap_setCell _ _ _ _ (by simpa using ne.symm))).trans (h.hc k hk)

set_option maxRecDepth 100000 in
set_option maxHeartbeats 4000000 in
theorem hand_any (ob oo hb nn : Nat) (held : Nat → Int) (giv tr : Int) (a b : Nat) (w : World) (h : ObjAt w ob oo hb nn held giv tr) (ha : a < nn) (hb' : b < nn) (hab : a ≠ b) (h1 : 1 < held a) (h2 : held a ≤ 9223372036854775807) (hg : -1000000 < giv ∧ giv < 1000000) (ht : 0 ≤ tr ∧ tr < 1000000) :
    Calls Try.prog 28 #[.pointer (some ⟨ob, oo, none⟩), .int .i64 a, .int .i64 b] w fun e w' => e = .returned (.tuple #[]) ∧ ObjAt w' ob oo hb nn (handF held a b) (handG held giv a) (tr + 1) ∧ Touch ob oo hb w w' := by
  have H1 := h.set_held a ha (held a - held a / 2)
  have H2 := H1.1.set_held b hb' (held a / 2)
  have H3 := H2.1.set_tr (tr + 1)
  have T3 := Lib.hid ((H1.2.trans H2.2).trans H3.2)
  have O3 := Lib.hid H3.1
  clear H1 H2 H3
  obtain ⟨c0, c1, c2, f1, f2, hc, hf, ne⟩ := h
  have ca := hc a ha
  have cb := hc b hb'
  have fa := hf a
  have fb := hf b
  have hba : b ≠ a := fun e => hab e.symm
  have k1 : (0 : Int) ≤ (a : Int) := by omega
  have k2 : (a : Int) < (nn : Int) := by omega
  have k3 : (0 : Int) ≤ (b : Int) := by omega
  have k4 : (b : Int) < (nn : Int) := by omega
  go_enter Try.func28, Try.ntmps28
  go_wp2_with fail
  · rename_i d1 d2
    go_end0
    have e : handG held giv a = giv := by unfold handG; rw [if_pos (by simpa using d1), if_pos d2]; omega
    have G := O3.out.set_giv (giv - 1)
    have G2 := G.1.set_giv giv
    rw [e]
    exact ⟨rfl, G2.1, (T3.out.trans G.2).trans G2.2⟩
  · rename_i d1 d2
    go_end0
    have e : handG held giv a = giv - 1 := by unfold handG; rw [if_pos (by simpa using d1), if_neg (by omega)]; omega
    have G := O3.out.set_giv (giv - 1)
    rw [e]
    exact ⟨rfl, G.1, T3.out.trans G.2⟩
  · rename_i d1 d2
    go_end0
    have e : handG held giv a = giv + 1 := by unfold handG; rw [if_neg (by simpa using d1), if_pos d2]; omega
    have G := O3.out.set_giv (giv + 1)
    rw [e]
    exact ⟨rfl, G.1, T3.out.trans G.2⟩
  · rename_i d1 d2
    go_end0
    have e : handG held giv a = giv := by unfold handG; rw [if_neg (by simpa using d1), if_neg (by omega)]; omega
    rw [e]
    exact ⟨rfl, O3.out, T3.out⟩

theorem wf_i64 {x : Int} (h0 : -9223372036854775808 ≤ x) (h1 : x ≤ 9223372036854775807) : (Lit.int .i64 x).wf = true := by
  have e0 : IntKind.i64.min = -9223372036854775808 := by decide
  have e1 : IntKind.i64.max = 9223372036854775807 := by decide
  simp [Lit.wf, e0, e1]
  omega
/-- a list of the call's own as a slice value, nil or not -/
theorem owns_val2 {w : World} {base : Nat} {v : Value} {zs : List Int} (h : w.ownsInts base 3 .i64 v zs) :
    ∃ p cap, v = .slice p zs.length cap ∧ (zs = [] ∨ ∃ g, p = some ⟨g, 0, none⟩ ∧ base ≤ g ∧ g < w.heap.size ∧ zs.length ≤ cap ∧ ∀ i (hi : i < zs.length), w.cell? ⟨g, i, none⟩ = some (.int .i64 zs[i])) := by
  rcases owns_val h with ⟨rfl, rfl⟩ | ⟨g, cap, rfl, h1, h2, h3, _, h5⟩
  · exact ⟨none, 0, rfl, Or.inl rfl⟩
  · exact ⟨_, cap, rfl, Or.inr ⟨g, rfl, h1, h2, h3, h5⟩⟩

theorem any_take_false {l : List Int} {p : Int → Bool} {k : Nat} (hk : k < l.length) (h : (l.take k).any p = false) (hp : p l[k] = false) : (l.take (k + 1)).any p = false := by
  rw [List.take_succ_eq_append_getElem hk, List.any_append, h]
  simp [hp]

set_option maxRecDepth 100000 in
set_option maxHeartbeats 4000000 in
theorem serves_any (ob oo hb nn lb B0 n : Nat) (held : Nat → Int) (giv tr : Int) (L : Int → List Int) (q : Nat) (w : World) (h : ObjAt w ob oo hb nn held giv tr) (hl : LinksAt w lb B0 n L) (hn : n < maxLen) (hq : q < nn) (hnn : nn ≤ 4096) (hL : InR nn L) (hll : ∀ a, (L a).length ≤ 1099511627776) :
    Calls Try.prog 22 #[.pointer (some ⟨ob, oo, none⟩), .pointer (some ⟨lb, 0, none⟩), .int .i32 q] w fun e w' => e = .returned (.bool (servesF L held q)) ∧ w' = w := by
  have Hof := Lib.hid (of_any lb B0 n L (q : Int) w hl hn (wf_i64 (by omega) (by omega)))
  obtain ⟨c0, c1, c2, f1, f2, hc, hf, ne⟩ := h
  have cq := hc q hq
  have k1 : (0 : Int) ≤ (q : Int) := by omega
  have k2 : (q : Int) < (nn : Int) := by omega
  have n1 : IntKind.i64.wrap (q : Int) = (q : Int) := IntWalk.i64_in _ ⟨by omega, by omega⟩
  go_enter Try.func22, Try.ntmps22
  by_cases hp : 0 < held q
  · have e : servesF L held q = true := by unfold servesF; simp [hp]
    rw [e]
    go_wp2_with fail
    go_ret
    exact ⟨rfl, rfl⟩
  · have e : servesF L held q = (L (q : Int)).any (fun b => decide (0 < held b.toNat)) := by unfold servesF; simp [hp]
    rw [e]
    clear e
    have hin : ∀ b ∈ L (q : Int), 0 ≤ b ∧ b < nn := fun b hb => hL _ b hb
    have Hlen := Lib.hid (hll (q : Int))
    clear hll
    generalize L (q : Int) = zs at *
    go_wp2_with fail
    refine Hof.out.mono ?_
    rintro e w1 ⟨v, rfl, hw, hoi⟩
    subst hw
    obtain ⟨p, cap, rfl, hval⟩ := owns_val2 hoi
    have hzl : zs.length ≤ 1099511627776 := Hlen.out
    have Hval := Lib.hid hval
    have Hin := Lib.hid hin
    have Hc := Lib.hid hc
    clear hoi Hof hval hl hin hc hL
    go_wp2_with fail
    go_loop [22] (fun i => ∃ k : Nat, k ≤ zs.length ∧ i = .int .i64 k ∧ Hid ((zs.take k).any (fun b => decide (0 < held b.toNat)) = false)) (fun i => zs.length - (intOf i).toNat)
    case atStart => exact ⟨0, Nat.zero_le _, rfl, rfl⟩
    case round =>
      obtain ⟨k, hk, rfl, Hk⟩ := hrel
      by_cases hlt : k < zs.length
      · rcases Hval.out with rfl | ⟨g, rfl, hg1, hg2, hcap, hcell⟩
        · simp at hlt
        have ck := hcell k hlt
        have hz := Hin.out zs[k] (List.getElem_mem _)
        have hmem : zs[k] ∈ zs := List.getElem_mem _
        have Hk2 := Lib.hid (fun hp => any_take_false (p := fun b => decide (0 < held b.toNat)) hlt Hk.out hp)
        generalize zs[k] = z at *
        obtain ⟨b, rfl⟩ : ∃ b : Nat, z = (b : Int) := ⟨z.toNat, by omega⟩
        have cb := Hc.out b (by omega)
        have j1 : (0 : Int) ≤ (k : Int) := by omega
        have j2 : (k : Int) < (zs.length : Int) := by omega
        have j3 : (0 : Int) ≤ (b : Int) := by omega
        have j4 : (b : Int) < (nn : Int) := by omega
        clear hcell
        by_cases hpb : 0 < held b
        · have e : zs.any (fun b => decide (0 < held b.toNat)) = true := List.any_eq_true.2 ⟨_, hmem, by simpa using hpb⟩
          have He := Lib.hid e
          clear e
          go_wp2_with fail
          go_ret
          exact ⟨by rw [He.out]; rfl, rfl⟩
        · go_wp2_with fail
          go_round
          case rel => exact ⟨k + 1, by omega, by go_num, Hk2.out (by simpa using hpb)⟩
          case measure => simp [intOf]; omega
      · have j2 : ¬ (k : Int) < (zs.length : Int) := by omega
        have e : zs.any (fun b => decide (0 < held b.toNat)) = false := by
          have := Hk.out
          rw [List.take_of_length_le (by omega)] at this
          exact this
        have He := Lib.hid e
        clear e
        go_wp2_with fail
        go_ret
        exact ⟨by rw [He.out]; rfl, rfl⟩
end Go.Proofs.Qxb6612920a.spray
