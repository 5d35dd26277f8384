import Derived.Test.Qxb6612920aLinkMem
namespace Go.Proofs.Qxb6612920a.spray
open Go.RowKit Go.PlainAid Go.Maps Go.ChangeMaps Go.MapKept Go.ChangeShapes

/-- Links.Of -/
theorem of_any (lb B0 n : Nat) (L : Int → List Int) (a : Int) (w : World) (h : LinksAt w lb B0 n L) (hn : n < maxLen) (ha : (Lit.int .i64 a).wf = true) :
    Calls Try.prog 27 #[.pointer (some ⟨lb, 0, none⟩), .int .i64 a] w fun e w' => ∃ v, e = .returned v ∧ w' = w ∧ w.ownsInts B0 3 .i64 v (L a) := by
  obtain ⟨m, v, hm, hrun, hoi⟩ := links_look h hn a ha
  go_enter Try.func27, Try.ntmps27
  go_wp2_with (at_lookup; refine wpList_lookup_run _ rfl _ _ _ rfl m (.int .i64 a) v rfl rfl hrun ?_)
  go_ret
  exact ⟨v, rfl, rfl, hoi⟩

/-- a list of the call's own as a slice value -/
theorem owns_val {w : World} {base : Nat} {v : Value} {zs : List Int} (h : w.ownsInts base 3 .i64 v zs) :
    (v = .slice none 0 0 ∧ zs = []) ∨ ∃ g cap, v = .slice (some ⟨g, 0, none⟩) zs.length cap ∧ base ≤ g ∧ g < w.heap.size ∧ zs.length ≤ cap ∧ cap ≤ maxLen ∧ ∀ i (hi : i < zs.length), w.cell? ⟨g, i, none⟩ = some (.int .i64 zs[i]) := by
  rcases h.1.2 with ⟨rfl, h0⟩ | ⟨g, cap, cur, rfl, hg, hc, h1, h2, h3, h4⟩
  · exact Or.inl ⟨rfl, List.eq_nil_of_length_eq_zero h0⟩
  · refine Or.inr ⟨g, cap, rfl, hg, (h.1.lt g rfl).2, h1, h2, fun i hi => ?_⟩
    rw [h.1.cellAt i (by omega)]
    simp [hi]

theorem linked_dec {l : List Int} {b : Int} (ha : Asc l) (hi : cntLt l b < l.length) : decide (b ∈ l) = decide (l[cntLt l b] = b) := by
  by_cases h : b ∈ l
  · obtain ⟨_, e⟩ := asc_at ha h
    simp [h, e]
  · have : l[cntLt l b] ≠ b := fun e => h (by rw [← e]; exact List.getElem_mem _)
    simp [h, this]
theorem linked_end {l : List Int} {b : Int} (ha : Asc l) (hi : ¬ cntLt l b < l.length) : decide (b ∈ l) = false := by
  simp only [decide_eq_false_iff_not]
  intro h
  exact hi (asc_at ha h).1

/-- Links.Linked -/
theorem linked_any (lb B0 n : Nat) (L : Int → List Int) (a b : Int) (w : World) (h : LinksAt w lb B0 n L) (hn : n < maxLen) (ha : (Lit.int .i64 a).wf = true) (hasc : Asc (L a)) (hl : (L a).length ≤ 1099511627776) :
    Calls Try.prog 19 #[.pointer (some ⟨lb, 0, none⟩), .int .i64 a, .int .i64 b] w fun e w' => e = .returned (.bool (decide (b ∈ L a))) ∧ Below w.heap.size w w' := by
  obtain ⟨m, v, hm, hrun, hoi⟩ := links_look h hn a ha
  clear h
  have hsearch := Lib.hid (search_own B0 v (L a) b w hoi.1 hasc (by omega))
  have hval := owns_val hoi
  clear hoi
  have hcl := cntLt_le (L a) b
  have hd1 := Lib.hid (fun hi => linked_dec (b := b) hasc hi)
  have hd2 := Lib.hid (fun hi => linked_end (b := b) hasc hi)
  generalize L a = zs at *
  generalize hidx : cntLt zs b = i at *
  generalize decide (b ∈ zs) = r at *
  clear hidx
  go_enter Try.func19, Try.ntmps19
  go_wp2_with (at_lookup; refine wpList_lookup_run _ rfl _ _ _ rfl m (.int .i64 a) v rfl rfl hrun ?_)
  refine hsearch.out.mono ?_
  rintro e w1 ⟨rfl, hb1⟩
  rcases hval with ⟨rfl, rfl⟩ | ⟨g, cap, rfl, hgb, hglt, hncap, hcapm, hcell⟩
  · have e := hd2.out (by simp)
    subst e
    obtain rfl : i = 0 := by simpa using hcl
    go_wp2_with fail
    go_ret
    exact ⟨rfl, hb1⟩
  · unfold maxLen at hcapm
    by_cases hi : i < zs.length
    · have e := hd1.out hi
      have c1 := (World.cell?_of_block (a := ⟨g, i, none⟩) (hb1.block g hglt)).trans (hcell i hi)
      generalize zs[i] = z at *
      have k1 : (0 : Int) ≤ (i : Int) := by omega
      have k2 : (i : Int) < (zs.length : Int) := by omega
      subst e
      by_cases hz : z = b
      · subst hz
        go_wp2_with fail
        go_ret
        exact ⟨by simp, hb1⟩
      · have hz' : decide (z = b) = false := by simp [hz]
        go_wp2_with fail
        go_ret
        exact ⟨by simp [hz], hb1⟩
    · have e := hd2.out hi
      subst e
      have k2 : ¬ (i : Int) < (zs.length : Int) := by omega
      go_wp2_with fail
      go_ret
      exact ⟨rfl, hb1⟩

/-- what Apply makes of the lists -/
def applyF (L : Int → List Int) (a b : Int) (up : Bool) : Int → List Int :=
  if up then upd (upd L a (insF (L a) b)) b (insF (upd L a (insF (L a) b) b) a) else upd (upd L a (remF (L a) b)) b (remF (upd L a (remF (L a) b) b) a)

/-- the box of a Change -/
def BoxC (x : World) (cb : Nat) (t a b : Int) (up : Bool) : Prop := x.heap[cb]? = some (.cells #[.int .i64 t, .int .i64 a, .int .i64 b, .bool up] 62 (0, 0))
theorem BoxC.c1 {x : World} {cb : Nat} {t a b : Int} {up : Bool} (h : BoxC x cb t a b up) : x.cell? ⟨cb, 1, none⟩ = some (.int .i64 a) := by
  unfold BoxC at h; simp [World.cell?, h]
theorem BoxC.c2 {x : World} {cb : Nat} {t a b : Int} {up : Bool} (h : BoxC x cb t a b up) : x.cell? ⟨cb, 2, none⟩ = some (.int .i64 b) := by
  unfold BoxC at h; simp [World.cell?, h]
theorem BoxC.c3 {x : World} {cb : Nat} {t a b : Int} {up : Bool} (h : BoxC x cb t a b up) : x.cell? ⟨cb, 3, none⟩ = some (.bool up) := by
  unfold BoxC at h; simp [World.cell?, h]

theorem owns_no_box {w : World} {base : Nat} {v : Value} {zs : List Int} (h : w.ownsInts base 3 .i64 v zs) {cb : Nat} {t a b : Int} {up : Bool} (hb : BoxC w cb t a b up) : some cb ≠ v.ownBlock := by
  rcases h.1.2 with ⟨rfl, h0⟩ | ⟨g, cap, cur, rfl, hg, hc, _⟩
  · simp [Value.ownBlock]
  · intro e
    have e : cb = g := Option.some.inj e
    subst e
    unfold BoxC at hb
    rw [hb] at hc
    simp at hc
theorem map_no_box {w : World} {bm n : Nat} {L : Int → List Int} (h : MapAt w bm n L) {cb : Nat} {t a b : Int} {up : Bool} (hb : BoxC w cb t a b up) : cb ≠ bm := by
  rintro rfl
  obtain ⟨D, ⟨es, clock, hc, _⟩, _⟩ := h
  unfold BoxC at hb
  rw [hb] at hc
  simp at hc

/-- one half of Apply: what lies behind the call and behind the store -/
def Half (W : World) (lb bm n cb : Nat) (t a b : Int) (up : Bool) (key : Int) (L' : Int → List Int) (e : Ending) (w1 : World) : Prop :=
  ∃ v', e = .returned v' ∧ w1.cell? ⟨lb, 0, none⟩ = some (.map (some bm)) ∧ w1.cell? ⟨cb, 1, none⟩ = some (.int .i64 a) ∧ w1.cell? ⟨cb, 2, none⟩ = some (.int .i64 b) ∧
    ∃ w2, (Instr.mapUpdate 56 (.map (some bm)) (.int .i64 key) v').run Try.prog w1 = .ok () w2 ∧ w2.cell? ⟨lb, 0, none⟩ = some (.map (some bm)) ∧ w2.cell? ⟨cb, 1, none⟩ = some (.int .i64 a) ∧ w2.cell? ⟨cb, 2, none⟩ = some (.int .i64 b) ∧
      Hid (MapAt w2 bm (n + 1) L' ∧ BoxC w2 cb t a b up ∧ Only (fun k => bm ≤ k) W w2)

theorem half_end {W : World} {lb bm n cb : Nat} {t a b : Int} {up : Bool} {L : Int → List Int} {key : Int} {v : Value} {zs' : List Int} (hbox : BoxC W cb t a b up) (hlb : lb < bm) (hc : W.cell? ⟨lb, 0, none⟩ = some (.map (some bm))) (hm : MapAt W bm n L)
    (hoi : W.ownsInts (bm + 1) 3 .i64 v (L key))
    (hback : ∀ (w1 : World) (v' : Value) (zs' : List Int), W.grownBy w1 v.ownBlock → w1.ownsInts (bm + 1) 3 .i64 v' zs' → zs'.length ≤ n + 1 → (v'.ownBlock = v.ownBlock ∨ ∃ g, v'.ownBlock = some g ∧ W.heap.size ≤ g) →
        ∃ w2, (Instr.mapUpdate 56 (.map (some bm)) (.int .i64 key) v').run Try.prog w1 = .ok () w2 ∧ MapAt w2 bm (n + 1) (upd L key zs') ∧ w1.grownBy w2 (some bm))
    {w1 : World} {v' : Value} (hg : W.grownBy w1 v.ownBlock) (ho : w1.ownsInts (bm + 1) 3 .i64 v' zs') (hl : zs'.length ≤ n + 1) (hloc : v'.ownBlock = v.ownBlock ∨ ∃ g, v'.ownBlock = some g ∧ W.heap.size ≤ g) :
    Half W lb bm n cb t a b up key (upd L key zs') (.returned v') w1 := by
  obtain ⟨w2, hrun, hm2, hg2⟩ := hback w1 v' zs' hg ho hl hloc
  have hlt := map_lt hm
  have hcb := map_no_box hm hbox
  have hcbl : cb < W.heap.size := (Array.getElem?_eq_some_iff.1 hbox).1
  have o1 := Only.of_grown hg
  have o2 := Only.of_grown hg2
  have nlb : some lb ≠ v.ownBlock := fun e => by
    have := (hoi.1.lt lb e.symm).1
    omega
  have b1 : BoxC w1 cb t a b up := (o1.block cb hcbl (owns_no_box hoi hbox)).trans hbox
  have b2 : BoxC w2 cb t a b up := (o2.block cb (Nat.lt_of_lt_of_le hcbl o1.size) (by simpa using hcb)).trans b1
  have l1 := (o1.cell ⟨lb, 0, none⟩ (by simp; omega) nlb).trans hc
  have l2 := (o2.cell ⟨lb, 0, none⟩ (by have := o1.size; simp; omega) (by simp; omega)).trans l1
  refine ⟨v', rfl, l1, b1.c1, b1.c2, w2, hrun, l2, b2.c1, b2.c2, ⟨hm2, b2, ?_⟩⟩
  refine (o1.mono fun k _ hk => ?_).trans (o2.mono fun k _ hk => ?_)
  · have := (hoi.1.lt k hk.symm).1
    omega
  · cases hk; exact Nat.le_refl _

theorem half_up {W : World} {lb bm n cb : Nat} {t a b : Int} {up : Bool} {L : Int → List Int} (key x : Int) (hbox : BoxC W cb t a b up) (hlb : lb < bm) (hc : W.cell? ⟨lb, 0, none⟩ = some (.map (some bm))) (hm : MapAt W bm n L) (hn : n < 1099511627776)
    (hk : (Lit.int .i64 key).wf = true) (hx : (Lit.int .i64 x).wf = true) (hasc : Asc (L key)) :
    ∃ v, (Instr.lookup 56 (.map (some bm)) (.int .i64 key) false).run Try.prog W = .ok v W ∧ Calls Try.prog 24 #[v, .int .i64 x] W (Half W lb bm n cb t a b up key (upd L key (insF (L key) x))) := by
  obtain ⟨v, hrun, hoi, hzl, hback⟩ := map_at hm (by unfold maxLen; omega) key hk
  refine ⟨v, hrun, (insert_any (bm + 1) v (L key) x W hoi hasc (by omega) (by have := map_lt hm; omega) hx).mono ?_⟩
  rintro e w1 ⟨v', rfl, ho, hg, hloc⟩
  exact half_end hbox hlb hc hm hoi hback hg ho (by rw [length_insF]; omega) hloc

theorem half_down {W : World} {lb bm n cb : Nat} {t a b : Int} {up : Bool} {L : Int → List Int} (key x : Int) (hbox : BoxC W cb t a b up) (hlb : lb < bm) (hc : W.cell? ⟨lb, 0, none⟩ = some (.map (some bm))) (hm : MapAt W bm n L) (hn : n < 1099511627776)
    (hk : (Lit.int .i64 key).wf = true) (hx : x ∈ L key) (hasc : Asc (L key)) :
    ∃ v, (Instr.lookup 56 (.map (some bm)) (.int .i64 key) false).run Try.prog W = .ok v W ∧ Calls Try.prog 25 #[v, .int .i64 x] W (Half W lb bm n cb t a b up key (upd L key (remF (L key) x))) := by
  obtain ⟨v, hrun, hoi, hzl, hback⟩ := map_at hm (by unfold maxLen; omega) key hk
  refine ⟨v, hrun, (remove_any (bm + 1) v (L key) x W hoi hasc (by omega) hx).mono ?_⟩
  rintro e w1 ⟨v', rfl, ho, hg, hloc⟩
  exact half_end hbox hlb hc hm hoi hback hg ho (by rw [length_remF (asc_at hasc hx).1]; omega) (Or.inl hloc)

set_option maxRecDepth 100000 in
set_option maxHeartbeats 4000000 in
theorem apply_up (lb B0 n bm : Nat) (L : Int → List Int) (t a b : Int) (w : World) (hlb : lb < B0) (hc : w.cell? ⟨lb, 0, none⟩ = some (.map (some bm))) (hB : B0 ≤ bm) (hm : MapAt w bm n L)
    (hn : n + 2 < 1099511627776) (ha : (Lit.int .i64 a).wf = true) (hb : (Lit.int .i64 b).wf = true) (hne : b ≠ a) (hasc : ∀ x, Asc (L x)) :
    Calls Try.prog 18 #[.pointer (some ⟨lb, 0, none⟩), .agg #[.int .i64 t, .int .i64 a, .int .i64 b, .bool true]] w fun e w' => e = .returned (.tuple #[]) ∧ MapAt w' bm (n + 2) (applyF L a b true) ∧ Only (fun k => bm ≤ k) w w' ∧ w'.cell? ⟨lb, 0, none⟩ = some (.map (some bm)) := by
  have hbs := map_lt hm
  have hlw : lb < w.heap.size := by omega
  have nl := World.new_ne w ⟨lb, 0, none⟩ hc
  have q56 := fun (w : World) (r : Option Nat) => run_eql_map_nil (P := Try.prog) w 56 3 22 r Try.underlying56
  obtain ⟨W0, hW0⟩ : ∃ W0, W0 = w.alloc (.cells #[.int .i64 t, .int .i64 a, .int .i64 b, .bool true] 62 (0, 0)) := ⟨_, rfl⟩
  have o0 : Only (fun k => bm ≤ k) w W0 := hW0 ▸ Only.alloc _ _ _
  have box0 : BoxC W0 w.heap.size t a b true := by subst hW0; exact heap_alloc_new w _
  have m0 : MapAt W0 bm n L := map_stay hm (fun k _ hk => by subst hW0; exact Below.heap_alloc _ _ _ hk)
  have c0 : W0.cell? ⟨lb, 0, none⟩ = some (.map (some bm)) := (o0.cell ⟨lb, 0, none⟩ hlw (by simp; omega)).trans hc
  obtain ⟨v, hrun, hcall⟩ := half_up (W := W0.drew) (lb := lb) (bm := bm) a b box0 (by omega) c0 m0 (by omega) ha hb (hasc a)
  have a0 := box0.c1
  have b0 := box0.c2
  have Hcall := Lib.hid hcall
  have Hm := Lib.hid o0
  clear hcall o0 box0 m0 hm
  go_enter Try.func18, Try.ntmps18
  go_wp2_with fail
  rw [← hW0]
  clear hW0
  go_region_held3 (fun x => x.cell? ⟨lb, 0, none⟩ = some (.map (some bm)) ∧ x.cell? ⟨w.heap.size, 1, none⟩ = some (.int .i64 a) ∧ x.cell? ⟨w.heap.size, 2, none⟩ = some (.int .i64 b)) (first | exact ⟨c0, a0, b0⟩ | (refine ⟨?_, ?_, ?_⟩ <;> assumption))
    ((go_at_call 24; refine Hcall.out.mono ?_; rintro e w1 ⟨v', rfl, c1, a1, b1, w2, hrun2, c2, a2, b2, hend⟩))
  obtain ⟨m2, box2, o2⟩ := hend.out
  clear hend Hcall hrun hrun2 c1 a1 b1 c0 a0 b0
  have hb2 : (upd L a (insF (L a) b)) b = L b := by unfold upd; rw [if_neg hne]
  obtain ⟨v2, hrun, hcall⟩ := half_up (W := w2.drew) (lb := lb) (bm := bm) b a box2 (by omega) c2 m2 (by omega) hb ha (by rw [hb2]; exact hasc b)
  have Hcall := Lib.hid hcall
  have Ho := Lib.hid o2
  clear hcall box2 m2 o2
  go_wp2_with fail
  go_region_held3 (fun x => x.cell? ⟨lb, 0, none⟩ = some (.map (some bm)) ∧ x.cell? ⟨w.heap.size, 1, none⟩ = some (.int .i64 a) ∧ x.cell? ⟨w.heap.size, 2, none⟩ = some (.int .i64 b)) (first | exact ⟨c2, a2, b2⟩ | (refine ⟨?_, ?_, ?_⟩ <;> assumption))
    ((go_at_call 24; refine Hcall.out.mono ?_; rintro e w3 ⟨v3, rfl, c3, a3, b3, w4, hrun4, c4, a4, b4, hend⟩))
  obtain ⟨m4, box4, o4⟩ := hend.out
  clear hend Hcall hrun hrun4
  have hO := ((Hm.out.trans (b := W0) (c := w2) ⟨Ho.out.os, Ho.out.tape, Ho.out.output, Ho.out.size, Ho.out.block⟩).trans (c := w4) ⟨o4.os, o4.tape, o4.output, o4.size, o4.block⟩)
  clear Hm Ho o4 box4
  go_wp2_with fail
  go_end0
  exact ⟨rfl, m4, hO, c4⟩
set_option maxRecDepth 100000 in
set_option maxHeartbeats 4000000 in
theorem apply_down (lb B0 n bm : Nat) (L : Int → List Int) (t a b : Int) (w : World) (hlb : lb < B0) (hc : w.cell? ⟨lb, 0, none⟩ = some (.map (some bm))) (hB : B0 ≤ bm) (hm : MapAt w bm n L)
    (hn : n + 2 < 1099511627776) (ha : (Lit.int .i64 a).wf = true) (hb : (Lit.int .i64 b).wf = true) (hne : b ≠ a) (hasc : ∀ x, Asc (L x)) (hab : b ∈ L a) (hba : a ∈ L b) :
    Calls Try.prog 18 #[.pointer (some ⟨lb, 0, none⟩), .agg #[.int .i64 t, .int .i64 a, .int .i64 b, .bool false]] w fun e w' => e = .returned (.tuple #[]) ∧ MapAt w' bm (n + 2) (applyF L a b false) ∧ Only (fun k => bm ≤ k) w w' ∧ w'.cell? ⟨lb, 0, none⟩ = some (.map (some bm)) := by
  have hbs := map_lt hm
  have hlw : lb < w.heap.size := by omega
  have nl := World.new_ne w ⟨lb, 0, none⟩ hc
  have q56 := fun (w : World) (r : Option Nat) => run_eql_map_nil (P := Try.prog) w 56 3 22 r Try.underlying56
  obtain ⟨W0, hW0⟩ : ∃ W0, W0 = w.alloc (.cells #[.int .i64 t, .int .i64 a, .int .i64 b, .bool false] 62 (0, 0)) := ⟨_, rfl⟩
  have o0 : Only (fun k => bm ≤ k) w W0 := hW0 ▸ Only.alloc _ _ _
  have box0 : BoxC W0 w.heap.size t a b false := by subst hW0; exact heap_alloc_new w _
  have m0 : MapAt W0 bm n L := map_stay hm (fun k _ hk => by subst hW0; exact Below.heap_alloc _ _ _ hk)
  have c0 : W0.cell? ⟨lb, 0, none⟩ = some (.map (some bm)) := (o0.cell ⟨lb, 0, none⟩ hlw (by simp; omega)).trans hc
  obtain ⟨v, hrun, hcall⟩ := half_down (W := W0.drew) (lb := lb) (bm := bm) a b box0 (by omega) c0 m0 (by omega) ha hab (hasc a)
  have a0 := box0.c1
  have b0 := box0.c2
  have Hcall := Lib.hid hcall
  have Hm := Lib.hid o0
  clear hcall o0 box0 m0 hm
  go_enter Try.func18, Try.ntmps18
  go_wp2_with fail
  rw [← hW0]
  clear hW0
  go_region_held3 (fun x => x.cell? ⟨lb, 0, none⟩ = some (.map (some bm)) ∧ x.cell? ⟨w.heap.size, 1, none⟩ = some (.int .i64 a) ∧ x.cell? ⟨w.heap.size, 2, none⟩ = some (.int .i64 b)) (first | exact ⟨c0, a0, b0⟩ | (refine ⟨?_, ?_, ?_⟩ <;> assumption))
    ((go_at_call 25; refine Hcall.out.mono ?_; rintro e w1 ⟨v', rfl, c1, a1, b1, w2, hrun2, c2, a2, b2, hend⟩))
  obtain ⟨m2, box2, o2⟩ := hend.out
  clear hend Hcall hrun hrun2 c1 a1 b1 c0 a0 b0
  have hb2 : (upd L a (remF (L a) b)) b = L b := by unfold upd; rw [if_neg hne]
  obtain ⟨v2, hrun, hcall⟩ := half_down (W := w2.drew) (lb := lb) (bm := bm) b a box2 (by omega) c2 m2 (by omega) hb (by rw [hb2]; exact hba) (by rw [hb2]; exact hasc b)
  have Hcall := Lib.hid hcall
  have Ho := Lib.hid o2
  clear hcall box2 m2 o2
  go_wp2_with fail
  go_region_held3 (fun x => x.cell? ⟨lb, 0, none⟩ = some (.map (some bm)) ∧ x.cell? ⟨w.heap.size, 1, none⟩ = some (.int .i64 a) ∧ x.cell? ⟨w.heap.size, 2, none⟩ = some (.int .i64 b)) (first | exact ⟨c2, a2, b2⟩ | (refine ⟨?_, ?_, ?_⟩ <;> assumption))
    ((go_at_call 25; refine Hcall.out.mono ?_; rintro e w3 ⟨v3, rfl, c3, a3, b3, w4, hrun4, c4, a4, b4, hend⟩))
  obtain ⟨m4, box4, o4⟩ := hend.out
  clear hend Hcall hrun hrun4
  have hO := ((Hm.out.trans (b := W0) (c := w2) ⟨Ho.out.os, Ho.out.tape, Ho.out.output, Ho.out.size, Ho.out.block⟩).trans (c := w4) ⟨o4.os, o4.tape, o4.output, o4.size, o4.block⟩)
  clear Hm Ho o4 box4
  go_wp2_with fail
  go_end0
  exact ⟨rfl, m4, hO, c4⟩
set_option maxRecDepth 100000 in
set_option maxHeartbeats 4000000 in
theorem apply_nil (lb B0 : Nat) (L : Int → List Int) (t a b : Int) (w : World) (hfr : w.frozen? ⟨lb, 0, none⟩ = false) (hlb : lb < B0) (hc : w.cell? ⟨lb, 0, none⟩ = some (.map none)) (hB0 : B0 ≤ w.heap.size) (hm : ∀ x, L x = [])
    (ha : (Lit.int .i64 a).wf = true) (hb : (Lit.int .i64 b).wf = true) (hne : b ≠ a) :
    Calls Try.prog 18 #[.pointer (some ⟨lb, 0, none⟩), .agg #[.int .i64 t, .int .i64 a, .int .i64 b, .bool true]] w fun e w' => e = .returned (.tuple #[]) ∧ ∃ bm, B0 ≤ bm ∧ MapAt w' bm 2 (applyF L a b true) ∧ Only (fun k => k = lb ∨ B0 ≤ k) w w' ∧ w'.cell? ⟨lb, 0, none⟩ = some (.map (some bm)) ∧ w'.frozen? ⟨lb, 0, none⟩ = false := by
  have hlw : lb < w.heap.size := by omega
  have nl := World.new_ne w ⟨lb, 0, none⟩ hc
  have q56 := fun (w : World) (r : Option Nat) => run_eql_map_nil (P := Try.prog) w 56 3 22 r Try.underlying56
  have hasc : ∀ x, Asc (L x) := fun x => by rw [hm x]; exact List.Pairwise.nil
  have hmk := fun (w : World) => run_makeMap (P := Try.prog) 56 w
  have nl2 : ¬ (w.heap.size + 1 = lb) := by omega
  obtain ⟨bm, hbm⟩ : ∃ bm, bm = w.heap.size + 1 := ⟨_, rfl⟩
  obtain ⟨W0, hW0⟩ : ∃ W0, W0 = ((w.setCell ⟨lb, 0, none⟩ (.map (some (w.heap.size + 1)))).alloc (.cells #[.int .i64 t, .int .i64 a, .int .i64 b, .bool true] 62 (0, 0))).alloc (.map #[] 0) := ⟨_, rfl⟩
  have hB : B0 ≤ bm := by omega
  have o0 : Only (fun k => k = lb ∨ B0 ≤ k) w W0 := by
    subst hW0
    exact (((Only.setCell w ⟨lb, 0, none⟩ _).mono fun k _ hk => Or.inl hk).trans (Only.alloc _ _ _)).trans (Only.alloc _ _ _)
  have box0 : BoxC W0 w.heap.size t a b true := by
    subst hW0
    refine (Below.heap_alloc _ _ _ (by simp)).trans ?_
    have := heap_alloc_new (w.setCell ⟨lb, 0, none⟩ (.map (some (w.heap.size + 1)))) (.cells #[.int .i64 t, .int .i64 a, .int .i64 b, .bool true] 62 (0, 0))
    simpa using this
  have m0 : MapAt W0 bm 0 L := by
    have hL : L = fun _ => [] := funext hm
    rw [hL]
    subst hW0
    have := map_made ((w.setCell ⟨lb, 0, none⟩ (.map (some (w.heap.size + 1)))).alloc (.cells #[.int .i64 t, .int .i64 a, .int .i64 b, .bool true] 62 (0, 0)))
    have e : ((w.setCell ⟨lb, 0, none⟩ (.map (some (w.heap.size + 1)))).alloc (.cells #[.int .i64 t, .int .i64 a, .int .i64 b, .bool true] 62 (0, 0))).heap.size = bm := by simp [hbm]
    rw [e] at this
    exact this
  have c0 : W0.cell? ⟨lb, 0, none⟩ = some (.map (some bm)) := by
    subst hW0
    have h1 := World.cell?_of_block (a := ⟨lb, 0, none⟩) (Below.heap_alloc ((w.setCell ⟨lb, 0, none⟩ (.map (some (w.heap.size + 1)))).alloc (.cells #[.int .i64 t, .int .i64 a, .int .i64 b, .bool true] 62 (0, 0))) (.map #[] 0) lb (by simp; omega))
    have h2 := World.cell?_of_block (a := ⟨lb, 0, none⟩) (Below.heap_alloc (w.setCell ⟨lb, 0, none⟩ (.map (some (w.heap.size + 1)))) (.cells #[.int .i64 t, .int .i64 a, .int .i64 b, .bool true] 62 (0, 0)) lb (by simpa using hlw))
    have h3 := World.cell?_setCell_same' w ⟨lb, 0, none⟩ (.map (some (w.heap.size + 1))) (by rw [hc]; rfl)
    rw [hbm]
    exact (h1.trans h2).trans h3
  have f0 : W0.frozen? ⟨lb, 0, none⟩ = false := by
    subst hW0
    have h1 := World.frozen?_of_block (a := ⟨lb, 0, none⟩) (Below.heap_alloc ((w.setCell ⟨lb, 0, none⟩ (.map (some (w.heap.size + 1)))).alloc (.cells #[.int .i64 t, .int .i64 a, .int .i64 b, .bool true] 62 (0, 0))) (.map #[] 0) lb (by simp; omega))
    have h2 := World.frozen?_of_block (a := ⟨lb, 0, none⟩) (Below.heap_alloc (w.setCell ⟨lb, 0, none⟩ (.map (some (w.heap.size + 1)))) (.cells #[.int .i64 t, .int .i64 a, .int .i64 b, .bool true] 62 (0, 0)) lb (by simpa using hlw))
    rw [h1, h2]
    simpa using hfr
  have Hf := Lib.hid f0
  clear f0
  have s0 : lb < W0.heap.size := Nat.lt_of_lt_of_le hlw o0.size
  obtain ⟨v, hrun, hcall⟩ := half_up (W := W0.drew) (lb := lb) (bm := bm) a b box0 (by omega) c0 m0 (by omega) ha hb (hasc a)
  have a0 := box0.c1
  have b0 := box0.c2
  have Hcall := Lib.hid hcall
  have Hm := Lib.hid o0
  clear hcall o0 box0 m0 hm
  have Hbm := Lib.hid hbm
  clear hbm
  go_enter Try.func18, Try.ntmps18
  go_wp2_with fail
  rw [← hW0, ← Hbm.out]
  clear hW0
  go_region_held3 (fun x => x.cell? ⟨lb, 0, none⟩ = some (.map (some bm)) ∧ x.cell? ⟨w.heap.size, 1, none⟩ = some (.int .i64 a) ∧ x.cell? ⟨w.heap.size, 2, none⟩ = some (.int .i64 b)) (first | exact ⟨c0, a0, b0⟩ | (refine ⟨?_, ?_, ?_⟩ <;> assumption))
    ((go_at_call 24; refine Hcall.out.mono ?_; rintro e w1 ⟨v', rfl, c1, a1, b1, w2, hrun2, c2, a2, b2, hend⟩))
  obtain ⟨m2, box2, o2⟩ := hend.out
  clear hend Hcall hrun hrun2 c1 a1 b1 c0 a0 b0
  have hb2 : (upd L a (insF (L a) b)) b = L b := by unfold upd; rw [if_neg hne]
  obtain ⟨v2, hrun, hcall⟩ := half_up (W := w2.drew) (lb := lb) (bm := bm) b a box2 (by omega) c2 m2 (by omega) hb ha (by rw [hb2]; exact hasc b)
  have Hcall := Lib.hid hcall
  have Ho := Lib.hid o2
  clear hcall box2 m2 o2
  go_wp2_with fail
  go_region_held3 (fun x => x.cell? ⟨lb, 0, none⟩ = some (.map (some bm)) ∧ x.cell? ⟨w.heap.size, 1, none⟩ = some (.int .i64 a) ∧ x.cell? ⟨w.heap.size, 2, none⟩ = some (.int .i64 b)) (first | exact ⟨c2, a2, b2⟩ | (refine ⟨?_, ?_, ?_⟩ <;> assumption))
    ((go_at_call 24; refine Hcall.out.mono ?_; rintro e w3 ⟨v3, rfl, c3, a3, b3, w4, hrun4, c4, a4, b4, hend⟩))
  obtain ⟨m4, box4, o4⟩ := hend.out
  clear hend Hcall hrun hrun4
  have hO := ((Hm.out.trans (b := W0) (c := w2) ⟨Ho.out.os, Ho.out.tape, Ho.out.output, Ho.out.size, fun k hk hS => Ho.out.block k hk (fun h => hS (Or.inr (Nat.le_trans hB h)))⟩).trans (c := w4) ⟨o4.os, o4.tape, o4.output, o4.size, fun k hk hS => o4.block k hk (fun h => hS (Or.inr (Nat.le_trans hB h)))⟩)
  have f4 : w4.frozen? ⟨lb, 0, none⟩ = false := (o4.frozen ⟨lb, 0, none⟩ (Nat.lt_of_lt_of_le s0 Ho.out.size) (by simp; omega)).trans ((Ho.out.frozen ⟨lb, 0, none⟩ s0 (by simp; omega)).trans Hf.out)
  clear Hm Ho o4 box4
  go_wp2_with fail
  go_end0
  exact ⟨rfl, bm, hB, m4, hO, c4, f4⟩

theorem map_mono {w : World} {bm n m : Nat} {L : Int → List Int} (h : MapAt w bm n L) (hm : n ≤ m) : MapAt w bm m L := by
  obtain ⟨D, ⟨es, clock, hb, F, hs, hDe, hbb, hlen, hap⟩, hD⟩ := h
  exact ⟨D, ⟨es, clock, hb, F, by omega, hDe, hbb, fun x hx zs ho => by have := hlen x hx zs ho; omega, hap⟩, hD⟩

/-- Links.Apply: up where the two are not linked, down where they are -/
theorem apply_any (lb B0 n : Nat) (L : Int → List Int) (t a b : Int) (w : World) (h : LinksAt w lb B0 n L) (hn : n + 2 < 1099511627776) (ha : (Lit.int .i64 a).wf = true) (hb : (Lit.int .i64 b).wf = true) (hne : b ≠ a) (hasc : ∀ x, Asc (L x)) (hsym : b ∈ L a → a ∈ L b) :
    Calls Try.prog 18 #[.pointer (some ⟨lb, 0, none⟩), .agg #[.int .i64 t, .int .i64 a, .int .i64 b, .bool (!decide (b ∈ L a))]] w fun e w' => e = .returned (.tuple #[]) ∧ LinksAt w' lb B0 (n + 2) (applyF L a b (!decide (b ∈ L a))) ∧ Only (fun k => k = lb ∨ B0 ≤ k) w w' := by
  obtain ⟨hfr, hlb, hB, hc⟩ := h
  rcases hc with ⟨hc, hL⟩ | ⟨bm, hc, hbm, hm⟩
  · have e : (!decide (b ∈ L a)) = true := by simp [hL a]
    rw [e]
    refine (apply_nil lb B0 L t a b w hfr hlb hc hB hL ha hb hne).mono ?_
    rintro e w' ⟨rfl, bm, hbm, hm, ho, hc', hf'⟩
    exact ⟨rfl, ⟨hf', hlb, Nat.le_trans hB ho.size, Or.inr ⟨bm, hc', hbm, map_mono hm (by omega)⟩⟩, ho⟩
  · have fin : ∀ (L' : Int → List Int) (w' : World), MapAt w' bm (n + 2) L' ∧ Only (fun k => bm ≤ k) w w' ∧ w'.cell? ⟨lb, 0, none⟩ = some (.map (some bm)) → LinksAt w' lb B0 (n + 2) L' ∧ Only (fun k => k = lb ∨ B0 ≤ k) w w' := by
      rintro L' w' ⟨h1, h2, h3⟩
      exact ⟨⟨(h2.frozen ⟨lb, 0, none⟩ (by simp; omega) (by simp; omega)).trans hfr, hlb, Nat.le_trans hB h2.size, Or.inr ⟨bm, h3, hbm, h1⟩⟩, h2.mono fun k _ hk => Or.inr (by omega)⟩
    by_cases hab : b ∈ L a
    · have e : (!decide (b ∈ L a)) = false := by simp [hab]
      rw [e]
      refine (apply_down lb B0 n bm L t a b w hlb hc hbm hm hn ha hb hne hasc hab (hsym hab)).mono ?_
      rintro e w' ⟨rfl, h⟩
      exact ⟨rfl, fin _ _ h⟩
    · have e : (!decide (b ∈ L a)) = true := by simp [hab]
      rw [e]
      refine (apply_up lb B0 n bm L t a b w hlb hc hbm hm hn ha hb hne hasc).mono ?_
      rintro e w' ⟨rfl, h⟩
      exact ⟨rfl, fin _ _ h⟩
end Go.Proofs.Qxb6612920a.spray
