import Derived.Test.Qxb6605976aTurns
namespace Go.Proofs.Qxb6605976a.turns
open Go.RowKit

/-- it returns some bool -/
def RetBool (e : Ending) : Prop := ∃ r : Bool, e = .returned (.bool r)

set_option maxHeartbeats 1000000 in
theorem bytes_none (pm co : ByteArray) (hc : Bool) (a : Option Addr) (cap : Nat) (kd it ph ct : ByteArray) (w : World) :
    Calls Try.prog 11 #[.string pm, .string co, .bool hc, .slice a 0 cap, .string kd, .string it, .string ph, .string ct] w fun e w' => RetBool e ∧ w' = w := by
  go_enter Try.func11, Try.ntmps11
  go_wp2
  iterate 3 (go_ret; exact ⟨⟨_, rfl⟩, rfl⟩)
  refine wp_loop_rounds 1 ?_
  rw [rounds_succ]
  go_wp2
  all_goals (go_ret; exact ⟨⟨_, rfl⟩, rfl⟩)

set_option maxHeartbeats 1000000 in
theorem bytes_some (pm co : ByteArray) (hc : Bool) (b off cap : Nat) (names : List ByteArray) (kd it ph ct : ByteArray) (w : World) (hs : ∀ k, (names.getD k ByteArray.empty).size ≤ 9223372036854775807)
    (hcl : ∀ k, k < names.length → w.cell? ⟨b, off + k, none⟩ = some (.string (names.getD k ByteArray.empty))) :
    Calls Try.prog 11 #[.string pm, .string co, .bool hc, .slice (some ⟨b, off, none⟩) names.length cap, .string kd, .string it, .string ph, .string ct] w fun e w' => RetBool e ∧ w' = w := by
  go_enter Try.func11, Try.ntmps11
  go_wp2
  iterate 5 (go_ret; exact ⟨⟨_, rfl⟩, rfl⟩)
  go_loop [17, 18] (fun t i => ∃ (k : Nat) (n : Int), k ≤ names.length ∧ i = .int .i64 k ∧ t = .int .i64 n ∧ 0 ≤ n ∧ n ≤ 1048576) (fun _ i => names.length - (intOf i).toNat)
  case atStart => exact ⟨0, _, Nat.zero_le _, rfl, rfl, by omega, by omega⟩
  case round =>
    obtain ⟨k, n, hk, rfl, rfl, hn0, hn1⟩ := hrel
    by_cases hlt : k < names.length
    · have hk1 := hcl k hlt
      have hs1 := hs k
      clear hcl hs
      rw [getD_lt _ hlt] at hk1 hs1
      go_wp2
      · go_ret
        exact ⟨⟨_, rfl⟩, rfl⟩
      · go_ret
        exact ⟨⟨_, rfl⟩, rfl⟩
      · go_round
        case rel => exact ⟨k + 1, _, by omega, by go_num, rfl, by omega, by omega⟩
        case measure => simp [intOf]; omega
    · clear hcl hs
      go_wp2
      all_goals (go_ret; exact ⟨⟨_, rfl⟩, rfl⟩)

theorem bytes_any (pm co : ByteArray) (hc : Bool) (a : Option Addr) (cap : Nat) (names : List ByteArray) (kd it ph ct : ByteArray) (w : World) (hs : ∀ k, (names.getD k ByteArray.empty).size ≤ 9223372036854775807) (h : NamesAt w a names) :
    Calls Try.prog 11 #[.string pm, .string co, .bool hc, .slice a names.length cap, .string kd, .string it, .string ph, .string ct] w fun e w' => RetBool e ∧ w' = w := by
  by_cases hp : 0 < names.length
  · obtain ⟨b, off, rfl, _, hcl⟩ := h hp
    exact bytes_some pm co hc b off cap names kd it ph ct w hs hcl
  · obtain rfl : names = [] := List.eq_nil_of_length_eq_zero (by omega)
    exact bytes_none pm co hc a cap kd it ph ct w

theorem Try.info49 : (Try.prog.info? 49).map (fun i => (i.zero, i.size, i.bytes)) = some (some (.agg #[.string ⟨#[]⟩, .string ⟨#[]⟩]), 2, 32) := by kernel_rfl

/-- the cells of the agents -/
def agentCells (names : List ByteArray) : List Value := names.flatMap fun n => [.string n, .string ByteArray.empty]

theorem agentCells_snoc (names : List ByteArray) (k : Nat) (h : k < names.length) : agentCells (names.take k) ++ [.string names[k], .string ByteArray.empty] = agentCells (names.take (k + 1)) := by
  rw [List.take_succ_eq_append_getElem h]
  unfold agentCells
  rw [List.flatMap_append]
  rfl

theorem agentCells_at (names : List ByteArray) : ∀ k (h : k < names.length), (agentCells names)[k * 2]? = some (.string names[k]) ∧ (agentCells names)[k * 2 + 1]? = some (.string ByteArray.empty) := by
  induction names with
  | nil => intro k h; simp at h
  | cons a l ih =>
    intro k h
    match k with
    | 0 => exact ⟨rfl, rfl⟩
    | k + 1 =>
      have h' : k < l.length := by simpa using h
      have := ih k h'
      have e : agentCells (a :: l) = .string a :: .string ByteArray.empty :: agentCells l := rfl
      rw [e, show (k + 1) * 2 = k * 2 + 1 + 1 from by omega]
      simpa using this

theorem team_of {w : World} {tb base : Nat} {v : Value} {names : List ByteArray} (htb : tb < w.heap.size) (h8 : w.cell? ⟨tb, 8, none⟩ = some v) (hown : w.ownsRow base 49 2 v names.length (agentCells names)) : TeamAt w tb names := by
  rcases hown.2 with ⟨rfl, h0⟩ | ⟨g, c, cur, rfl, hg, hh, _⟩
  · exact ⟨htb, none, 0, by rw [h8, h0], fun hp => by omega⟩
  · refine ⟨htb, some ⟨g, 0, none⟩, c, h8, fun hp => ⟨g, rfl, ?_, fun k hk => ?_⟩⟩
    · have := hown.lt g rfl; exact this.2
    · have h1 := hown.cellAt (k * 2) (by omega)
      have h2 := hown.cellAt (k * 2 + 1) (by omega)
      rw [h1, h2, (agentCells_at names k hk).1, (agentCells_at names k hk).2, getD_lt _ hk]
      exact ⟨rfl, rfl⟩

theorem cellSame {w : World} {a : Addr} {u v : Value} (h : w.cell? a = some u) : (w.setCell a v).cell? a = some v := World.cell?_setCell_same _ _ _ h
theorem cellOther {w : World} {a b : Addr} {v : Value} (h : a ≠ b) : (w.setCell a v).cell? b = w.cell? b := World.cell?_setCell_other _ _ _ _ h
theorem cellPast {w : World} {o : Obj} {n i : Nat} (h : n < w.heap.size) : (w.alloc o).cell? ⟨n, i, none⟩ = w.cell? ⟨n, i, none⟩ := World.cell?_alloc_lt w o ⟨n, i, none⟩ h

theorem add_facts {w wr w1 : World} {k : Nat} {xs : List Value} {v : Value} {o : Obj} (hown : wr.ownsRow (w.heap.size + 1) 49 2 v k xs) (hbl : Below w.heap.size w wr) (hsz : w.heap.size < wr.heap.size) (hg : (wr.alloc o).grownBy w1 v.ownBlock) :
    (∀ j, w1.cell? ⟨w.heap.size, j, none⟩ = wr.cell? ⟨w.heap.size, j, none⟩) ∧ (∀ j, w1.frozen? ⟨w.heap.size, j, none⟩ = wr.frozen? ⟨w.heap.size, j, none⟩) ∧ Below w.heap.size w w1 ∧ w.heap.size < w1.heap.size := by
  have hz : w.heap.size < (wr.alloc o).heap.size := by simp; omega
  have hne : some w.heap.size ≠ v.ownBlock := fun e => by
    have := hown.lt _ e.symm
    omega
  have hblk := (hg.block w.heap.size hz hne).trans (Below.heap_alloc wr o _ hsz)
  refine ⟨fun j => World.cell?_of_block (a := ⟨w.heap.size, j, none⟩) hblk, fun j => World.frozen?_of_block (a := ⟨w.heap.size, j, none⟩) hblk, ?_, by have := hg.size; omega⟩
  exact (hbl.alloc (by omega) o).grown hg (by omega) (fun k e => by have := hown.lt k e; omega)

theorem slice_shape {w : World} {base n : Nat} {v : Value} {xs : List Value} (h : w.ownsRow base 49 2 v n xs) (hn : 0 < n) : ∃ g cap, v = .slice (some ⟨g, 0, none⟩) n cap := by
  rcases h.2 with ⟨_, h0⟩ | ⟨g, c, cur, rfl, _⟩
  · omega
  · exact ⟨g, c, rfl⟩

set_option maxHeartbeats 400000 in
theorem newTeam_some (pm co : ByteArray) (hc : Bool) (b off cap : Nat) (names : List ByteArray) (w : World) (hn : names.length ≤ 1048576) (hb : b < w.heap.size)
    (hcl : ∀ k, k < names.length → w.cell? ⟨b, off + k, none⟩ = some (.string (names.getD k ByteArray.empty))) :
    Calls Try.prog 13 #[.string pm, .slice (some ⟨b, off, none⟩) names.length cap, .string co, .bool hc] w fun e w' =>
      e = .returned (.pointer (some ⟨w.heap.size, 0, none⟩)) ∧ TeamAt w' w.heap.size names ∧ Below w.heap.size w w' := by
  obtain ⟨i0, hi, hz0, hz1, hz2⟩ := info_parts Try.info49
  go_enter Try.func13, Try.ntmps13
  go_wp2
  go_loopw [18] (fun i wr => ∃ (k : Nat) (v : Value), k ≤ names.length ∧ i = .int .i64 k ∧ wr.cell? ⟨w.heap.size, 8, none⟩ = some v ∧ wr.frozen? ⟨w.heap.size, 8, none⟩ = false ∧ wr.cell? ⟨w.heap.size, 9, none⟩ = some (.pointer none) ∧ wr.frozen? ⟨w.heap.size, 9, none⟩ = false ∧
      wr.ownsRow (w.heap.size + 1) 49 2 v k (agentCells (names.take k)) ∧ Below w.heap.size w wr ∧ w.heap.size < wr.heap.size) (fun i _ => names.length - (intOf i).toNat)
  case atStart => exact ⟨0, .slice none 0 0, Nat.zero_le _, rfl, by simp, by simp, by simp, by simp, World.ownsRow_nil _ _ _ _, (Below.refl _ _).alloc (Nat.le_refl _) _, by simp⟩
  case round =>
    obtain ⟨k, v, hk, rfl, h8, f8, h9, f9, hown, hbl, hsz⟩ := hrel
    by_cases hlt : k < names.length
    · have hk1 := hbl.cell (p := ⟨b, off + k, none⟩) hb
      rw [hcl k hlt, getD_lt _ hlt] at hk1
      go_wp2_with (at_builtin; refine wpList_append_own _ rfl _ _ 42 rfl (w.heap.size + 1) 49 i0 (.agg #[.string ⟨#[]⟩, .string ⟨#[]⟩]) 2 32 Try.underlying42 hi hz0 hz1 hz2 rfl (by decide) _ _ _ rfl (hown.alloc _) ⟨wr.heap.size, 0, none⟩ 1 1 [.string names[k], .string ByteArray.empty] rfl rfl ?c1 ?c2 ?c3 ?c4 ?c5 ?_)
      case c1 =>
        intro j u hj
        match j, hj with
        | 0, hj => simp at hj; subst hj; simp [Addr.add]
        | 1, hj => simp at hj; subst hj; simp [Addr.add]; rfl
      case c2 => intro u hu; simp at hu; rcases hu with rfl | rfl <;> rfl
      case c3 => unfold maxLen; omega
      case c4 => omega
      case c5 => simp; omega
      intro v' w1 hown' hgrow _
      obtain ⟨ac, af, ab, asz⟩ := add_facts hown hbl hsz hgrow
      rw [agentCells_snoc names k hlt] at hown'
      obtain ⟨g', cap', hv'⟩ := slice_shape hown' (by omega)
      rw [hv']
      subst hv'
      have h8' := (ac 8).trans h8
      have f8' := (af 8).trans f8
      have h9' := (ac 9).trans h9
      have f9' := (af 9).trans f9
      clear ac af h8 f8 h9 f9 hown hbl hsz hgrow hcl
      go_wp2
      go_roundw
      case rel => exact ⟨k + 1, _, by omega, by go_num, cellSame h8', by rw [World.frozen?_setCell]; exact f8', by rw [cellOther (by simp)]; exact h9', by rw [World.frozen?_setCell]; exact f9', ownsRow_setCell_below hown' (by simp) _, ab.setCell (by simp) _, by simpa using asz⟩
      case measure => simp [intOf]; omega
    · obtain rfl : k = names.length := by omega
      rw [List.take_length] at hown
      clear hcl
      go_wp2
      · go_ret
        exact ⟨rfl, team_of (v := v) (by simp; omega) (by rw [cellPast (by simp; omega), cellOther (by simp)]; exact h8) ((ownsRow_setCell_below hown (by simp) _).alloc _), (hbl.setCell (by simp) _).alloc (by simp; omega) _⟩
      · go_ret
        exact ⟨rfl, team_of hsz h8 hown, hbl⟩

set_option maxHeartbeats 400000 in
theorem newTeam_none (pm co : ByteArray) (hc : Bool) (a : Option Addr) (cap : Nat) (w : World) :
    Calls Try.prog 13 #[.string pm, .slice a 0 cap, .string co, .bool hc] w fun e w' =>
      e = .returned (.pointer (some ⟨w.heap.size, 0, none⟩)) ∧ TeamAt w' w.heap.size [] ∧ Below w.heap.size w w' := by
  go_enter Try.func13, Try.ntmps13
  go_wp2
  refine wp_loop_rounds 1 ?_
  rw [rounds_succ]
  go_wp2
  · go_ret
    exact ⟨rfl, ⟨by simp; omega, none, 0, by simp, fun h => by simp at h⟩, ((Below.refl _ _).alloc (Nat.le_refl _) _).alloc (by simp) _⟩
  · go_ret
    exact ⟨rfl, ⟨by simp, none, 0, by simp, fun h => by simp at h⟩, (Below.refl _ _).alloc (Nat.le_refl _) _⟩

theorem newTeam_any (pm co : ByteArray) (hc : Bool) (a : Option Addr) (cap : Nat) (names : List ByteArray) (w : World) (hn : names.length ≤ 1048576) (h : NamesAt w a names) :
    Calls Try.prog 13 #[.string pm, .slice a names.length cap, .string co, .bool hc] w fun e w' =>
      e = .returned (.pointer (some ⟨w.heap.size, 0, none⟩)) ∧ TeamAt w' w.heap.size names ∧ Below w.heap.size w w' := by
  by_cases hp : 0 < names.length
  · obtain ⟨b, off, rfl, hb, hcl⟩ := h hp
    exact newTeam_some pm co hc b off cap names w hn hb hcl
  · obtain rfl : names = [] := List.eq_nil_of_length_eq_zero (by omega)
    exact newTeam_none pm co hc a cap w

end Go.Proofs.Qxb6605976a.turns
