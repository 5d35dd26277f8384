import Derived.Test.Qxb6605976aRows
import Derived.WalkKit
import Derived.WalkSpells
import Derived.WalkLawsBesides
namespace Go.Proofs.Qxb6605976a.turns
open Go.RowKit

/-- is the name among the names? (the strings' bytes are compared) -/
def inTeam (names : List ByteArray) (nm : ByteArray) : Bool := names.any fun x => x.toList == nm.toList

/-- a team in memory: the slice of its agents lies in cell 8 of block tb -/
def TeamAt (w : World) (tb : Nat) (names : List ByteArray) : Prop :=
  tb < w.heap.size ∧ ∃ (a : Option Addr) (cap : Nat), w.cell? ⟨tb, 8, none⟩ = some (.slice a names.length cap) ∧
    (0 < names.length → ∃ g, a = some ⟨g, 0, none⟩ ∧ g < w.heap.size ∧
      ∀ k, k < names.length → w.cell? ⟨g, k * 2, none⟩ = some (.string (names.getD k ByteArray.empty)) ∧ w.cell? ⟨g, k * 2 + 1, none⟩ = some (.string ByteArray.empty))

theorem TeamAt.below {w w' : World} {tb : Nat} {names : List ByteArray} (h : TeamAt w tb names) {B : Nat} (hB : w.heap.size ≤ B) (hb : Below B w w') : TeamAt w' tb names := by
  obtain ⟨h1, a, cap, h2, h3⟩ := h
  refine ⟨by have := hb.size; omega, a, cap, ?_, fun hp => ?_⟩
  · rw [hb.cell (p := ⟨tb, 8, none⟩) (by show tb < B; omega)]; exact h2
  · obtain ⟨g, rfl, hg, hc⟩ := h3 hp
    refine ⟨g, rfl, by have := hb.size; omega, fun k hk => ?_⟩
    rw [hb.cell (p := ⟨g, k * 2, none⟩) (by show g < B; omega), hb.cell (p := ⟨g, k * 2 + 1, none⟩) (by show g < B; omega)]
    exact hc k hk

theorem inTeam_yes {names : List ByteArray} {nm : ByteArray} {k : Nat} (hk : k < names.length) (h : (names[k].toList == nm.toList) = true) : inTeam names nm = true := by
  unfold inTeam; rw [List.any_eq_true]; exact ⟨names[k], List.getElem_mem hk, h⟩
theorem inTeam_no {names : List ByteArray} {nm : ByteArray} (h : ∀ j (hj : j < names.length), (names[j].toList == nm.toList) = false) : inTeam names nm = false := by
  unfold inTeam
  rw [List.any_eq_false]
  intro x hx
  obtain ⟨j, hj, rfl⟩ := List.getElem_of_mem hx
  simp [h j hj]

theorem ret_bool {a b : Bool} (h : a = b) : Ending.returned (.bool a) = .returned (.bool b) := by rw [h]

set_option maxHeartbeats 400000 in
theorem isAgent_none (tb : Nat) (nm : ByteArray) (w : World) (a : Option Addr) (cap : Nat)
   (h8 : w.cell? ⟨tb, 8, none⟩ = some (.slice a 0 cap)) :
    Calls Try.prog 22 #[.pointer (some ⟨tb, 0, none⟩), .string nm] w fun e w' => e = .returned (.bool false) ∧ Below w.heap.size w w' := by
  go_enter Try.func22, Try.ntmps22
  go_wp2
  refine wp_loop_rounds 1 ?_
  rw [rounds_succ]
  go_wp2
  go_ret
  exact ⟨rfl, Below.refl _ _⟩

set_option maxHeartbeats 400000 in
theorem isAgent_some (tb : Nat) (names : List ByteArray) (nm : ByteArray) (w : World) (hn : names.length ≤ 1048576) (g cap : Nat)
   (h8 : w.cell? ⟨tb, 8, none⟩ = some (.slice (some ⟨g, 0, none⟩) names.length cap)) (hg : g < w.heap.size)
   (hc : ∀ k, k < names.length → w.cell? ⟨g, k * 2, none⟩ = some (.string (names.getD k ByteArray.empty)) ∧ w.cell? ⟨g, k * 2 + 1, none⟩ = some (.string ByteArray.empty)) :
    Calls Try.prog 22 #[.pointer (some ⟨tb, 0, none⟩), .string nm] w fun e w' => e = .returned (.bool (inTeam names nm)) ∧ Below w.heap.size w w' := by
  go_enter Try.func22, Try.ntmps22
  go_wp2
  go_loopw [12] (fun i wr => ∃ k : Nat, k ≤ names.length ∧ i = .int .i64 k ∧ (∀ j (hj : j < names.length), j < k → (names[j].toList == nm.toList) = false) ∧ Below w.heap.size w wr) (fun i _ => names.length - (intOf i).toNat)
  case atStart => exact ⟨0, Nat.zero_le _, rfl, by intro j _ hj; omega, Below.refl _ _⟩
  case round =>
    obtain ⟨k, hk, rfl, hno, hb⟩ := hrel
    by_cases hlt : k < names.length
    · have hk1 := hb.cell (p := ⟨g, k * 2, none⟩) hg
      have hk2 := hb.cell (p := ⟨g, k * 2 + 1, none⟩) hg
      rw [(hc k hlt).1] at hk1
      rw [(hc k hlt).2] at hk2
      have hsz := hb.size
      have hno' : Hid (∀ j (hj : j < names.length), j < k → (names[j].toList == nm.toList) = false) := hno
      clear hno
      go_wp2
      · go_ret
        exact ⟨ret_bool (inTeam_yes hlt (by assumption)).symm, hb.alloc hsz _⟩
      · go_roundw
        case rel => exact ⟨k + 1, by omega, by go_num, by
          intro j hj hjk
          by_cases e : j = k
          · subst e; assumption
          · exact hno'.out j hj (by omega), hb.alloc hsz _⟩
        case measure => simp [intOf]; omega
    · have hr := inTeam_no (nm := nm) (fun j hj => hno j hj (by omega))
      clear hno
      have hr' : Hid (inTeam names nm = false) := hr
      clear hr
      go_wp2
      go_ret
      exact ⟨ret_bool hr'.out.symm, hb⟩

theorem isAgent_any (tb : Nat) (names : List ByteArray) (nm : ByteArray) (w : World) (hn : names.length ≤ 1048576) (ht : TeamAt w tb names) :
    Calls Try.prog 22 #[.pointer (some ⟨tb, 0, none⟩), .string nm] w fun e w' => e = .returned (.bool (inTeam names nm)) ∧ Below w.heap.size w w' := by
  obtain ⟨h1, a, cap, h2, h3⟩ := ht
  by_cases hp : 0 < names.length
  · obtain ⟨g, rfl, hg, hc⟩ := h3 hp
    exact isAgent_some tb names nm w hn g cap h2 hg hc
  · obtain rfl : names = [] := List.eq_nil_of_length_eq_zero (by omega)
    exact isAgent_none tb nm w a cap h2

/-- a message, by value -/
def msg (fr kd it ph ct : ByteArray) : Value := .agg #[.string fr, .string kd, .string it, .string ph, .string ct, .pointer none]

def passB (kd : ByteArray) : Bool := kd.toList == [112, 97, 115, 115]

theorem turn_yes {names : List ByteArray} {fr kd : ByteArray} (h : inTeam names fr = true) : true = (inTeam names fr || passB kd) := by simp [h]
theorem turn_no {names : List ByteArray} {fr kd : ByteArray} (h : ¬ inTeam names fr = true) : (kd.toList == [112, 97, 115, 115]) = (inTeam names fr || passB kd) := by
  simp only [Bool.not_eq_true] at h
  rw [h]; rfl

set_option maxHeartbeats 400000 in
theorem isAgentTurn_any (tb : Nat) (names : List ByteArray) (fr kd it ph ct : ByteArray) (w : World) (hn : names.length ≤ 1048576) (ht : TeamAt w tb names) :
    Calls Try.prog 19 #[.pointer (some ⟨tb, 0, none⟩), .agg #[.string fr, .string kd, .string it, .string ph, .string ct, .pointer none]] w fun e w' => e = .returned (.bool (inTeam names fr || passB kd)) ∧ Below w.heap.size w w' := by
  have hb0 : Below w.heap.size w (w.alloc (.cells #[.string fr, .string kd, .string it, .string ph, .string ct, .pointer none] 31)) := (Below.refl _ _).alloc (Nat.le_refl _) _
  have ht' := ht.below (Nat.le_refl _) hb0
  go_enter Try.func19, Try.ntmps19
  go_wp2_with fail
  refine (isAgent_any tb names fr _ hn ht').mono ?_
  rintro e w1 ⟨rfl, hb⟩
  have c1 := hb.cell (p := ⟨w.heap.size, 1, none⟩) (by simp)
  go_wp2_with fail
  · go_ret
    exact ⟨ret_bool (turn_yes (by assumption)), hb0.trans (hb.mono (by simp))⟩
  · go_ret
    exact ⟨ret_bool (turn_no (by assumption)), hb0.trans (hb.mono (by simp))⟩

set_option maxHeartbeats 400000 in
theorem turn_any (tb : Nat) (names : List ByteArray) (fr kd it ph ct : ByteArray) (w : World) (hn : names.length ≤ 1048576) (ht : TeamAt w tb names) :
    Calls Try.prog 14 #[.pointer (some ⟨tb, 0, none⟩), .agg #[.string fr, .string kd, .string it, .string ph, .string ct, .pointer none]] w fun e w' => e = .returned (.bool (inTeam names fr || passB kd)) ∧ Below w.heap.size w w' := by
  have hb0 : Below w.heap.size w (w.alloc (.cells #[.string fr, .string kd, .string it, .string ph, .string ct, .pointer none] 31)) := (Below.refl _ _).alloc (Nat.le_refl _) _
  have ht' := ht.below (Nat.le_refl _) hb0
  go_enter Try.func14, Try.ntmps14
  go_wp2_with fail
  refine (isAgentTurn_any tb names fr kd it ph ct _ hn ht').mono ?_
  rintro e w1 ⟨rfl, hb⟩
  go_wp2_with fail
  go_ret
  exact ⟨rfl, hb0.trans (hb.mono (by simp))⟩

set_option maxHeartbeats 400000 in
theorem note_any (fr kd it ph ct kd' ct' : ByteArray) (w : World) :
    Calls Try.prog 15 #[.agg #[.string fr, .string kd, .string it, .string ph, .string ct, .pointer none], .string kd', .string ct'] w fun e w' =>
      e = .returned (.agg #[.string ⟨#[115, 121, 115, 116, 101, 109]⟩, .string kd', .string it, .string ph, .string ct', .pointer none]) ∧ Below w.heap.size w w' := by
  go_enter Try.func15, Try.ntmps15
  go_wp2
  exact bodyPost_ret (v := .agg #[.string ⟨#[115, 121, 115, 116, 101, 109]⟩, .string kd', .string it, .string ph, .string ct', .pointer none]) (by simp [results, Try.results15, go_sem]) rfl ⟨rfl, ((Below.refl _ _).alloc (Nat.le_refl _) _).alloc (by simp) _⟩

theorem getD_lt (l : List ByteArray) {k : Nat} (h : k < l.length) : l.getD k ByteArray.empty = l[k] := by simp [h]

/-- the names lie in memory at the slice's address -/
def NamesAt (w : World) (a : Option Addr) (names : List ByteArray) : Prop :=
  0 < names.length → ∃ b off, a = some ⟨b, off, none⟩ ∧ b < w.heap.size ∧ ∀ k, k < names.length → w.cell? ⟨b, off + k, none⟩ = some (.string (names.getD k ByteArray.empty))

theorem NamesAt.below {w w' : World} {a : Option Addr} {names : List ByteArray} (h : NamesAt w a names) {B : Nat} (hB : w.heap.size ≤ B) (hb : Below B w w') : NamesAt w' a names := by
  intro hp
  obtain ⟨b, off, rfl, hlt, hc⟩ := h hp
  refine ⟨b, off, rfl, by have := hb.size; omega, fun k hk => ?_⟩
  rw [hb.cell (p := ⟨b, off + k, none⟩) (by show b < B; omega)]
  exact hc k hk

set_option maxHeartbeats 400000 in
theorem listBytes_none (a : Option Addr) (cap : Nat) (w : World) :
    Calls Try.prog 12 #[.slice a 0 cap] w fun e w' => (∃ n : Int, e = .returned (.int .i64 n) ∧ 0 ≤ n ∧ n ≤ 3000000) ∧ w' = w := by
  go_enter Try.func12, Try.ntmps12
  go_wp2
  refine wp_loop_rounds 1 ?_
  rw [rounds_succ]
  go_wp2
  go_ret
  exact ⟨⟨_, rfl, by omega, by omega⟩, rfl⟩

set_option maxHeartbeats 400000 in
theorem listBytes_some (b off cap : Nat) (names : List ByteArray) (w : World) (hn : names.length ≤ 1048576) (hs : ∀ k, (names.getD k ByteArray.empty).size ≤ 9223372036854775807)
    (hc : ∀ k, k < names.length → w.cell? ⟨b, off + k, none⟩ = some (.string (names.getD k ByteArray.empty))) :
    Calls Try.prog 12 #[.slice (some ⟨b, off, none⟩) names.length cap] w fun e w' => (∃ n : Int, e = .returned (.int .i64 n) ∧ 0 ≤ n ∧ n ≤ 3000000) ∧ w' = w := by
  go_enter Try.func12, Try.ntmps12
  go_wp2
  go_loop [3, 4] (fun t i => ∃ (k : Nat) (n : Int), k ≤ names.length ∧ i = .int .i64 k ∧ t = .int .i64 n ∧ 0 ≤ n ∧ n ≤ 1048576) (fun _ i => names.length - (intOf i).toNat)
  case atStart => exact ⟨0, 0, Nat.zero_le _, rfl, rfl, by omega, by omega⟩
  case round =>
    obtain ⟨k, n, hk, rfl, rfl, hn0, hn1⟩ := hrel
    by_cases hlt : k < names.length
    · have hk1 := hc k hlt
      have hs1 := hs k
      clear hc hs
      rw [getD_lt _ hlt] at hk1 hs1
      go_wp2
      · go_ret
        exact ⟨⟨_, rfl, by omega, by omega⟩, rfl⟩
      · go_ret
        exact ⟨⟨_, rfl, by omega, by omega⟩, rfl⟩
      · go_round
        case rel => exact ⟨k + 1, _, by omega, by go_num, rfl, by omega, by omega⟩
        case measure => simp [intOf]; omega
    · clear hc hs
      go_wp2
      go_ret
      exact ⟨⟨_, rfl, by omega, by omega⟩, rfl⟩

theorem listBytes_any (a : Option Addr) (cap : Nat) (names : List ByteArray) (w : World) (hn : names.length ≤ 1048576) (hs : ∀ k, (names.getD k ByteArray.empty).size ≤ 9223372036854775807) (h : NamesAt w a names) :
    Calls Try.prog 12 #[.slice a names.length cap] w fun e w' => (∃ n : Int, e = .returned (.int .i64 n) ∧ 0 ≤ n ∧ n ≤ 3000000) ∧ w' = w := by
  by_cases hp : 0 < names.length
  · obtain ⟨b, off, rfl, _, hc⟩ := h hp
    exact listBytes_some b off cap names w hn hs hc
  · obtain rfl : names = [] := List.eq_nil_of_length_eq_zero (by omega)
    exact listBytes_none a cap w

end Go.Proofs.Qxb6605976a.turns
