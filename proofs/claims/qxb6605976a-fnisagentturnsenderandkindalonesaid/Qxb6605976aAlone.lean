import Derived.Test.Qxb6605976aRole
namespace Go.Proofs.Qxb6605976a.turns
open Go.RowKit

set_option maxHeartbeats 1000000 in
theorem bytes9_none (pm co : ByteArray) (hc : Bool) (a : Option Addr) (cap : Nat) (fr kd it ph ct : ByteArray) (w : World) :
    Calls Try.prog 16 #[.string pm, .string co, .bool hc, .slice a 0 cap, .string fr, .string kd, .string it, .string ph, .string ct] w fun e w' => RetBool e ∧ w' = w := by
  go_enter Try.func16, Try.ntmps16
  go_wp2
  iterate 3 (go_ret; exact ⟨⟨_, rfl⟩, rfl⟩)
  refine wp_loop_rounds 1 ?_
  rw [rounds_succ]
  go_wp2
  all_goals (go_ret; exact ⟨⟨_, rfl⟩, rfl⟩)

set_option maxHeartbeats 1000000 in
theorem bytes9_some (pm co : ByteArray) (hc : Bool) (b off cap : Nat) (names : List ByteArray) (fr kd it ph ct : ByteArray) (w : World) (hs : ∀ k, (names.getD k ByteArray.empty).size ≤ 9223372036854775807)
    (hcl : ∀ k, k < names.length → w.cell? ⟨b, off + k, none⟩ = some (.string (names.getD k ByteArray.empty))) :
    Calls Try.prog 16 #[.string pm, .string co, .bool hc, .slice (some ⟨b, off, none⟩) names.length cap, .string fr, .string kd, .string it, .string ph, .string ct] w fun e w' => RetBool e ∧ w' = w := by
  go_enter Try.func16, Try.ntmps16
  go_wp2
  iterate 5 (go_ret; exact ⟨⟨_, rfl⟩, rfl⟩)
  go_loop [19, 20] (fun t i => ∃ (k : Nat) (n : Int), k ≤ names.length ∧ i = .int .i64 k ∧ t = .int .i64 n ∧ 0 ≤ n ∧ n ≤ 1048576) (fun _ i => names.length - (intOf i).toNat)
  case atStart => exact ⟨0, _, Nat.zero_le _, rfl, rfl, by omega, by omega⟩
  case round =>
    obtain ⟨k, n, hk, rfl, rfl, hn0, hn1⟩ := hrel
    by_cases hlt : k < names.length
    · have hk1 := hcl k hlt
      have hs1 := hs k
      clear hcl hs
      rw [getD_lt _ hlt] at hk1 hs1
      go_wp2
      · go_ret
        exact ⟨⟨_, rfl⟩, rfl⟩
      · go_ret
        exact ⟨⟨_, rfl⟩, rfl⟩
      · go_round
        case rel => exact ⟨k + 1, _, by omega, by go_num, rfl, by omega, by omega⟩
        case measure => simp [intOf]; omega
    · clear hcl hs
      go_wp2
      all_goals (go_ret; exact ⟨⟨_, rfl⟩, rfl⟩)

theorem bytes9_any (pm co : ByteArray) (hc : Bool) (a : Option Addr) (cap : Nat) (names : List ByteArray) (fr kd it ph ct : ByteArray) (w : World) (hs : ∀ k, (names.getD k ByteArray.empty).size ≤ 9223372036854775807) (h : NamesAt w a names) :
    Calls Try.prog 16 #[.string pm, .string co, .bool hc, .slice a names.length cap, .string fr, .string kd, .string it, .string ph, .string ct] w fun e w' => RetBool e ∧ w' = w := by
  by_cases hp : 0 < names.length
  · obtain ⟨b, off, rfl, _, hcl⟩ := h hp
    exact bytes9_some pm co hc b off cap names fr kd it ph ct w hs hcl
  · obtain rfl : names = [] := List.eq_nil_of_length_eq_zero (by omega)
    exact bytes9_none pm co hc a cap fr kd it ph ct w


theorem snoc_names {w : World} {g n : Nat} {names : List ByteArray} {x : ByteArray} {xs : List Value} {base : Nat} (hl : names.length = n)
    (hown : w.ownsRow base 9 1 (.slice (some ⟨g, 0, none⟩) (n + 1) (n + 1)) (n + 1) xs) (hx : ∀ j, j < n → xs[j]? = some (.string (names.getD j ByteArray.empty))) (hl1 : xs[n]? = some (.string x)) : NamesAt w (some ⟨g, 0, none⟩) (names ++ [x]) := by
  intro _
  refine ⟨g, 0, rfl, (hown.lt g rfl).2, fun k hk => ?_⟩
  simp only [List.length_append, List.length_cons, List.length_nil] at hk
  rw [Nat.zero_add, hown.cellAt k (by omega)]
  by_cases e : k < n
  · rw [hx k e, getD_lt _ (by omega), getD_lt _ (by simp; omega), List.getElem_append_left (by omega)]
  · obtain rfl : k = n := by omega
    rw [hl1, getD_lt _ (by simp; omega), List.getElem_append_right (by omega)]
    simp [hl]

set_option maxHeartbeats 1000000 in
theorem appendOne_any (a : Option Addr) (cap : Nat) (names : List ByteArray) (x : ByteArray) (w : World) (hn : names.length ≤ 1048576) (hN : NamesAt w a names) :
    Calls Try.prog 17 #[.slice a names.length cap, .string x] w fun e w' => e = .returned (.slice (some ⟨w.heap.size, 0, none⟩) (names.length + 1) (names.length + 1)) ∧ NamesAt w' (some ⟨w.heap.size, 0, none⟩) (names ++ [x]) ∧ Below w.heap.size w w' := by
  obtain ⟨i0, hi, hz0, hz1, hz2⟩ := info_parts Try.info9
  go_enter Try.func17, Try.ntmps17
  go_wp2_with (at_make; refine wpList_make_full _ rfl _ _ 24 rfl w.heap.size 9 i0 (.string ⟨#[]⟩) 1 Try.underlying24 hi hz0 hz1 .i64 .i64 _ _ (names.length + 1) rfl rfl rfl rfl ?m1 ?m2 ?m3 ?_)
  case m1 => rw [hz2]; omega
  case m2 => unfold maxLen; omega
  case m3 => omega
  intro w3 hown3 hgrow3
  have hb3 : Below w.heap.size w w3 := (Below.refl _ _).grown hgrow3 (Nat.le_refl _) (fun k e => by cases e)
  clear hgrow3 hi hz0 hz1 hz2
  go_wp2_with fail
  go_loopw [6] (fun i wr => ∃ (k : Nat) (xs : List Value), k ≤ names.length ∧ i = .int .i64 k ∧ wr.ownsRow w.heap.size 9 1 (.slice (some ⟨w.heap.size, 0, none⟩) (names.length + 1) (names.length + 1)) (names.length + 1) xs ∧ (∀ j, j < k → xs[j]? = some (.string (names.getD j ByteArray.empty))) ∧ Below w.heap.size w wr) (fun i _ => names.length - (intOf i).toNat)
  case atStart => exact ⟨0, _, Nat.zero_le _, rfl, hown3, fun j hj => by omega, hb3⟩
  case round =>
    clear hown3 hb3
    obtain ⟨k, xs, hk, rfl, hown, hx, hb⟩ := hrel
    have hxl : xs.length = names.length + 1 := by simpa using hown.1
    by_cases hlt : k < names.length
    · obtain ⟨b, off, rfl, hlb, hcl⟩ := hN (by omega)
      have hk1 := hb.cell (p := ⟨b, off + k, none⟩) hlb
      rw [hcl k hlt, getD_lt _ hlt] at hk1
      have hck := hown.cellAt k (by omega)
      rw [List.getElem?_eq_getElem (by omega)] at hck
      have hfk := hown.frozenAt k
      have hst := (hown.stored k (.string names[k])).1
      have Hx : Hid (∀ j, j < k → xs[j]? = some (.string (names.getD j ByteArray.empty))) := hx
      clear hcl hx hN
      go_wp2_with fail
      go_roundw
      case rel => exact ⟨k + 1, _, by omega, by go_num, hst, fun j hj => by
        by_cases e : j = k
        · subst e; rw [List.getElem?_set_self (by omega), getD_lt _ hlt]
        · rw [List.getElem?_set_ne (by omega)]; exact Hx.out j (by omega), hb.setCell (by simp) _⟩
      case measure => simp [intOf]; omega
    · obtain rfl : k = names.length := by omega
      have hck := hown.cellAt names.length (by omega)
      rw [List.getElem?_eq_getElem (by omega)] at hck
      have hfk := hown.frozenAt names.length
      have hst := (hown.stored names.length (.string x)).1
      have hfin := snoc_names rfl hst (x := x) (fun j hj => by rw [List.getElem?_set_ne (by omega)]; exact hx j hj) (by rw [List.getElem?_set_self (by omega)])
      clear hN hx hst
      go_wp2_with fail
      go_ret
      exact ⟨rfl, hfin, hb.setCell (by simp) _⟩

end Go.Proofs.Qxb6605976a.turns
