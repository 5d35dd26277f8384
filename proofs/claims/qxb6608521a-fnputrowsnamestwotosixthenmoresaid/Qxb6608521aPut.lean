import Derived.Test.Qxb6608521aHolders
import Derived.WalkSmall
import Derived.Deep.QuietTactic
import Derived.BigQuiet
namespace Go.Proofs.Qxb6608521a.sql
open Go.RowKit Go.PlainAid

/-- what putRows lays ahead of its argument, and behind it -/
def preB : ByteArray := ⟨#[40, 83, 69, 76, 69, 67, 84, 32, 117, 110, 110, 101, 115, 116, 40, 36, 50, 58, 58, 116, 101, 120, 116, 91, 93, 41, 32, 65, 83, 32, 110, 97, 109, 101, 115, 112, 97, 99, 101, 44, 32, 117, 110, 110, 101, 115, 116, 40, 36, 51, 58, 58, 116, 101, 120, 116, 91, 93, 41, 32, 65, 83, 32, 107, 101, 121, 44, 10, 9, 9, 9, 117, 110, 110, 101, 115, 116, 40, 36, 52, 58, 58, 105, 110, 116, 52, 91, 93, 41, 32, 65, 83, 32, 118, 97, 108, 117, 101, 44, 32, 117, 110, 110, 101, 115, 116, 40, 36, 53, 58, 58, 105, 110, 116, 52, 91, 93, 41, 32, 65, 83, 32, 109, 101, 116, 97, 100, 97, 116, 97, 44, 10, 9, 9, 9, 117, 110, 110, 101, 115, 116, 40, 36, 54, 58, 58, 105, 110, 116, 101, 114, 118, 97, 108, 91, 93, 41, 32, 65, 83, 32, 116, 116, 108]⟩
def postB : ByteArray := ⟨#[41, 32, 65, 83, 32, 119]⟩
def putText (s : ByteArray) : ByteArray := preB ++ s ++ postB

theorem pre_law (l : List UInt8) : sm none (preB.data.toList ++ l) = 2 :: 3 :: 4 :: 5 :: 6 :: sm none l := by kernel_rfl
theorem post_head : headDig postB.data.toList = false := by kernel_rfl
theorem post_law (st : Option Int) : sm st postB.data.toList = sm st [] := by cases st <;> kernel_rfl
theorem ph_put (s : ByteArray) : ph (putText s) = 2 :: 3 :: 4 :: 5 :: 6 :: ph s := by
  have e : (putText s).data.toList = preB.data.toList ++ (s.data.toList ++ postB.data.toList) := by simp [putText, ByteArray.data_append]
  unfold ph
  rw [e, pre_law, sm_post _ post_head post_law]
theorem put_size (s : ByteArray) : (putText s).size ≤ s.size + 200 := by
  have h1 : preB.size = 164 := by kernel_rfl
  have h2 : postB.size = 6 := by kernel_rfl
  unfold putText
  rw [ByteArray.size_append, ByteArray.size_append, h1, h2]
  omega

set_option maxRecDepth 100000 in
set_option maxHeartbeats 1000000 in
theorem putRows_any (s : ByteArray) (hs : s.size ≤ 1048576) (w : World) :
    Calls Try.prog 17 #[.string s] w fun e w' => e = .returned (.string (putText s)) ∧ w' = w := by
  go_enter Try.func17, Try.ntmps17
  go_wp2
  go_ret
  exact ⟨rfl, rfl⟩

set_option maxHeartbeats 400000 in
theorem ZZputRows_any (s : ByteArray) (hs : s.size ≤ 1048576) (w : World) :
    Calls Try.prog 14 #[.string s] w fun e w' => e = .returned (.string (putText s)) ∧ w' = w := by
  go_enter Try.func14, Try.ntmps14
  go_wp2_with fail
  refine (putRows_any s hs _).mono ?_
  rintro e w1 ⟨rfl, rfl⟩
  go_wp2_with fail
  go_ret
  exact ⟨rfl, rfl⟩

/-- it returns some bool -/
def RetBool (e : Ending) : Prop := ∃ r : Bool, e = .returned (.bool r)
set_option maxHeartbeats 400000 in
theorem bytes12_any (s : ByteArray) (w : World) : Calls Try.prog 12 #[.string s] w fun e w' => RetBool e ∧ w' = w := by
  go_enter Try.func12, Try.ntmps12
  go_wp2
  all_goals (go_ret; exact ⟨⟨_, rfl⟩, rfl⟩)

/-- the five first -/
theorem five_at (G : List Int) (k : Nat) (h : k < 5) : ((2 :: 3 :: 4 :: 5 :: 6 :: G : List Int).map (Value.int .i64))[k]? = some (.int .i64 ((k : Int) + 2)) := by
  match k, h with
  | 0, _ => rfl
  | 1, _ => rfl
  | 2, _ => rfl
  | 3, _ => rfl
  | 4, _ => rfl
theorem rest_at (G : List Int) (k : Nat) (h : k < G.length) : ((2 :: 3 :: 4 :: 5 :: 6 :: G : List Int).map (Value.int .i64))[k + 5]? = some (.int .i64 G[k]) := by
  simp [h]

set_option maxRecDepth 100000 in
set_option maxHeartbeats 1000000 in
theorem put_law (s : ByteArray) (w : World) :
    Calls Try.prog 5 #[.string s] w fun e w' => e = .returned (.bool true) ∧ Below w.heap.size w w' := by
  go_enter Try.func5, Try.ntmps5
  go_wp2_with fail
  refine (bytes12_any s _).mono ?_
  rintro e w0 ⟨⟨r, rfl⟩, rfl⟩
  cases r
  · go_wp2_with fail
    go_ret
    exact ⟨rfl, Below.refl _ _⟩
  by_cases hs : s.size ≤ 1048576
  · go_wp2_with fail
    refine (ZZputRows_any s hs _).mono ?_
    rintro e w1 ⟨rfl, rfl⟩
    go_wp2_with fail
    refine (placeholders_any (putText s) (by have := put_size s; omega) _).mono ?_
    rintro e w2 ⟨v1, rfl, hown1, hb2⟩
    rw [ph_put] at hown1
    have hlen : (ph s).length ≤ s.size + 1 := by have := sm_length s.data.toList none; exact this
    go_wp2_with fail
    refine (placeholders_any s (by omega) _).mono ?_
    rintro e w3 ⟨v2, rfl, hown2, hb3⟩
    have hb30 := hb2.trans (hb3.mono hb2.size)
    generalize ph s = G at hown1 hown2 hlen
    obtain ⟨g1, cap1, hv1⟩ : ∃ g cap, v1 = .slice (some ⟨g, 0, none⟩) (G.length + 5) cap := by
      rcases hown1.2 with ⟨_, h0⟩ | ⟨g, c, cur, hv, _⟩
      · simp at h0
      · exact ⟨g, c, by simpa using hv⟩
    subst hv1
    have hg1 := hown1.lt g1 rfl
    have C1 : Hid (∀ j, j < G.length + 5 → w3.cell? ⟨g1, j, none⟩ = ((2 :: 3 :: 4 :: 5 :: 6 :: G : List Int).map (Value.int .i64))[j]?) := by
      intro j hj
      rw [hb3.cell (p := ⟨g1, j, none⟩) hg1.2]
      exact hown1.cellAt j (by simp; omega)
    clear hown1 hg1 hb2
    rcases hown2.2 with ⟨hv2, h0⟩ | ⟨g2, cap2, cur, hv2, _⟩
    · subst hv2
      clear hown2 hb3
      go_wp2_with fail
      go_loop [5] (fun i => ∃ k : Nat, k ≤ 5 ∧ i = .int .i64 k) (fun i => 5 - (intOf i).toNat)
      case atStart => exact ⟨0, by omega, rfl⟩
      case round =>
        obtain ⟨k, hk, rfl⟩ := hrel
        by_cases hk5 : k < 5
        · have c1 := (C1.out k (by omega)).trans (five_at G k hk5)
          go_wp2_with fail
          go_round
          case rel => exact ⟨k + 1, by omega, by go_num⟩
          case measure => simp [intOf]; omega
        · go_wp2_with fail
          go_loopw [6] (fun i wr => ∃ (k m : Nat), k ≤ G.length ∧ i = .int .i64 k ∧ wr = w3.drewN m) (fun i _ => G.length - (intOf i).toNat)
          case atStart => exact ⟨0, 0, by omega, rfl, rfl⟩
          case round =>
            obtain ⟨j, m, hj, rfl, rfl⟩ := hrel
            by_cases hjl : j < G.length
            · omega
            · go_wp2_with fail
              go_ret
              exact ⟨rfl, below_drewN hb30 m⟩
    · subst hv2
      have C2 : Hid (∀ j (hj : j < G.length), w3.cell? ⟨g2, j, none⟩ = some (.int .i64 G[j])) := by
        intro j hj
        rw [hown2.cellAt j (by omega)]
        simp [hj]
      clear hown2 hb3
      go_wp2_with fail
      go_loop [5] (fun i => ∃ k : Nat, k ≤ 5 ∧ i = .int .i64 k) (fun i => 5 - (intOf i).toNat)
      case atStart => exact ⟨0, by omega, rfl⟩
      case round =>
        obtain ⟨k, hk, rfl⟩ := hrel
        by_cases hk5 : k < 5
        · have c1 := (C1.out k (by omega)).trans (five_at G k hk5)
          go_wp2_with fail
          go_round
          case rel => exact ⟨k + 1, by omega, by go_num⟩
          case measure => simp [intOf]; omega
        · go_wp2_with fail
          go_loopw [6] (fun i wr => ∃ (k m : Nat), k ≤ G.length ∧ i = .int .i64 k ∧ wr = w3.drewN m) (fun i _ => G.length - (intOf i).toNat)
          case atStart => exact ⟨0, 0, by omega, rfl, rfl⟩
          case round =>
            obtain ⟨j, m, hj, rfl, rfl⟩ := hrel
            by_cases hjl : j < G.length
            · have c1 := (C1.out (j + 5) (by omega)).trans (rest_at G j hjl)
              have c2 := C2.out j hjl
              have i1 : ((j : Int) + 5) < ((G.length : Int) + 5) := by omega
              have i2 : (j : Int) < (G.length : Int) := by omega
              go_wp2_with fail
              go_quiet (fail)
              go_wp2_with fail
              go_roundw
              case rel => exact ⟨j + 1, _, by omega, by go_num, rfl⟩
              case measure => simp [intOf]; omega
            · go_wp2_with fail
              go_ret
              exact ⟨rfl, below_drewN hb30 m⟩
  · go_wp2_with fail
    go_ret
    exact ⟨rfl, Below.refl _ _⟩
end Go.Proofs.Qxb6608521a.sql
