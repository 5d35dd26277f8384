import Derived.Test.Qxb6608521aRows
import Derived.Test.Qxb6608521aPlain
import Derived.WalkKit
import Derived.WalkSpells
import Derived.WalkLawsBesides
namespace Go.Proofs.Qxb6608521a.sql
open Go.RowKit Go.PlainAid

theorem info3 : (Try.prog.info? 3).map (fun i => (i.zero, i.size, i.bytes)) = some (some (.int .i64 0), 1, 8) := by kernel_rfl

theorem acc_len {acc a : List Int} {s : ByteArray} (h : acc ++ a = ph s) : acc.length ≤ s.size + 1 := by
  have h1 := congrArg List.length h
  have h2 : (ph s).length ≤ s.data.toList.length + 1 := sm_length _ _
  have h3 : s.data.toList.length = s.size := rfl
  simp at h1
  omega

theorem one_new (w : World) (z : Int) : ∀ (j : Nat) (u : Value), [Value.int .i64 z][j]? = some u → (w.alloc (.cells #[.int .i64 z] 3)).cell? ((⟨w.heap.size, 0, none⟩ : Addr).add j) = some u := by
  intro j u hj
  match j, hj with
  | 0, hj => simp at hj; subst hj; simp [Addr.add]
theorem one_one (z : Int) : ∀ u ∈ [Value.int .i64 z], u.oneCell' = true := by
  intro u hu; simp at hu; subst hu; rfl

set_option maxRecDepth 100000 in
set_option maxHeartbeats 1000000 in
theorem placeholders_any (s : ByteArray) (hs : s.size ≤ 4194304) (w : World) :
    Calls Try.prog 13 #[.string s] w fun e w' => ∃ v, e = .returned v ∧ w'.ownsRow w.heap.size 3 1 v (ph s).length ((ph s).map (Value.int .i64)) ∧ Below w.heap.size w w' := by
  obtain ⟨i0, hi, hz0, hz1, hz2⟩ := info_parts info3
  have hb := get_bt s
  go_enter Try.func13, Try.ntmps13
  go_wp2
  go_loopw [3, 4] (fun v i wr => ∃ (k : Nat) (acc : List Int), k ≤ s.size ∧ i = .int .i64 k ∧ wr.ownsRow w.heap.size 3 1 v acc.length (acc.map (Value.int .i64)) ∧ Hid (acc ++ sm none (s.data.toList.drop k) = ph s) ∧ Below w.heap.size w wr) (fun _ i _ => s.size - (intOf i).toNat)
  case atStart => exact ⟨0, [], Nat.zero_le _, rfl, World.ownsRow_nil _ _ _ _, rfl, Below.refl _ _⟩
  case round =>
    rename_i v _
    obtain ⟨k, acc, hk, rfl, hown, Hacc, hbl⟩ := hrel
    by_cases hlt : k < s.size
    · by_cases hyes : bt s k = 36 ∧ k + 1 < s.size ∧ 48 ≤ bt s (k + 1) ∧ bt s (k + 1) ≤ 57
      · obtain ⟨y1, y2, y3, y4⟩ := hyes
        have Hacc2 : Hid (acc ++ sm (some 0) (s.data.toList.drop (k + 1)) = ph s) := by show _ = _; rw [← step_yes s k y2 y1 y3 y4]; exact Hacc.out
        clear Hacc
        have hal := acc_len Hacc2.out
        go_wp2
        go_loop [5, 6] (fun x j => ∃ (q : Nat) (z : Int), k + 1 ≤ q ∧ q ≤ s.size ∧ j = .int .i64 q ∧ x = .int .i64 z ∧ 0 ≤ z ∧ z ≤ 1000000000 ∧ Hid (acc ++ sm (some z) (s.data.toList.drop q) = ph s)) (fun _ j => s.size - (intOf j).toNat)
        case atStart => exact ⟨k + 1, 0, Nat.le_refl _, by omega, by go_num, rfl, by omega, by omega, Hacc2⟩
        case round =>
          clear Hacc2
          obtain ⟨q, z, hq1, hq2, rfl, rfl, hz0', hz1', Hz⟩ := hrel
          by_cases hc : q < s.size ∧ 48 ≤ bt s q ∧ bt s q ≤ 57
          · obtain ⟨c1, c2, c3⟩ := hc
            have Hz2 : Hid (acc ++ sm (some (stepV z (bt s q))) (s.data.toList.drop (q + 1)) = ph s) := by show _ = _; rw [← step_dig s q z c1 c2 c3]; exact Hz.out
            clear Hz
            by_cases hz9 : z < 100000000
            · have e9 : stepV z (bt s q) = z * 10 + (bt s q - 48) := if_pos hz9
              rw [e9] at Hz2
              clear e9
              go_wp2
              go_round
              case rel => exact ⟨q + 1, _, by omega, by omega, by go_num, rfl, by omega, by omega, Hz2⟩
              case measure => simp [intOf]; omega
            · have e9 : stepV z (bt s q) = z := if_neg hz9
              rw [e9] at Hz2
              clear e9
              go_wp2
              go_round
              case rel => exact ⟨q + 1, _, by omega, by omega, by go_num, rfl, by omega, by omega, Hz2⟩
              case measure => simp [intOf]; omega
          · have Hz2 : Hid ((acc ++ [z]) ++ sm none (s.data.toList.drop q) = ph s) := by
              show _ = _
              rw [List.append_assoc]
              have := Hz.out
              rw [step_end s q z hc] at this
              exact this
            clear Hz
            have hc3 : ¬ q < s.size ∨ (q < s.size ∧ ¬ 48 ≤ bt s q) ∨ (q < s.size ∧ 48 ≤ bt s q ∧ ¬ bt s q ≤ 57) := by omega
            clear hc
            rcases hc3 with hc | ⟨hc, hc2⟩ | ⟨hc, hc2, hc3⟩
            all_goals
              go_wp2_with (at_builtin; refine wpList_append_own _ rfl _ _ 25 rfl w.heap.size 3 i0 (.int .i64 0) 1 8 Try.underlying25 hi hz0 hz1 hz2 rfl (by decide) _ _ _ rfl (hown.alloc _) ⟨wr.heap.size, 0, none⟩ 1 1 [.int .i64 z] rfl rfl (one_new _ _) (one_one _) (by unfold maxLen; omega) (by omega) (by have := hbl.size; simp; omega) ?_)
              intro v' w1 hown' hgrow _
              have hbl' := (hbl.alloc hbl.size _).grown hgrow (by have := hbl.size; simp; omega) (fun b e => (hown.lt b e).1)
              clear hown hgrow hbl
              go_wp2
              go_roundw
              case rel => exact ⟨q, acc ++ [z], by omega, rfl, by simpa using hown', Hz2, hbl'⟩
              case measure => simp [intOf]; omega
      · have Hno : Hid (¬ (bt s k = 36 ∧ k + 1 < s.size ∧ 48 ≤ bt s (k + 1) ∧ bt s (k + 1) ≤ 57)) := hyes
        have Hacc2 : Hid (acc ++ sm none (s.data.toList.drop (k + 1)) = ph s) := by show _ = _; rw [← step_no s k hlt hyes]; exact Hacc.out
        clear hyes Hacc
        go_wp2
        · exact absurd ⟨by assumption, by omega, by assumption, by assumption⟩ Hno.out
        all_goals
          go_roundw
          case rel => exact ⟨k + 1, acc, by omega, by go_num, hown, Hacc2, hbl⟩
          case measure => simp [intOf]; omega
    · have he : acc = ph s := by
        have := Hacc.out
        rw [drop_end s k (by omega)] at this
        simpa [sm] using this
      subst he
      go_wp2
      go_ret
      exact ⟨_, rfl, hown, hbl⟩
end Go.Proofs.Qxb6608521a.sql
