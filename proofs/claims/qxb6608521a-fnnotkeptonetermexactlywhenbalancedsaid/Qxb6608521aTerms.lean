import Derived.Test.Qxb6608521aRows
import Derived.Test.Qxb6608521aPlain
import Derived.WalkKit
import Derived.WalkSpells
import Derived.WalkLawsBesides
namespace Go.Proofs.Qxb6608521a.sql
open Go.RowKit Go.PlainAid

theorem ret_bool {a b : Bool} (h : a = b) : Ending.returned (.bool a) = .returned (.bool b) := by rw [h]

theorem nat_bt (s : ByteArray) (k : Nat) (h : k < s.size) {n : Nat} (hb : bt s k = n) : (s.data.toList[k]'h).toNat = n := by
  rw [bt_get s k h] at hb; omega
theorem nat_not (s : ByteArray) (k : Nat) (h : k < s.size) {n : Nat} (hb : ¬ bt s k = n) : ¬ (s.data.toList[k]'h).toNat = n := by
  rw [bt_get s k h] at hb; omega

theorem balL_open {c : UInt8} {r : List UInt8} {d : Nat} (h : c.toNat = 40) : bal d (c :: r) = bal (d + 1) r := if_pos h
theorem balL_close {c : UInt8} {r : List UInt8} {d : Nat} (h : c.toNat = 41) : bal (d + 1) (c :: r) = bal d r := (if_neg (by omega)).trans (if_pos h)
theorem balL_under {c : UInt8} {r : List UInt8} (h : c.toNat = 41) : bal 0 (c :: r) = false := (if_neg (by omega)).trans (if_pos h)
theorem balL_other {c : UInt8} {r : List UInt8} {d : Nat} (h1 : ¬ c.toNat = 40) (h2 : ¬ c.toNat = 41) : bal d (c :: r) = bal d r := (if_neg h1).trans (if_neg h2)
theorem oneL_open {c : UInt8} {r : List UInt8} {d : Nat} {o : Bool} (h : c.toNat = 40) : one d o (c :: r) = one (d + 1) true r := if_pos h
theorem oneL_under {c : UInt8} {r : List UInt8} {o : Bool} (h : c.toNat = 41) : one 0 o (c :: r) = false := (if_neg (by omega)).trans (if_pos h)
theorem oneL_last {c : UInt8} {o : Bool} (h : c.toNat = 41) : one 1 o [c] = o := (if_neg (by omega)).trans (if_pos h)
theorem oneL_early {c x : UInt8} {r : List UInt8} {o : Bool} (h : c.toNat = 41) : one 1 o (c :: x :: r) = false := (if_neg (by omega)).trans (if_pos h)
theorem oneL_close {c : UInt8} {r : List UInt8} {d : Nat} {o : Bool} (h : c.toNat = 41) : one (d + 2) o (c :: r) = one (d + 1) o r := (if_neg (by omega)).trans (if_pos h)
theorem oneL_other {c : UInt8} {r : List UInt8} {d : Nat} {o : Bool} (h1 : ¬ c.toNat = 40) (h2 : ¬ c.toNat = 41) : one d o (c :: r) = one d o r := (if_neg h1).trans (if_neg h2)

theorem bal_open (s : ByteArray) (k d : Nat) (h : k < s.size) (hb : bt s k = 40) : bal d (s.data.toList.drop k) = bal (d + 1) (s.data.toList.drop (k + 1)) := by
  rw [drop_at s k h]; exact balL_open (nat_bt s k h hb)
theorem bal_close (s : ByteArray) (k d : Nat) (h : k < s.size) (hb : bt s k = 41) : bal (d + 1) (s.data.toList.drop k) = bal d (s.data.toList.drop (k + 1)) := by
  rw [drop_at s k h]; exact balL_close (nat_bt s k h hb)
theorem bal_under (s : ByteArray) (k : Nat) (h : k < s.size) (hb : bt s k = 41) : bal 0 (s.data.toList.drop k) = false := by
  rw [drop_at s k h]; exact balL_under (nat_bt s k h hb)
theorem bal_other (s : ByteArray) (k d : Nat) (h : k < s.size) (h1 : ¬ bt s k = 40) (h2 : ¬ bt s k = 41) : bal d (s.data.toList.drop k) = bal d (s.data.toList.drop (k + 1)) := by
  rw [drop_at s k h]; exact balL_other (nat_not s k h h1) (nat_not s k h h2)
theorem bal_end (s : ByteArray) (k d : Nat) (h : s.size ≤ k) : bal d (s.data.toList.drop k) = (d == 0) := by
  rw [drop_end s k h, bal]

theorem one_open (s : ByteArray) (k d : Nat) (o : Bool) (h : k < s.size) (hb : bt s k = 40) : one d o (s.data.toList.drop k) = one (d + 1) true (s.data.toList.drop (k + 1)) := by
  rw [drop_at s k h]; exact oneL_open (nat_bt s k h hb)
theorem one_under (s : ByteArray) (k : Nat) (o : Bool) (h : k < s.size) (hb : bt s k = 41) : one 0 o (s.data.toList.drop k) = false := by
  rw [drop_at s k h]; exact oneL_under (nat_bt s k h hb)
theorem one_last (s : ByteArray) (k : Nat) (o : Bool) (h : k < s.size) (hl : s.size ≤ k + 1) (hb : bt s k = 41) : one 1 o (s.data.toList.drop k) = one 0 o (s.data.toList.drop (k + 1)) := by
  rw [drop_at s k h, drop_end s (k + 1) hl, oneL_last (nat_bt s k h hb), one]
  simp
theorem one_early (s : ByteArray) (k : Nat) (o : Bool) (hl : k + 1 < s.size) (hb : bt s k = 41) : one 1 o (s.data.toList.drop k) = false := by
  rw [drop_at s k (by omega), drop_at s (k + 1) hl]; exact oneL_early (nat_bt s k (by omega) hb)
theorem one_close (s : ByteArray) (k d : Nat) (o : Bool) (h : k < s.size) (hb : bt s k = 41) : one (d + 2) o (s.data.toList.drop k) = one (d + 1) o (s.data.toList.drop (k + 1)) := by
  rw [drop_at s k h]; exact oneL_close (nat_bt s k h hb)
theorem one_other (s : ByteArray) (k d : Nat) (o : Bool) (h : k < s.size) (h1 : ¬ bt s k = 40) (h2 : ¬ bt s k = 41) : one d o (s.data.toList.drop k) = one d o (s.data.toList.drop (k + 1)) := by
  rw [drop_at s k h]; exact oneL_other (nat_not s k h h1) (nat_not s k h h2)
theorem one_end (s : ByteArray) (k d : Nat) (o : Bool) (h : s.size ≤ k) : one d o (s.data.toList.drop k) = (o && d == 0) := by
  rw [drop_end s k h, one]

set_option maxHeartbeats 1000000 in
theorem balanced_any (s : ByteArray) (hs : s.size ≤ 4194304) (w : World) :
    Calls Try.prog 9 #[.string s] w fun e w' => e = .returned (.bool (bal 0 s.data.toList)) ∧ w' = w := by
  have hb := get_bt s
  go_enter Try.func9, Try.ntmps9
  go_wp2
  go_loop [3, 4] (fun t i => ∃ k d : Nat, k ≤ s.size ∧ d ≤ k ∧ i = .int .i64 k ∧ t = .int .i64 d ∧ Hid (bal d (s.data.toList.drop k) = bal 0 s.data.toList)) (fun _ i => s.size - (intOf i).toNat)
  case atStart => exact ⟨0, 0, Nat.zero_le _, Nat.le_refl _, rfl, rfl, rfl⟩
  case round =>
    obtain ⟨k, d, hk, hd, rfl, rfl, Hd⟩ := hrel
    by_cases hlt : k < s.size
    · by_cases h40 : bt s k = 40
      · have H2 : Hid (bal (d + 1) (s.data.toList.drop (k + 1)) = bal 0 s.data.toList) := (bal_open s k d hlt h40).symm.trans Hd.out
        clear Hd
        go_wp2
        go_round
        case rel => exact ⟨k + 1, d + 1, by omega, by omega, by go_num, by go_num, H2⟩
        case measure => simp [intOf]; omega
      · by_cases h41 : bt s k = 41
        · rcases d with _ | d
          · have H2 : Hid (false = bal 0 s.data.toList) := (bal_under s k hlt h41).symm.trans Hd.out
            clear Hd
            go_wp2
            go_ret
            exact ⟨ret_bool H2.out, rfl⟩
          · have H2 : Hid (bal d (s.data.toList.drop (k + 1)) = bal 0 s.data.toList) := (bal_close s k d hlt h41).symm.trans Hd.out
            clear Hd
            go_wp2
            go_round
            case rel => exact ⟨k + 1, d, by omega, by omega, by go_num, by go_num, H2⟩
            case measure => simp [intOf]; omega
        · have H2 : Hid (bal d (s.data.toList.drop (k + 1)) = bal 0 s.data.toList) := (bal_other s k d hlt h40 h41).symm.trans Hd.out
          clear Hd
          go_wp2
          go_round
          case rel => exact ⟨k + 1, d, by omega, by omega, by go_num, by go_num, H2⟩
          case measure => simp [intOf]; omega
    · have H2 : Hid ((d == 0) = bal 0 s.data.toList) := (bal_end s k d (by omega)).symm.trans Hd.out
      clear Hd
      go_wp2
      go_ret
      refine ⟨ret_bool (Eq.trans ?_ H2.out), rfl⟩
      rw [Bool.eq_iff_iff]
      simp

set_option maxHeartbeats 1000000 in
theorem oneTerm_any (s : ByteArray) (hs : s.size ≤ 4194304) (w : World) :
    Calls Try.prog 8 #[.string s] w fun e w' => e = .returned (.bool (one 0 false s.data.toList)) ∧ w' = w := by
  have hb := get_bt s
  go_enter Try.func8, Try.ntmps8
  go_wp2
  go_loop [3, 4, 5] (fun t p i => ∃ (k d : Nat) (o : Bool), k ≤ s.size ∧ d ≤ k ∧ i = .int .i64 k ∧ t = .int .i64 d ∧ p = .bool o ∧ Hid (one d o (s.data.toList.drop k) = one 0 false s.data.toList)) (fun _ _ i => s.size - (intOf i).toNat)
  case atStart => exact ⟨0, 0, false, Nat.zero_le _, Nat.le_refl _, rfl, rfl, rfl, rfl⟩
  case round =>
    obtain ⟨k, d, o, hk, hd, rfl, rfl, rfl, Hd⟩ := hrel
    by_cases hlt : k < s.size
    · by_cases h40 : bt s k = 40
      · have H2 : Hid (one (d + 1) true (s.data.toList.drop (k + 1)) = one 0 false s.data.toList) := (one_open s k d o hlt h40).symm.trans Hd.out
        clear Hd
        go_wp2
        go_round
        case rel => exact ⟨k + 1, d + 1, true, by omega, by omega, by go_num, by go_num, rfl, H2⟩
        case measure => simp [intOf]; omega
      · by_cases h41 : bt s k = 41
        · rcases d with _ | _ | d
          · have H2 : Hid (false = one 0 false s.data.toList) := (one_under s k o hlt h41).symm.trans Hd.out
            clear Hd
            go_wp2
            go_ret
            exact ⟨ret_bool H2.out, rfl⟩
          · by_cases hl : k + 1 < s.size
            · have H2 : Hid (false = one 0 false s.data.toList) := (one_early s k o hl h41).symm.trans Hd.out
              clear Hd
              go_wp2
              go_ret
              exact ⟨ret_bool H2.out, rfl⟩
            · have H2 : Hid (one 0 o (s.data.toList.drop (k + 1)) = one 0 false s.data.toList) := (one_last s k o hlt (by omega) h41).symm.trans Hd.out
              clear Hd
              go_wp2
              go_round
              case rel => exact ⟨k + 1, 0, o, by omega, by omega, by go_num, by go_num, rfl, H2⟩
              case measure => simp [intOf]; omega
          · have H2 : Hid (one (d + 1) o (s.data.toList.drop (k + 1)) = one 0 false s.data.toList) := (one_close s k d o hlt h41).symm.trans Hd.out
            clear Hd
            go_wp2
            go_round
            case rel => exact ⟨k + 1, d + 1, o, by omega, by omega, by go_num, by go_num, rfl, H2⟩
            case measure => simp [intOf]; omega
        · have H2 : Hid (one d o (s.data.toList.drop (k + 1)) = one 0 false s.data.toList) := (one_other s k d o hlt h40 h41).symm.trans Hd.out
          clear Hd
          go_wp2
          go_round
          case rel => exact ⟨k + 1, d, o, by omega, by omega, by go_num, by go_num, rfl, H2⟩
          case measure => simp [intOf]; omega
    · have H2 : Hid ((o && d == 0) = one 0 false s.data.toList) := (one_end s k d o (by omega)).symm.trans Hd.out
      clear Hd
      cases o
      · go_wp2
        go_ret
        exact ⟨ret_bool H2.out, rfl⟩
      · go_wp2
        go_ret
        refine ⟨ret_bool (Eq.trans ?_ H2.out), rfl⟩
        rw [Bool.eq_iff_iff]
        simp
end Go.Proofs.Qxb6608521a.sql
