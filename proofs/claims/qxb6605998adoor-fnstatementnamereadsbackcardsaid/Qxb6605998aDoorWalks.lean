import Derived.Test.Qxb6605998aDoorShelf
import Derived.Test.Qxb6605998aDoorPlain
import Derived.WalkKit
import Derived.WalkSpells
import Derived.WalkLawsBesides
namespace Go.Proofs.Qxb6605998aDoor.names
open Go.RowKit Go.PlainAid

/-- the statement's name, as bytes -/
def nameOf (org holder : ByteArray) (n : Int) : ByteArray := org ++ ⟨#[47]⟩ ++ holder ++ ⟨#[35]⟩ ++ ⟨(Lib.itoa n).toArray⟩

theorem below_grow (w : World) (k : Nat) (os : Array Obj) : Below w.heap.size w (Sort.grow (w.drewN k) os) := by
  refine ⟨rfl, rfl, rfl, by simp [Sort.grow], fun i hi => ?_⟩
  show (w.heap ++ os)[i]? = _
  rw [Array.getElem?_append_left hi]

theorem size47 : (⟨#[47]⟩ : ByteArray).size = 1 := rfl
theorem size35 : (⟨#[35]⟩ : ByteArray).size = 1 := rfl
theorem sizeL (l : List UInt8) : (⟨l.toArray⟩ : ByteArray).size = l.length := by simp [ByteArray.size]

set_option maxHeartbeats 400000 in
theorem statementName_any (org holder : ByteArray) (n : Int) (h0 : -9223372036854775808 ≤ n) (h1 : n ≤ 9223372036854775807) (ho : org.size ≤ 524288) (hh : holder.size ≤ 524288) (w : World) (htab : Lib.TabIs Tryd.prog w tabName .u64 Lib.pow10Tab) :
    Calls Tryd.prog 20 #[.string org, .string holder, .int .i64 n] w fun e w' => e = .returned (.string (nameOf org holder n)) ∧ Below w.heap.size w w' := by
  have hl := Lib.itoa_length_le n h0 h1
  have a1 := run_string_add_sum (P := Tryd.prog) w org ⟨#[47]⟩ (by rw [size47]; omega)
  have a2 := run_string_add_sum (P := Tryd.prog) w (org ++ ⟨#[47]⟩) holder (by rw [ByteArray.size_append, size47]; omega)
  have a3 := run_string_add_sum (P := Tryd.prog) w (org ++ ⟨#[47]⟩ ++ holder) ⟨#[35]⟩ (by rw [ByteArray.size_append, ByteArray.size_append, size47, size35]; omega)
  have a4 := fun w' => run_string_add_sum (P := Tryd.prog) w' (org ++ ⟨#[47]⟩ ++ holder ++ ⟨#[35]⟩) ⟨(Lib.itoa n).toArray⟩ (by rw [ByteArray.size_append, ByteArray.size_append, ByteArray.size_append, size47, size35, sizeL (Lib.itoa n)]; omega)
  go_enter Tryd.func20, Tryd.ntmps20
  go_wp2_with fail
  refine (Tryd.strconv_Itoa n h0 h1 _ htab).mono ?_
  rintro e w1 ⟨rfl, k, os, rfl⟩
  go_wp2_with fail
  go_ret
  exact ⟨rfl, below_grow _ _ _⟩

set_option maxHeartbeats 400000 in
theorem name_any (org holder : ByteArray) (n : Int) (h0 : -9223372036854775808 ≤ n) (h1 : n ≤ 9223372036854775807) (ho : org.size ≤ 524288) (hh : holder.size ≤ 524288) (w : World) (htab : Lib.TabIs Tryd.prog w tabName .u64 Lib.pow10Tab) :
    Calls Tryd.prog 8 #[.string org, .string holder, .int .i64 n] w fun e w' => e = .returned (.string (nameOf org holder n)) ∧ Below w.heap.size w w' := by
  go_enter Tryd.func8, Tryd.ntmps8
  go_wp2_with fail
  refine (statementName_any org holder n h0 h1 ho hh _ htab).mono ?_
  rintro e w1 ⟨rfl, hb⟩
  go_wp2_with fail
  go_ret
  exact ⟨rfl, hb⟩

/-- it returns some bool -/
def RetBool (e : Ending) : Prop := ∃ r : Bool, e = .returned (.bool r)

set_option maxHeartbeats 400000 in
theorem bytes3_any (org holder : ByteArray) (n : Int) (w : World) : Calls Tryd.prog 7 #[.string org, .string holder, .int .i64 n] w fun e w' => RetBool e ∧ w' = w := by
  go_enter Tryd.func7, Tryd.ntmps7
  go_wp2
  all_goals (go_ret; exact ⟨⟨_, rfl⟩, rfl⟩)

set_option maxHeartbeats 400000 in
theorem bytes6_any (org holder : ByteArray) (n : Int) (org2 holder2 : ByteArray) (n2 : Int) (w : World) : Calls Tryd.prog 10 #[.string org, .string holder, .int .i64 n, .string org2, .string holder2, .int .i64 n2] w fun e w' => RetBool e ∧ w' = w := by
  go_enter Tryd.func10, Tryd.ntmps10
  go_wp2
  all_goals (go_ret; exact ⟨⟨_, rfl⟩, rfl⟩)

/-- does the string hold a slash? -/
def slashB (s : ByteArray) : Bool := s.data.toList.contains 47

theorem ret_bool {a b : Bool} (h : a = b) : Ending.returned (.bool a) = .returned (.bool b) := by rw [h]

theorem bt_get (s : ByteArray) (k : Nat) (h : k < s.size) : bt s k = (s.data.toList[k]'h).toNat := by
  unfold bt; rw [dif_pos h]; rfl

theorem slash_yes (s : ByteArray) (k : Nat) (h : k < s.size) (he : bt s k = 47) : slashB s = true := by
  unfold slashB
  rw [List.contains_iff_mem]
  rw [bt_get s k h] at he
  have : s.data.toList[k]'h = 47 := by
    apply UInt8.toNat_inj.1
    show _ = 47
    omega
  rw [← this]
  exact List.getElem_mem _
theorem slash_no (s : ByteArray) (h : ∀ k, k < s.size → bt s k ≠ 47) : slashB s = false := by
  unfold slashB
  rw [Bool.eq_false_iff]
  intro hc
  rw [List.contains_iff_mem] at hc
  obtain ⟨k, hk, he⟩ := List.getElem_of_mem hc
  refine h k hk ?_
  rw [bt_get s k hk, he]
  rfl

set_option maxHeartbeats 400000 in
theorem hasSlash_any (s : ByteArray) (hs : s.size ≤ 1048576) (w : World) :
    Calls Tryd.prog 11 #[.string s] w fun e w' => e = .returned (.bool (slashB s)) ∧ w' = w := by
  have hb := get_bt s
  go_enter Tryd.func11, Tryd.ntmps11
  go_wp2
  go_loop [3] (fun i => ∃ k : Nat, k ≤ s.size ∧ i = .int .i64 k ∧ ∀ j, j < k → bt s j ≠ 47) (fun i => s.size - (intOf i).toNat)
  case atStart => exact ⟨0, Nat.zero_le _, rfl, fun j hj => by omega⟩
  case round =>
    obtain ⟨k, hk, rfl, hno⟩ := hrel
    have Hno : Hid (∀ j, j < k → bt s j ≠ 47) := hno
    clear hno
    by_cases hlt : k < s.size
    · go_wp2
      · have he : (bt s k == 47) = true := by assumption
        go_ret
        exact ⟨ret_bool (slash_yes s k hlt (by simpa using he)).symm, rfl⟩
      · have he : (bt s k == 47) = false := by assumption
        go_round
        case rel => exact ⟨k + 1, by omega, by go_num, fun j hj => by
          by_cases e : j = k
          · subst e; simpa using he
          · exact Hno.out j (by omega)⟩
        case measure => simp [intOf]; omega
    · have hr := slash_no s (fun j hj => Hno.out j (by omega))
      have Hr : Hid (slashB s = false) := hr
      clear hr
      go_wp2
      go_ret
      exact ⟨ret_bool Hr.out.symm, rfl⟩

/-- the digits of u, as the walk reads them -/
def DigitsOf (d : ByteArray) (u m : Nat) : Prop :=
  d.size = m ∧ 1 ≤ m ∧ m ≤ 20 ∧ u < 10 ^ m ∧ (bt d 0 = 48 → m = 1) ∧ ∀ p, p < m → bt d p = 48 + ((u / 10 ^ (m - 1 - p) % 10 : Nat) : Int)

theorem div_step (u m i : Nat) (h : i + 1 ≤ m) : u / 10 ^ (m - (i + 1)) / 10 = u / 10 ^ (m - i) := by
  rw [Nat.div_div_eq_div_mul, ← Nat.pow_succ, show (m - (i + 1)).succ = m - i from by omega]

set_option maxHeartbeats 1000000 in
theorem isDecimal_pos (d : ByteArray) (u m : Nat) (hu : u ≤ 9223372036854775807) (hd : DigitsOf d u m) (w : World) :
    Calls Tryd.prog 9 #[.string d, .int .i64 u] w fun e w' => e = .returned (.bool true) ∧ w' = w := by
  obtain ⟨hsz, hm1, hm2, hlt, hlead, hdig⟩ := hd
  have hb := get_bt d
  have Hdig : Hid (∀ p, p < m → bt d p = 48 + ((u / 10 ^ (m - 1 - p) % 10 : Nat) : Int)) := hdig
  have Hlt : Hid (u < 10 ^ m) := hlt
  have h48 : 48 ≤ bt d 0 ∧ bt d 0 ≤ 57 := by rw [hdig 0 (by omega)]; omega
  clear hdig hlt
  by_cases hl : bt d 0 = 48
  · have hm := hlead hl
    clear hlead
    subst hm
    go_enter Tryd.func9, Tryd.ntmps9
    go_wp2
    go_loop [1, 6] (fun v p => ∃ (k q : Nat) (pv : Int), k ≤ 1 ∧ p = .int .i64 pv ∧ pv + 1 = k ∧ v = .int .i64 q ∧ q ≤ 9223372036854775807 ∧ Hid (q = u / 10 ^ (1 - k))) (fun _ p => (intOf p + 1).toNat)
    case atStart => exact ⟨1, u, _, Nat.le_refl _, rfl, by omega, rfl, hu, by show u = _; simp⟩
    case round =>
      obtain ⟨k, q, pv, hk, rfl, hpv, rfl, hq, Hq⟩ := hrel
      rcases k with _ | i
      · obtain rfl : pv = -1 := by omega
        obtain rfl : q = 0 := by rw [Hq.out]; exact Nat.div_eq_of_lt Hlt.out
        go_wp2
        go_ret
        exact ⟨rfl, rfl⟩
      · obtain rfl : pv = (i : Int) := by omega
        have hc : bt d i = 48 + (q : Int) % 10 := by
          rw [Hdig.out i (by omega), Hq.out, show 1 - 1 - i = 1 - (i + 1) from by omega]
          omega
        have hi : i < 1 := by omega
        have Hq2 : Hid (q / 10 = u / 10 ^ (1 - i)) := by show _ = _; rw [Hq.out]; exact div_step u 1 i (by omega)
        clear Hq
        go_wp2
        go_round
        case rel => exact ⟨i, q / 10, (i : Int) - 1, by omega, rfl, by omega, by go_num, by omega, Hq2⟩
        case measure => simp [intOf]
  · clear hlead
    go_enter Tryd.func9, Tryd.ntmps9
    go_wp2
    go_loop [1, 6] (fun v p => ∃ (k q : Nat) (pv : Int), k ≤ m ∧ p = .int .i64 pv ∧ pv + 1 = k ∧ v = .int .i64 q ∧ q ≤ 9223372036854775807 ∧ Hid (q = u / 10 ^ (m - k))) (fun _ p => (intOf p + 1).toNat)
    case atStart => exact ⟨m, u, _, Nat.le_refl _, rfl, by omega, rfl, hu, by show u = _; simp⟩
    case round =>
      obtain ⟨k, q, pv, hk, rfl, hpv, rfl, hq, Hq⟩ := hrel
      rcases k with _ | i
      · obtain rfl : pv = -1 := by omega
        obtain rfl : q = 0 := by rw [Hq.out]; exact Nat.div_eq_of_lt Hlt.out
        go_wp2
        go_ret
        exact ⟨rfl, rfl⟩
      · obtain rfl : pv = (i : Int) := by omega
        have hc : bt d i = 48 + (q : Int) % 10 := by
          rw [Hdig.out i (by omega), Hq.out, show m - 1 - i = m - (i + 1) from by omega]
          omega
        have hi : i < m := by omega
        have Hq2 : Hid (q / 10 = u / 10 ^ (m - i)) := by show _ = _; rw [Hq.out]; exact div_step u m i (by omega)
        clear Hq
        go_wp2
        go_round
        case rel => exact ⟨i, q / 10, (i : Int) - 1, by omega, rfl, by omega, by go_num, by omega, Hq2⟩
        case measure => simp [intOf]

theorem tmod_neg (q : Nat) : (-(q : Int)).tmod 10 = -((q : Int) % 10) := by rw [Int.neg_tmod, Int.tmod_eq_emod_of_nonneg (by omega)]
theorem tdiv_neg (q : Nat) : (-(q : Int)).tdiv 10 = -((q : Int) / 10) := by rw [Int.neg_tdiv, Int.tdiv_eq_ediv_of_nonneg (by omega)]

set_option maxHeartbeats 1000000 in
theorem isDecimal_neg (t d : ByteArray) (u m : Nat) (hu0 : 1 ≤ u) (hu : u ≤ 9223372036854775808) (ht0 : bt t 0 = 45) (hts : t.size = m + 1) (hex : t.extract 1 (m + 1) = d) (hd : DigitsOf d u m) (w : World) :
    Calls Tryd.prog 9 #[.string t, .int .i64 (-(u : Int))] w fun e w' => e = .returned (.bool true) ∧ w' = w := by
  obtain ⟨hsz, hm1, hm2, hlt, hlead, hdig⟩ := hd
  have hb := get_bt d
  have hbt := get_bt t
  have Hdig : Hid (∀ p, p < m → bt d p = 48 + ((u / 10 ^ (m - 1 - p) % 10 : Nat) : Int)) := hdig
  have Hlt : Hid (u < 10 ^ m) := hlt
  have h48 : 48 ≤ bt d 0 ∧ bt d 0 ≤ 57 := by rw [hdig 0 (by omega)]; omega
  clear hdig hlt
  by_cases hl : bt d 0 = 48
  · exfalso
    have hm := hlead hl
    subst hm
    have h1 := Hdig.out 0 (by omega)
    have h2 := Hlt.out
    simp at h1 h2
    omega
  · clear hlead
    go_enter Tryd.func9, Tryd.ntmps9
    go_wp2
    go_loop [1, 6] (fun v p => ∃ (k q : Nat) (pv : Int), k ≤ m ∧ p = .int .i64 pv ∧ pv + 1 = k ∧ v = .int .i64 (-(q : Int)) ∧ q ≤ 9223372036854775808 ∧ Hid (q = u / 10 ^ (m - k))) (fun _ p => (intOf p + 1).toNat)
    case atStart => exact ⟨m, u, _, Nat.le_refl _, rfl, by omega, rfl, hu, by show u = _; simp⟩
    case round =>
      obtain ⟨k, q, pv, hk, rfl, hpv, rfl, hq, Hq⟩ := hrel
      rcases k with _ | i
      · obtain rfl : pv = -1 := by omega
        obtain rfl : q = 0 := by rw [Hq.out]; exact Nat.div_eq_of_lt Hlt.out
        go_wp2
        go_ret
        exact ⟨rfl, rfl⟩
      · obtain rfl : pv = (i : Int) := by omega
        have hc : bt d i = 48 + (q : Int) % 10 := by
          rw [Hdig.out i (by omega), Hq.out, show m - 1 - i = m - (i + 1) from by omega]
          omega
        have hi : i < m := by omega
        have Hq2 : Hid (q / 10 = u / 10 ^ (m - i)) := by show _ = _; rw [Hq.out]; exact div_step u m i (by omega)
        clear Hq
        have tm : (-(q : Int)).tmod 10 = -((q : Int) % 10) := tmod_neg q
        have td : (-(q : Int)).tdiv 10 = -((q : Int) / 10) := tdiv_neg q
        by_cases hz : (q : Int) % 10 = 0
        · go_wp2
          go_round
          case rel => exact ⟨i, q / 10, (i : Int) - 1, by omega, rfl, by omega, by go_num, by omega, Hq2⟩
          case measure => simp [intOf]
        · have hz' : 0 < (q : Int) % 10 := by omega
          go_wp2
          go_round
          case rel => exact ⟨i, q / 10, (i : Int) - 1, by omega, rfl, by omega, by go_num, by omega, Hq2⟩
          case measure => simp [intOf]

theorem digitsOf_dec (d : ByteArray) (u : Nat) (hu : u < 18446744073709551616) (h : d.data.toList = Lib.decDigits u) : DigitsOf d u (Lib.decDigits u).length := by
  have hsz : d.size = (Lib.decDigits u).length := by rw [← h]; rfl
  have hget : ∀ p (hp : p < (Lib.decDigits u).length), bt d p = ((Lib.decDigits u)[p]).toNat := by
    intro p hp
    rw [bt_get d p (by omega)]
    congr 2
    simp only [h]
  refine ⟨hsz, decDigits_pos u, ?_, decDigits_lt u, fun h0 => ?_, fun p hp => ?_⟩
  · rw [Lib.decDigits_length]; exact Lib.nDigits_le20 u hu
  · rw [hget 0 (decDigits_pos u)] at h0
    exact decDigits_lead u (by omega)
  · rw [hget p hp, decDigits_get u p hp]
    omega

/-- a numeral is the decimal of its number -/
theorem isDecimal_any (t : ByteArray) (n : Int) (h0 : -9223372036854775808 ≤ n) (h1 : n ≤ 9223372036854775807) (h : t.data.toList = Lib.itoa n) (w : World) :
    Calls Tryd.prog 9 #[.string t, .int .i64 n] w fun e w' => e = .returned (.bool true) ∧ w' = w := by
  by_cases hneg : n < 0
  · obtain ⟨u, rfl⟩ : ∃ u : Nat, n = -(u : Int) := ⟨n.natAbs, by omega⟩
    rw [Lib.itoa_neg u (by omega)] at h
    have hts : t.size = (Lib.decDigits u).length + 1 := by
      have : t.size = t.data.toList.length := rfl
      rw [this, h, List.length_cons]
    refine isDecimal_neg t (t.extract 1 ((Lib.decDigits u).length + 1)) u (Lib.decDigits u).length (by omega) (by omega) ?_ hts rfl (digitsOf_dec _ u (by omega) ?_) w
    · rw [bt_get t 0 (by omega)]
      simp [h]
    · simp [ByteArray.data_extract, Array.toList_extract, h]
  · obtain ⟨u, rfl⟩ : ∃ u : Nat, n = (u : Int) := ⟨n.toNat, by omega⟩
    rw [Lib.itoa_nonneg] at h
    exact isDecimal_pos t u (Lib.decDigits u).length (by omega) (digitsOf_dec t u (by omega) h) w

end Go.Proofs.Qxb6605998aDoor.names
