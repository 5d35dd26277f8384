import Derived.PlainAid
namespace Go.Proofs.Qxb6608521a.sql
open Go.PlainAid

/-! ### The parameters that a text names: a machine over its bytes -/
def dig (c : UInt8) : Bool := 48 ≤ c.toNat && c.toNat ≤ 57
def headDig : List UInt8 → Bool
  | [] => false
  | c :: _ => dig c
/-- behind a byte that opens a number: in a number; else outside -/
def nextSt (c : UInt8) (r : List UInt8) : Option Int := if c.toNat = 36 && headDig r then some 0 else none
def stepV (v : Int) (b : Int) : Int := if v < 100000000 then v * 10 + (b - 48) else v
def sm : Option Int → List UInt8 → List Int
  | none, [] => []
  | some v, [] => [v]
  | none, c :: r => sm (nextSt c r) r
  | some v, c :: r => if dig c then sm (some (stepV v c.toNat)) r else v :: sm (nextSt c r) r
/-- the parameters that s names -/
def ph (s : ByteArray) : List Int := sm none s.data.toList

theorem headDig_append (r post : List UInt8) (h : headDig post = false) : headDig (r ++ post) = headDig r := by
  cases r with
  | nil => rw [List.nil_append]; exact h
  | cons c r => rfl

theorem sm_post (post : List UInt8) (h : headDig post = false) (h1 : ∀ st, sm st post = sm st []) : ∀ (l : List UInt8) (st : Option Int), sm st (l ++ post) = sm st l
  | [], st => by simpa using h1 st
  | c :: r, st => by
    have hn : nextSt c (r ++ post) = nextSt c r := by unfold nextSt; rw [headDig_append r post h]
    cases st with
    | none =>
      show sm (nextSt c (r ++ post)) (r ++ post) = sm (nextSt c r) r
      rw [hn, sm_post post h h1 r]
    | some v =>
      show (if dig c then sm (some (stepV v c.toNat)) (r ++ post) else v :: sm (nextSt c (r ++ post)) (r ++ post)) = (if dig c then sm (some (stepV v c.toNat)) r else v :: sm (nextSt c r) r)
      rw [hn, sm_post post h h1 r, sm_post post h h1 r]

theorem sm_length : ∀ (l : List UInt8) (st : Option Int), (sm st l).length ≤ l.length + 1
  | [], none => by simp [sm]
  | [], some v => by simp [sm]
  | c :: r, none => by
    have := sm_length r (nextSt c r)
    show (sm (nextSt c r) r).length ≤ _
    simp; omega
  | c :: r, some v => by
    have h1 := sm_length r (nextSt c r)
    have h2 := sm_length r (some (stepV v c.toNat))
    show (if dig c then sm (some (stepV v c.toNat)) r else v :: sm (nextSt c r) r).length ≤ _
    split
    · simp; omega
    · simp; omega

/-! ### The same, said of places in a string -/
theorem bt_get (s : ByteArray) (k : Nat) (h : k < s.size) : bt s k = (s.data.toList[k]'h).toNat := by
  unfold bt; rw [dif_pos h]; rfl
theorem drop_at (s : ByteArray) (k : Nat) (h : k < s.size) : s.data.toList.drop k = s.data.toList[k]'h :: s.data.toList.drop (k + 1) := List.drop_eq_getElem_cons h
theorem drop_end (s : ByteArray) (k : Nat) (h : s.size ≤ k) : s.data.toList.drop k = [] := List.drop_eq_nil_of_le h
theorem dig_bt (s : ByteArray) (k : Nat) (h : k < s.size) : dig (s.data.toList[k]'h) = (decide (48 ≤ bt s k) && decide (bt s k ≤ 57)) := by
  unfold dig
  rw [bt_get s k h, Bool.eq_iff_iff]
  simp only [Bool.and_eq_true, decide_eq_true_eq]
  omega
theorem headDig_drop (s : ByteArray) (k : Nat) : headDig (s.data.toList.drop k) = (decide (k < s.size) && (decide (48 ≤ bt s k) && decide (bt s k ≤ 57))) := by
  by_cases h : k < s.size
  · rw [drop_at s k h]
    show dig _ = _
    rw [dig_bt s k h]
    simp [h]
  · rw [drop_end s k (by omega)]
    simp [headDig, h]

theorem step_no (s : ByteArray) (k : Nat) (h : k < s.size) (hn : ¬ (bt s k = 36 ∧ k + 1 < s.size ∧ 48 ≤ bt s (k + 1) ∧ bt s (k + 1) ≤ 57)) : sm none (s.data.toList.drop k) = sm none (s.data.toList.drop (k + 1)) := by
  rw [drop_at s k h]
  show sm (nextSt _ _) _ = _
  have : nextSt (s.data.toList[k]'h) (s.data.toList.drop (k + 1)) = none := by
    unfold nextSt
    rw [if_neg]
    rw [headDig_drop]
    rw [bt_get s k h] at hn
    simp only [Bool.and_eq_true, decide_eq_true_eq]
    intro hc
    exact hn ⟨by omega, hc.2.1, hc.2.2.1, hc.2.2.2⟩
  rw [this]
theorem step_yes (s : ByteArray) (k : Nat) (h : k + 1 < s.size) (h1 : bt s k = 36) (h2 : 48 ≤ bt s (k + 1)) (h3 : bt s (k + 1) ≤ 57) : sm none (s.data.toList.drop k) = sm (some 0) (s.data.toList.drop (k + 1)) := by
  rw [drop_at s k (by omega)]
  show sm (nextSt _ _) _ = _
  have : nextSt (s.data.toList[k]'(show k < s.size from by omega)) (s.data.toList.drop (k + 1)) = some 0 := by
    unfold nextSt
    rw [if_pos]
    rw [headDig_drop]
    rw [bt_get s k (by omega)] at h1
    simp only [Bool.and_eq_true, decide_eq_true_eq]
    exact ⟨by omega, h, h2, h3⟩
  rw [this]
theorem step_dig (s : ByteArray) (j : Nat) (x : Int) (h : j < s.size) (h2 : 48 ≤ bt s j) (h3 : bt s j ≤ 57) : sm (some x) (s.data.toList.drop j) = sm (some (stepV x (bt s j))) (s.data.toList.drop (j + 1)) := by
  rw [drop_at s j h]
  show (if dig _ then _ else _) = _
  rw [dig_bt s j h, if_pos (by simp [h2, h3]), ← bt_get s j h]
theorem step_end (s : ByteArray) (j : Nat) (x : Int) (h : ¬ (j < s.size ∧ 48 ≤ bt s j ∧ bt s j ≤ 57)) : sm (some x) (s.data.toList.drop j) = x :: sm none (s.data.toList.drop j) := by
  by_cases hj : j < s.size
  · rw [drop_at s j hj]
    show (if dig _ then _ else x :: sm (nextSt _ _) _) = x :: sm (nextSt _ _) _
    rw [dig_bt s j hj, if_neg]
    simp only [Bool.and_eq_true, decide_eq_true_eq]
    intro hc
    exact h ⟨hj, hc⟩
  · rw [drop_end s j (by omega)]
    rfl

/-! ### Parentheses -/
/-- the parentheses never close more than they opened and all close -/
def bal : Nat → List UInt8 → Bool
  | d, [] => d == 0
  | d, c :: r => if c.toNat = 40 then bal (d + 1) r else if c.toNat = 41 then (match d with | 0 => false | d + 1 => bal d r) else bal d r
/-- one term: the depth falls back to zero at the last byte alone -/
def one : Nat → Bool → List UInt8 → Bool
  | d, o, [] => o && d == 0
  | d, o, c :: r => if c.toNat = 40 then one (d + 1) true r else if c.toNat = 41 then (match d with | 0 => false | 1 => (match r with | [] => o | _ :: _ => false) | d + 2 => one (d + 1) o r) else one d o r

theorem one_bal (post : List UInt8) (hp : post ≠ []) (h : ∀ d, one (d + 1) true post = (d == 0)) : ∀ (l : List UInt8) (d : Nat), one (d + 1) true (l ++ post) = bal d l
  | [], d => by simpa [bal] using h d
  | c :: r, d => by
    have hne : r ++ post ≠ [] := by simp [hp]
    obtain ⟨x, y, hxy⟩ := List.exists_cons_of_ne_nil hne
    have ih := one_bal post hp h r
    show (if c.toNat = 40 then one (d + 1 + 1) true (r ++ post) else if c.toNat = 41 then (match d + 1 with | 0 => false | 1 => (match r ++ post with | [] => true | _ :: _ => false) | d + 2 => one (d + 1) true (r ++ post)) else one (d + 1) true (r ++ post)) =
      (if c.toNat = 40 then bal (d + 1) r else if c.toNat = 41 then (match d with | 0 => false | d + 1 => bal d r) else bal d r)
    rw [ih (d + 1), ih d]
    by_cases h1 : c.toNat = 40
    · rw [if_pos h1, if_pos h1]
    · rw [if_neg h1, if_neg h1]
      by_cases h2 : c.toNat = 41
      · rw [if_pos h2, if_pos h2]
        match d with
        | 0 => simp only [hxy]
        | d + 1 => exact ih d
      · rw [if_neg h2, if_neg h2]

end Go.Proofs.Qxb6608521a.sql
