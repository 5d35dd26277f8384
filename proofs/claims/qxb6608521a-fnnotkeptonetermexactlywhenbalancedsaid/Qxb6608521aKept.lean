import Derived.Test.Qxb6608521aTerms
namespace Go.Proofs.Qxb6608521a.sql
open Go.RowKit Go.PlainAid

/-- it returns some bool -/
def RetB (e : Ending) : Prop := ∃ r : Bool, e = .returned (.bool r)

/-- what kept lays ahead of its argument, and behind it -/
def keptPre : ByteArray := ⟨#[78, 79, 84, 32, 69, 88, 73, 83, 84, 83, 32, 40, 83, 69, 76, 69, 67, 84, 32, 70, 82, 79, 77, 32, 102, 101, 101, 100, 115, 32, 87, 72, 69, 82, 69, 32, 110, 97, 109, 101, 115, 112, 97, 99, 101, 32, 61, 32]⟩
def keptPost : ByteArray := ⟨#[41]⟩
def keptText (s : ByteArray) : ByteArray := keptPre ++ s ++ keptPost

theorem kept_bytes (s : ByteArray) : (keptText s).data.toList = keptPre.data.toList ++ (s.data.toList ++ keptPost.data.toList) := by simp [keptText, ByteArray.data_append]
theorem kept_size (s : ByteArray) : (keptText s).size ≤ s.size + 100 := by
  have h1 : keptPre.size ≤ 50 := of_decide_eq_true (by kernel_rfl)
  have h2 : keptPost.size ≤ 50 := of_decide_eq_true (by kernel_rfl)
  unfold keptText
  rw [ByteArray.size_append, ByteArray.size_append]
  omega
theorem kept_pre (l : List UInt8) : one 0 false (keptPre.data.toList ++ l) = one 1 true l := by kernel_rfl
theorem kept_post (d : Nat) : one (d + 1) true keptPost.data.toList = (d == 0) := by cases d <;> kernel_rfl
theorem kept_one (s : ByteArray) : one 0 false (keptText s).data.toList = bal 0 s.data.toList := by
  rw [kept_bytes, kept_pre]
  exact one_bal _ (by intro h; cases h) kept_post _ 0
theorem kept_inj (a b : ByteArray) : ((keptText a).toList == (keptText b).toList) = (a.toList == b.toList) := by
  rw [ByteArray.toList_eq, ByteArray.toList_eq, ByteArray.toList_eq, ByteArray.toList_eq, kept_bytes, kept_bytes, Bool.eq_iff_iff]
  simp only [beq_iff_eq]
  constructor
  · intro h
    exact List.append_cancel_right (List.append_cancel_left h)
  · intro h
    rw [h]

set_option maxRecDepth 100000 in
set_option maxHeartbeats 1000000 in
theorem kept_inner (s : ByteArray) (hs : s.size ≤ 1048576) (w : World) :
    Calls Try.prog 16 #[.string s] w fun e w' => e = .returned (.string (keptText s)) ∧ w' = w := by
  go_enter Try.func16, Try.ntmps16
  go_wp2
  go_ret
  exact ⟨rfl, rfl⟩
set_option maxHeartbeats 400000 in
theorem kept_any (s : ByteArray) (hs : s.size ≤ 1048576) (w : World) :
    Calls Try.prog 11 #[.string s] w fun e w' => e = .returned (.string (keptText s)) ∧ w' = w := by
  go_enter Try.func11, Try.ntmps11
  go_wp2_with fail
  refine (kept_inner s hs _).mono ?_
  rintro e w1 ⟨rfl, rfl⟩
  go_wp2_with fail
  go_ret
  exact ⟨rfl, rfl⟩
set_option maxHeartbeats 400000 in
theorem kept_zz (a b : ByteArray) (w : World) : Calls Try.prog 10 #[.string a, .string b] w fun e w' => RetB e ∧ w' = w := by
  go_enter Try.func10, Try.ntmps10
  go_wp2
  all_goals (go_ret; exact ⟨⟨_, rfl⟩, rfl⟩)

set_option maxRecDepth 100000 in
set_option maxHeartbeats 1000000 in
theorem kept_law (a b : ByteArray) (w : World) :
    Calls Try.prog 4 #[.string a, .string b] w fun e w' => e = .returned (.bool true) ∧ Below w.heap.size w w' := by
  go_enter Try.func4, Try.ntmps4
  go_wp2_with fail
  refine (kept_zz a b _).mono ?_
  rintro e w0 ⟨⟨r, rfl⟩, rfl⟩
  cases r
  · go_wp2_with fail
    go_ret
    exact ⟨rfl, Below.refl _ _⟩
  by_cases ha : a.size ≤ 1048576
  · by_cases hb : (b.size : Int) ≤ 1048576 - (a.size : Int)
    · go_wp2_with fail
      refine (kept_any a ha _).mono ?_
      rintro e w1 ⟨rfl, rfl⟩
      go_wp2_with fail
      refine (kept_any b (by omega) _).mono ?_
      rintro e w2 ⟨rfl, rfl⟩
      have hinj := kept_inj a b
      go_wp2_with fail
      refine (oneTerm_any (keptText a) (by have := kept_size a; omega) _).mono ?_
      rintro e w3 ⟨rfl, rfl⟩
      rw [kept_one]
      go_wp2_with fail
      refine (balanced_any a (by omega) _).mono ?_
      rintro e w4 ⟨rfl, rfl⟩
      generalize keptText a = u at hinj ⊢
      generalize keptText b = v at hinj ⊢
      generalize bal 0 a.data.toList = r
      cases r <;> cases hab : (a.toList == b.toList)
      all_goals
        rw [hab] at hinj
        go_wp2_with fail
        go_ret
        exact ⟨rfl, Below.refl _ _⟩
    · go_wp2_with fail
      go_ret
      exact ⟨rfl, Below.refl _ _⟩
  · go_wp2_with fail
    go_ret
    exact ⟨rfl, Below.refl _ _⟩

end Go.Proofs.Qxb6608521a.sql
