import Derived.Test.Qxb6608521aTerms
namespace Go.Proofs.Qxb6608521a.sql
open Go.RowKit Go.PlainAid

/-- it returns some bool -/
def RetB (e : Ending) : Prop := ∃ r : Bool, e = .returned (.bool r)

/-- what live lays ahead of its argument, and behind it -/
def livePre : ByteArray := ⟨#[99, 111, 97, 108, 101, 115, 99, 101, 40]⟩
def livePost : ByteArray := ⟨#[44, 32, 39, 105, 110, 102, 105, 110, 105, 116, 121, 39, 58, 58, 116, 105, 109, 101, 115, 116, 97, 109, 112, 116, 122, 41]⟩
def liveText (s : ByteArray) : ByteArray := livePre ++ s ++ livePost

theorem live_bytes (s : ByteArray) : (liveText s).data.toList = livePre.data.toList ++ (s.data.toList ++ livePost.data.toList) := by simp [liveText, ByteArray.data_append]
theorem live_size (s : ByteArray) : (liveText s).size ≤ s.size + 100 := by
  have h1 : livePre.size ≤ 50 := of_decide_eq_true (by kernel_rfl)
  have h2 : livePost.size ≤ 50 := of_decide_eq_true (by kernel_rfl)
  unfold liveText
  rw [ByteArray.size_append, ByteArray.size_append]
  omega
theorem live_pre (l : List UInt8) : one 0 false (livePre.data.toList ++ l) = one 1 true l := by kernel_rfl
theorem live_post (d : Nat) : one (d + 1) true livePost.data.toList = (d == 0) := by cases d <;> kernel_rfl
theorem live_one (s : ByteArray) : one 0 false (liveText s).data.toList = bal 0 s.data.toList := by
  rw [live_bytes, live_pre]
  exact one_bal _ (by intro h; cases h) live_post _ 0
theorem live_inj (a b : ByteArray) : ((liveText a).toList == (liveText b).toList) = (a.toList == b.toList) := by
  rw [ByteArray.toList_eq, ByteArray.toList_eq, ByteArray.toList_eq, ByteArray.toList_eq, live_bytes, live_bytes, Bool.eq_iff_iff]
  simp only [beq_iff_eq]
  constructor
  · intro h
    exact List.append_cancel_right (List.append_cancel_left h)
  · intro h
    rw [h]

set_option maxRecDepth 100000 in
set_option maxHeartbeats 1000000 in
theorem live_inner (s : ByteArray) (hs : s.size ≤ 1048576) (w : World) :
    Calls Try.prog 15 #[.string s] w fun e w' => e = .returned (.string (liveText s)) ∧ w' = w := by
  go_enter Try.func15, Try.ntmps15
  go_wp2
  go_ret
  exact ⟨rfl, rfl⟩
set_option maxHeartbeats 400000 in
theorem live_any (s : ByteArray) (hs : s.size ≤ 1048576) (w : World) :
    Calls Try.prog 7 #[.string s] w fun e w' => e = .returned (.string (liveText s)) ∧ w' = w := by
  go_enter Try.func7, Try.ntmps7
  go_wp2_with fail
  refine (live_inner s hs _).mono ?_
  rintro e w1 ⟨rfl, rfl⟩
  go_wp2_with fail
  go_ret
  exact ⟨rfl, rfl⟩
set_option maxHeartbeats 400000 in
theorem live_zz (a b : ByteArray) (w : World) : Calls Try.prog 6 #[.string a, .string b] w fun e w' => RetB e ∧ w' = w := by
  go_enter Try.func6, Try.ntmps6
  go_wp2
  all_goals (go_ret; exact ⟨⟨_, rfl⟩, rfl⟩)

set_option maxRecDepth 100000 in
set_option maxHeartbeats 1000000 in
theorem live_law (a b : ByteArray) (w : World) :
    Calls Try.prog 3 #[.string a, .string b] w fun e w' => e = .returned (.bool true) ∧ Below w.heap.size w w' := by
  go_enter Try.func3, Try.ntmps3
  go_wp2_with fail
  refine (live_zz a b _).mono ?_
  rintro e w0 ⟨⟨r, rfl⟩, rfl⟩
  cases r
  · go_wp2_with fail
    go_ret
    exact ⟨rfl, Below.refl _ _⟩
  by_cases ha : a.size ≤ 1048576
  · by_cases hb : (b.size : Int) ≤ 1048576 - (a.size : Int)
    · go_wp2_with fail
      refine (live_any a ha _).mono ?_
      rintro e w1 ⟨rfl, rfl⟩
      go_wp2_with fail
      refine (live_any b (by omega) _).mono ?_
      rintro e w2 ⟨rfl, rfl⟩
      have hinj := live_inj a b
      go_wp2_with fail
      refine (oneTerm_any (liveText a) (by have := live_size a; omega) _).mono ?_
      rintro e w3 ⟨rfl, rfl⟩
      rw [live_one]
      go_wp2_with fail
      refine (balanced_any a (by omega) _).mono ?_
      rintro e w4 ⟨rfl, rfl⟩
      generalize liveText a = u at hinj ⊢
      generalize liveText b = v at hinj ⊢
      generalize bal 0 a.data.toList = r
      cases r <;> cases hab : (a.toList == b.toList)
      all_goals
        rw [hab] at hinj
        go_wp2_with fail
        go_ret
        exact ⟨rfl, Below.refl _ _⟩
    · go_wp2_with fail
      go_ret
      exact ⟨rfl, Below.refl _ _⟩
  · go_wp2_with fail
    go_ret
    exact ⟨rfl, Below.refl _ _⟩

end Go.Proofs.Qxb6608521a.sql
