import Derived.PlainAid
namespace Go.Proofs.Qxb6612920a.spray

/-! ### Ascending lists of nodes -/
/-- how many elements are less than x: what sort.SearchInts answers -/
def cntLt (l : List Int) (x : Int) : Nat := l.countP (fun y => !decide (x ≤ y))
def insF (l : List Int) (x : Int) : List Int := l.take (cntLt l x) ++ x :: l.drop (cntLt l x)
def remF (l : List Int) (x : Int) : List Int := l.take (cntLt l x) ++ l.drop (cntLt l x + 1)
def Asc (l : List Int) : Prop := l.Pairwise (· < ·)

theorem asc_tail {a : Int} {l : List Int} (h : Asc (a :: l)) : Asc l := (List.pairwise_cons.1 h).2
theorem asc_head {a : Int} {l : List Int} (h : Asc (a :: l)) : ∀ y ∈ l, a < y := (List.pairwise_cons.1 h).1

theorem cntLt_le (l : List Int) (x : Int) : cntLt l x ≤ l.length := List.countP_le_length

theorem cnt_zero {l : List Int} {x : Int} (h : ∀ y ∈ l, x ≤ y) : cntLt l x = 0 := by
  unfold cntLt
  rw [List.countP_eq_zero]
  intro y hy
  simp [h y hy]

theorem cnt_cons_lt {a x : Int} (l : List Int) (h : a < x) : cntLt (a :: l) x = cntLt l x + 1 := by
  unfold cntLt
  rw [List.countP_cons_of_pos (by simp; omega)]
theorem cnt_cons_ge {a x : Int} {l : List Int} (ha : Asc (a :: l)) (h : x ≤ a) : cntLt (a :: l) x = 0 :=
  cnt_zero (fun y hy => by
    rcases List.mem_cons.1 hy with rfl | hy
    · exact h
    · have := asc_head ha y hy; omega)

/-- the elements ahead of the place are less than x, those from it on are not -/
theorem asc_take {l : List Int} (x : Int) (h : Asc l) : ∀ y ∈ l.take (cntLt l x), y < x := by
  induction l with
  | nil => simp
  | cons a l ih =>
    by_cases ha : a < x
    · rw [cnt_cons_lt l ha, List.take_succ_cons]
      intro y hy
      rcases List.mem_cons.1 hy with rfl | hy
      · exact ha
      · exact ih (asc_tail h) y hy
    · rw [cnt_cons_ge h (by omega)]; simp
theorem asc_drop {l : List Int} (x : Int) (h : Asc l) : ∀ y ∈ l.drop (cntLt l x), x ≤ y := by
  induction l with
  | nil => simp
  | cons a l ih =>
    by_cases ha : a < x
    · rw [cnt_cons_lt l ha, List.drop_succ_cons]
      exact ih (asc_tail h)
    · rw [cnt_cons_ge h (by omega)]
      intro y hy
      rcases List.mem_cons.1 (by simpa using hy) with rfl | hy
      · omega
      · have := asc_head h y hy; omega

theorem asc_sub {l m : List Int} (h : Asc l) (hs : m.Sublist l) : Asc m := List.Pairwise.sublist hs h

/-- what SearchInts asks -/
theorem asc_mono {l : List Int} (x : Int) (h : Asc l) : ∀ a b, a ≤ b → b < l.toArray.size → decide (x ≤ l.toArray[a]!) = true → decide (x ≤ l.toArray[b]!) = true := by
  intro a b hab hb hx
  simp only [decide_eq_true_eq] at hx ⊢
  have hb' : b < l.length := by simpa using hb
  rw [getElem!_pos l.toArray a (by simp; omega)] at hx
  rw [getElem!_pos l.toArray b hb]
  simp only [List.getElem_toArray] at hx ⊢
  rcases Nat.lt_or_eq_of_le hab with hlt | rfl
  · have := List.pairwise_iff_getElem.1 h a b (by omega) hb' hlt
    omega
  · exact hx

theorem mem_split (l : List Int) (i : Nat) (y : Int) : y ∈ l ↔ y ∈ l.take i ∨ y ∈ l.drop i := by
  conv => lhs; rw [← List.take_append_drop i l]
  rw [List.mem_append]

theorem mem_insF (l : List Int) (x y : Int) : y ∈ insF l x ↔ y = x ∨ y ∈ l := by
  unfold insF
  rw [List.mem_append, List.mem_cons, mem_split l (cntLt l x) y]
  constructor
  · rintro (h | h | h) <;> simp [h]
  · rintro (h | h | h) <;> simp [h]

theorem asc_insF {l : List Int} {x : Int} (h : Asc l) (hx : x ∉ l) : Asc (insF l x) := by
  unfold insF Asc
  rw [List.pairwise_append]
  refine ⟨asc_sub h (List.take_sublist _ _), ?_, ?_⟩
  · rw [List.pairwise_cons]
    refine ⟨fun y hy => ?_, asc_sub h (List.drop_sublist _ _)⟩
    have h1 := asc_drop x h y hy
    have h2 : y ≠ x := fun e => hx (by rw [← e]; exact List.mem_of_mem_drop hy)
    omega
  · intro a ha b hb
    have h1 := asc_take x h a ha
    rcases List.mem_cons.1 hb with rfl | hb
    · exact h1
    · have := asc_drop x h b hb; omega

/-- where x stands, it stands at its place -/
theorem asc_at {l : List Int} {x : Int} (h : Asc l) (hx : x ∈ l) : ∃ hi : cntLt l x < l.length, l[cntLt l x] = x := by
  induction l with
  | nil => simp at hx
  | cons a l ih =>
    by_cases ha : a < x
    · have hx' : x ∈ l := by
        rcases List.mem_cons.1 hx with rfl | hx
        · omega
        · exact hx
      obtain ⟨hi, he⟩ := ih (asc_tail h) hx'
      have e := cnt_cons_lt l ha
      refine ⟨by rw [e, List.length_cons]; omega, ?_⟩
      simp only [e, List.getElem_cons_succ]
      exact he
    · have e := cnt_cons_ge h (show x ≤ a by omega)
      refine ⟨by rw [e]; simp, ?_⟩
      simp only [e, List.getElem_cons_zero]
      rcases List.mem_cons.1 hx with rfl | hx
      · rfl
      · have := asc_head h x hx; omega

theorem asc_remF {l : List Int} (x : Int) (h : Asc l) : Asc (remF l x) := by
  unfold remF Asc
  rw [List.pairwise_append]
  refine ⟨asc_sub h (List.take_sublist _ _), asc_sub h (List.drop_sublist _ _), fun a ha b hb => ?_⟩
  have h1 := asc_take x h a ha
  have h2 := asc_drop x h b (by
    rw [← List.drop_drop] at hb
    exact List.mem_of_mem_drop hb)
  omega

theorem mem_remF {l : List Int} {x : Int} (h : Asc l) (hx : x ∈ l) (y : Int) : y ∈ remF l x ↔ y ∈ l ∧ y ≠ x := by
  obtain ⟨hi, he⟩ := asc_at h hx
  unfold remF
  rw [List.mem_append, mem_split l (cntLt l x) y, List.drop_eq_getElem_cons hi, he, List.mem_cons]
  have hd : Asc (x :: l.drop (cntLt l x + 1)) := by
    have := asc_sub h (List.drop_sublist (cntLt l x) l)
    rw [List.drop_eq_getElem_cons hi, he] at this
    exact this
  constructor
  · rintro (hy | hy)
    · have := asc_take x h y hy; exact ⟨Or.inl hy, by omega⟩
    · have := asc_head hd y hy; exact ⟨Or.inr (Or.inr hy), by omega⟩
  · rintro ⟨hy | hy | hy, hn⟩
    · exact Or.inl hy
    · exact absurd hy hn
    · exact Or.inr hy

theorem length_insF (l : List Int) (x : Int) : (insF l x).length = l.length + 1 := by
  have := cntLt_le l x
  simp [insF]; omega
theorem length_remF {l : List Int} {x : Int} (hi : cntLt l x < l.length) : (remF l x).length = l.length - 1 := by
  simp [remF]; omega

end Go.Proofs.Qxb6612920a.spray
