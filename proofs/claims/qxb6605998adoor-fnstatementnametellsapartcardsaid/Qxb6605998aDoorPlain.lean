import Derived.Lib.ItoaLen
import Derived.PlainAid
namespace Go.Proofs.Qxb6605998aDoor.names
open Go.Lib

theorem dg_val (u j : Nat) : (dg u j).toNat = 48 + u / 10 ^ j % 10 := by
  unfold dg
  rw [UInt8.toNat_ofNat']
  have := Nat.mod_lt (u / 10 ^ j) (by decide : 10 > 0)
  omega

theorem decDigits_get (u p : Nat) (h : p < (decDigits u).length) : ((decDigits u)[p]).toNat = 48 + u / 10 ^ ((decDigits u).length - 1 - p) % 10 := by
  have hl := decDigits_length u
  have e : (decDigits u)[p]? = some (dg u (nDigits u - 1 - p)) := by
    rw [decDigits_eq, List.getElem?_map, List.getElem?_range (by omega)]
    rfl
  rw [List.getElem?_eq_getElem h] at e
  rw [Option.some.inj e, dg_val, hl]

theorem decDigits_lt (u : Nat) : u < 10 ^ (decDigits u).length := by rw [decDigits_length]; exact lt_pow_nDigits u
theorem decDigits_pos (u : Nat) : 1 ≤ (decDigits u).length := by rw [decDigits_length]; exact nDigits_pos u

theorem pow_le_nDigits (u : Nat) (h : 10 ≤ u) : 10 ^ (nDigits u - 1) ≤ u := by
  induction u using Nat.strongRecOn with
  | _ u ih =>
    rw [nDigits_big (by omega), Nat.add_sub_cancel]
    by_cases h2 : u / 10 < 10
    · rw [nDigits_small h2]; omega
    · have := ih (u / 10) (by omega) (by omega)
      have hp := nDigits_pos (u / 10)
      obtain ⟨r, hr⟩ : ∃ r, nDigits (u / 10) = r + 1 := ⟨nDigits (u / 10) - 1, by omega⟩
      rw [hr, Nat.add_sub_cancel] at this
      rw [hr, Nat.pow_succ]
      omega

/-- no leading zero -/
theorem decDigits_lead (u : Nat) (h : ((decDigits u)[0]'(decDigits_pos u)).toNat = 48) : (decDigits u).length = 1 := by
  rw [decDigits_get] at h
  by_cases h2 : u < 10
  · rw [decDigits_length, nDigits_small h2]
  · exfalso
    rw [decDigits_length] at h
    have hp := pow_le_nDigits u (by omega)
    have hq := lt_pow_nDigits u
    have hn : nDigits u = nDigits u - 1 + 1 := by have := nDigits_pos u; omega
    rw [hn, Nat.pow_succ] at hq
    have h10 : 0 < 10 ^ (nDigits u - 1) := Nat.pow_pos (by decide)
    have hd : 1 ≤ u / 10 ^ (nDigits u - 1) := (Nat.le_div_iff_mul_le h10).2 (by omega)
    have hd2 : u / 10 ^ (nDigits u - 1) < 10 := (Nat.div_lt_iff_lt_mul h10).2 (by omega)
    simp only [Nat.sub_zero] at h
    rw [Nat.mod_eq_of_lt hd2] at h
    omega

/-- the bytes of a numeral: a minus or digits -/
theorem decDigits_byte (u : Nat) : ∀ c ∈ decDigits u, 48 ≤ c.toNat ∧ c.toNat ≤ 57 := by
  intro c hc
  obtain ⟨p, hp, rfl⟩ := List.getElem_of_mem hc
  rw [decDigits_get]
  omega
theorem itoa_byte (n : Int) : ∀ c ∈ itoa n, c.toNat = 45 ∨ (48 ≤ c.toNat ∧ c.toNat ≤ 57) := by
  intro c hc
  unfold itoa at hc
  split at hc
  · rcases List.mem_cons.1 hc with rfl | h
    · left; rfl
    · right; exact decDigits_byte _ c h
  · right; exact decDigits_byte _ c hc

/-- what the digits say -/
def valOf (l : List UInt8) : Nat := l.foldl (fun a c => a * 10 + (c.toNat - 48)) 0
theorem valOf_decDigits (u : Nat) : valOf (decDigits u) = u := by
  induction u using Nat.strongRecOn with
  | _ u ih =>
    by_cases h : u < 10
    · rw [decDigits, dif_pos h]
      simp only [valOf, List.foldl_cons, List.foldl_nil, UInt8.toNat_ofNat']
      omega
    · rw [decDigits, dif_neg h]
      have := ih (u / 10) (by omega)
      unfold valOf at this ⊢
      rw [List.foldl_append, this]
      simp only [List.foldl_cons, List.foldl_nil, UInt8.toNat_ofNat']
      omega
theorem decDigits_inj {a b : Nat} (h : decDigits a = decDigits b) : a = b := by
  rw [← valOf_decDigits a, ← valOf_decDigits b, h]
theorem decDigits_no_minus (u : Nat) (l : List UInt8) : decDigits u ≠ 45 :: l := by
  intro h
  have := decDigits_byte u 45 (by rw [h]; simp)
  simp at this
theorem itoa_inj {a b : Int} (h : itoa a = itoa b) : a = b := by
  unfold itoa at h
  split at h <;> split at h
  · have := decDigits_inj (List.cons.inj h).2; omega
  · exact absurd h.symm (decDigits_no_minus _ _)
  · exact absurd h (decDigits_no_minus _ _)
  · have := decDigits_inj h; omega

/-- splitting at the last mark: where the tails hold no mark -/
theorem split_last {a b x y : List UInt8} {m : UInt8} (hx : m ∉ x) (hy : m ∉ y) (h : a ++ m :: x = b ++ m :: y) : a = b ∧ x = y := by
  rcases List.append_eq_append_iff.1 h with ⟨c, rfl, hc⟩ | ⟨c, rfl, hc⟩
  · cases c with
    | nil => simp at hc; exact ⟨by simp, hc⟩
    | cons d c =>
      simp only [List.cons_append, List.cons.injEq] at hc
      exact absurd (by rw [hc.2]; simp) hx
  · cases c with
    | nil => simp at hc; exact ⟨by simp, hc.symm⟩
    | cons d c =>
      simp only [List.cons_append, List.cons.injEq] at hc
      exact absurd (by rw [hc.2]; simp) hy

/-- splitting at the first mark: where the heads hold no mark -/
theorem split_first {a b x y : List UInt8} {m : UInt8} (ha : m ∉ a) (hb : m ∉ b) (h : a ++ m :: x = b ++ m :: y) : a = b ∧ x = y := by
  induction a generalizing b with
  | nil =>
    cases b with
    | nil => simp at h; exact ⟨rfl, h⟩
    | cons d b => simp at h; exact absurd (by rw [← h.1]; simp) hb
  | cons c a ih =>
    cases b with
    | nil => simp at h; exact absurd (by rw [h.1]; simp) ha
    | cons d b =>
      simp only [List.cons_append, List.cons.injEq] at h
      have := ih (fun hm => ha (List.mem_cons_of_mem _ hm)) (fun hm => hb (List.mem_cons_of_mem _ hm)) h.2
      exact ⟨by rw [h.1, this.1], this.2⟩

/-- the name's bytes tell org, holder and index, where org holds no slash -/
theorem name_inj {o1 h1 o2 h2 : List UInt8} {n1 n2 : Int} (ho1 : (47 : UInt8) ∉ o1) (ho2 : (47 : UInt8) ∉ o2)
    (h : o1 ++ 47 :: (h1 ++ 35 :: itoa n1) = o2 ++ 47 :: (h2 ++ 35 :: itoa n2)) : o1 = o2 ∧ h1 = h2 ∧ n1 = n2 := by
  obtain ⟨e1, e2⟩ := split_first ho1 ho2 h
  have hno : ∀ n : Int, (35 : UInt8) ∉ itoa n := fun n hm => by
    have := itoa_byte n 35 hm
    simp at this
  obtain ⟨e3, e4⟩ := split_last (hno n1) (hno n2) e2
  exact ⟨e1, e3, itoa_inj e4⟩
end Go.Proofs.Qxb6605998aDoor.names
