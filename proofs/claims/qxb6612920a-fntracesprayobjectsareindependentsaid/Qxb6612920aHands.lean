import Derived.Test.Qxb6612920aLists
namespace Go.Proofs.Qxb6612920a.spray

/-! ### Sums over the first n numbers -/
def sumN (f : Nat → Int) : Nat → Int
  | 0 => 0
  | n + 1 => sumN f n + f n
def fupd {α : Type} (f : Nat → α) (i : Nat) (v : α) : Nat → α := fun x => if x = i then v else f x
theorem fupd_same {α : Type} (f : Nat → α) (i : Nat) (v : α) : fupd f i v i = v := if_pos rfl
theorem fupd_other {α : Type} (f : Nat → α) {i k : Nat} (v : α) (h : k ≠ i) : fupd f i v k = f k := if_neg h

theorem sumN_congr {f g : Nat → Int} : ∀ {n : Nat}, (∀ i, i < n → f i = g i) → sumN f n = sumN g n
  | 0, _ => rfl
  | n + 1, h => by
    show sumN f n + f n = sumN g n + g n
    rw [sumN_congr (n := n) (fun i hi => h i (by omega)), h n (by omega)]
theorem sumN_upd {f : Nat → Int} {i : Nat} (v : Int) : ∀ {n : Nat}, i < n → sumN (fupd f i v) n = sumN f n - f i + v
  | 0, h => absurd h (Nat.not_lt_zero _)
  | n + 1, h => by
    show sumN (fupd f i v) n + fupd f i v n = sumN f n + f n - f i + v
    by_cases e : i = n
    · subst e
      rw [fupd_same, sumN_congr (f := fupd f i v) (g := f) (fun k hk => fupd_other f v (by omega))]
      omega
    · rw [sumN_upd v (n := n) (by omega), fupd_other f v (by omega)]
      omega
theorem sumN_nonneg {f : Nat → Int} : ∀ {n : Nat}, (∀ i, i < n → 0 ≤ f i) → 0 ≤ sumN f n
  | 0, _ => Int.le_refl _
  | n + 1, h => by
    have h1 := sumN_nonneg (n := n) (fun i hi => h i (by omega))
    have h2 := h n (by omega)
    show 0 ≤ sumN f n + f n
    omega
theorem sumN_le {f g : Nat → Int} : ∀ {n : Nat}, (∀ i, i < n → f i ≤ g i) → sumN f n ≤ sumN g n
  | 0, _ => Int.le_refl _
  | n + 1, h => by
    have h1 := sumN_le (n := n) (fun i hi => h i (by omega))
    have h2 := h n (by omega)
    show sumN f n + f n ≤ sumN g n + g n
    omega
theorem sumN_const (c : Int) : ∀ n : Nat, sumN (fun _ => c) n = n * c
  | 0 => by simp [sumN]
  | n + 1 => by
    show sumN (fun _ => c) n + c = _
    rw [sumN_const c n, Int.natCast_add, Int.add_mul]
    simp
theorem sumN_single {f : Nat → Int} {i n : Nat} (hi : i < n) (h : ∀ k, k < n → 0 ≤ f k) : f i ≤ sumN f n := by
  have h1 := sumN_upd (f := f) (i := i) 0 hi
  have h2 : 0 ≤ sumN (fupd f i 0) n := sumN_nonneg (fun k hk => by
    by_cases e : k = i
    · rw [e, fupd_same]; exact Int.le_refl _
    · rw [fupd_other _ _ e]; exact h k hk)
  omega
theorem sumN_add (f g : Nat → Int) : ∀ n, sumN (fun i => f i + g i) n = sumN f n + sumN g n
  | 0 => rfl
  | n + 1 => by
    show sumN _ n + (f n + g n) = sumN f n + f n + (sumN g n + g n)
    rw [sumN_add f g n]; omega
theorem sumN_zero : ∀ n, sumN (fun _ => 0) n = 0
  | 0 => rfl
  | n + 1 => by show sumN _ n + 0 = 0; rw [sumN_zero n]; rfl

/-! ### Counts -/
def pos (x : Int) : Int := if 0 < x then 1 else 0
def many (x : Int) : Int := if 1 < x then 1 else 0
def cntP (held : Nat → Int) (nn : Nat) : Int := sumN (fun i => pos (held i)) nn
def cntM (held : Nat → Int) (nn : Nat) : Int := sumN (fun i => many (held i)) nn
theorem pos_01 (x : Int) : 0 ≤ pos x ∧ pos x ≤ 1 := by unfold pos; split <;> omega
theorem many_01 (x : Int) : 0 ≤ many x ∧ many x ≤ 1 := by unfold many; split <;> omega
theorem cntP_le (held : Nat → Int) (nn : Nat) : cntP held nn ≤ nn := by
  have := sumN_le (n := nn) (f := fun i => pos (held i)) (g := fun _ => 1) (fun i _ => (pos_01 _).2)
  rw [sumN_const] at this
  unfold cntP; omega
theorem cntM_le (held : Nat → Int) (nn : Nat) : cntM held nn ≤ nn := by
  have := sumN_le (n := nn) (f := fun i => many (held i)) (g := fun _ => 1) (fun i _ => (many_01 _).2)
  rw [sumN_const] at this
  unfold cntM; omega
theorem cntM_nonneg (held : Nat → Int) (nn : Nat) : 0 ≤ cntM held nn := sumN_nonneg fun _ _ => (many_01 _).1
theorem fun_upd (p : Int → Int) (held : Nat → Int) (i : Nat) (v : Int) : (fun k => p (fupd held i v k)) = fupd (fun k => p (held k)) i (p v) := by
  funext k
  unfold fupd
  split <;> rfl
theorem cnt_upd (p : Int → Int) (held : Nat → Int) {i nn : Nat} (v : Int) (hi : i < nn) : sumN (fun k => p (fupd held i v k)) nn = sumN (fun k => p (held k)) nn - p (held i) + p v := by
  rw [fun_upd, sumN_upd _ hi]

/-! ### Handing copies on -/
def handF (held : Nat → Int) (a b : Nat) : Nat → Int := fupd (fupd held a (held a - held a / 2)) b (held a / 2)
def handG (held : Nat → Int) (giv : Int) (a : Nat) : Int := giv - (if held a - held a / 2 = 1 then 1 else 0) + (if 1 < held a / 2 then 1 else 0)

/-- the copies of an object of more than one -/
structure HInv (nn : Nat) (copies : Int) (held : Nat → Int) (giv tr : Int) : Prop where
  nonneg : ∀ i, i < nn → 0 ≤ held i
  sum : sumN held nn = copies
  cP : cntP held nn = tr + 1
  cM : cntM held nn = giv
  t0 : 0 ≤ tr

theorem HInv.le {nn : Nat} {copies : Int} {held : Nat → Int} {giv tr : Int} (h : HInv nn copies held giv tr) {i : Nat} (hi : i < nn) : held i ≤ copies := by
  rw [← h.sum]
  exact sumN_single hi h.nonneg
theorem HInv.hand {nn : Nat} {copies : Int} {held : Nat → Int} {giv tr : Int} (h : HInv nn copies held giv tr) {a b : Nat} (ha : a < nn) (hb : b < nn) (h1 : 1 < held a) (h0 : held b = 0) : HInv nn copies (handF held a b) (handG held giv a) (tr + 1) := by
  have hab : b ≠ a := fun e => by rw [e] at h0; omega
  have e1 : fupd held a (held a - held a / 2) b = 0 := by rw [fupd_other _ _ hab]; exact h0
  refine ⟨fun i hi => ?_, ?_, ?_, ?_, by have := h.t0; omega⟩
  · unfold handF
    by_cases e : i = b
    · subst e; rw [fupd_same]; omega
    · rw [fupd_other _ _ e]
      by_cases e' : i = a
      · subst e'; rw [fupd_same]; omega
      · rw [fupd_other _ _ e']; exact h.nonneg i hi
  · unfold handF
    rw [sumN_upd _ hb, e1, sumN_upd _ ha, h.sum]; omega
  · unfold handF cntP
    rw [cnt_upd pos _ _ hb, e1, cnt_upd pos _ _ ha]
    have := h.cP
    unfold cntP at this
    rw [this]
    have p1 : pos (held a) = 1 := if_pos (by omega)
    have p2 : pos (held a - held a / 2) = 1 := if_pos (by omega)
    have p3 : pos (held a / 2) = 1 := if_pos (by omega)
    have p4 : pos 0 = 0 := if_neg (by omega)
    rw [p1, p2, p3, p4]; omega
  · unfold handF cntM handG
    rw [cnt_upd many _ _ hb, e1, cnt_upd many _ _ ha]
    have := h.cM
    unfold cntM at this
    rw [this]
    have p1 : many (held a) = 1 := if_pos h1
    have p4 : many 0 = 0 := if_neg (by omega)
    have p2 : many (held a - held a / 2) = 1 - (if held a - held a / 2 = 1 then 1 else 0) := by
      unfold many
      by_cases c : held a - held a / 2 = 1
      · rw [if_neg (by omega), if_pos c]; rfl
      · rw [if_pos (by omega), if_neg c]; rfl
    have p3 : many (held a / 2) = (if 1 < held a / 2 then 1 else 0) := rfl
    rw [p1, p2, p3, p4]; omega

/-! ### One pass -/
structure PS where
  moved : Bool
  held : Nat → Int
  giv : Int
  tr : Int
def passStep (a : Nat) (s : PS) (b : Int) : PS :=
  if b < a then s
  else if 1 < s.held a ∧ s.held b.toNat = 0 then ⟨true, handF s.held a b.toNat, handG s.held s.giv a, s.tr + 1⟩
  else if 1 < s.held b.toNat ∧ s.held a = 0 then ⟨true, handF s.held b.toNat a, handG s.held s.giv b.toNat, s.tr + 1⟩
  else s
def passRow (a : Nat) (l : List Int) (s : PS) : PS := l.foldl (passStep a) s
def passTo (L : Int → List Int) (s : PS) : Nat → PS
  | 0 => s
  | a + 1 => passRow a (L (a : Int)) (passTo L s a)
def passF (L : Int → List Int) (nn : Nat) (held : Nat → Int) (giv tr : Int) : PS :=
  if giv = 0 then ⟨false, held, giv, tr⟩ else passTo L ⟨false, held, giv, tr⟩ nn

/-- the lists name nodes -/
def InR (nn : Nat) (L : Int → List Int) : Prop := ∀ a b, b ∈ L a → 0 ≤ b ∧ b < nn

def PSInv (nn : Nat) (copies : Int) (s : PS) : Prop := HInv nn copies s.held s.giv s.tr
theorem passStep_inv {nn : Nat} {copies : Int} {s : PS} (h : PSInv nn copies s) {a : Nat} (ha : a < nn) {b : Int} (hb : 0 ≤ b ∧ b < nn) : PSInv nn copies (passStep a s b) := by
  unfold passStep
  split
  · exact h
  · split
    · rename_i c; exact HInv.hand h ha (by omega) c.1 c.2
    · split
      · rename_i c; exact HInv.hand h (by omega) ha c.1 c.2
      · exact h
/-- a pass moves something exactly as it counts transfers -/
def Grew (s s' : PS) : Prop := s.tr ≤ s'.tr ∧ (s'.moved = true → s.moved = true ∨ s.tr < s'.tr)
theorem Grew.refl (s : PS) : Grew s s := ⟨Int.le_refl _, fun h => Or.inl h⟩
theorem Grew.trans {a b c : PS} (h : Grew a b) (k : Grew b c) : Grew a c := by
  refine ⟨Int.le_trans h.1 k.1, fun hc => ?_⟩
  have := h.1
  have := k.1
  rcases k.2 hc with hb | hb
  · rcases h.2 hb with ha | ha
    · exact Or.inl ha
    · exact Or.inr (by omega)
  · exact Or.inr (by omega)
theorem passStep_grew (a : Nat) (s : PS) (b : Int) : Grew s (passStep a s b) := by
  unfold passStep
  split
  · exact Grew.refl s
  · split
    · exact ⟨by show s.tr ≤ s.tr + 1; omega, fun _ => Or.inr (by show s.tr < s.tr + 1; omega)⟩
    · split
      · exact ⟨by show s.tr ≤ s.tr + 1; omega, fun _ => Or.inr (by show s.tr < s.tr + 1; omega)⟩
      · exact Grew.refl s
theorem passRow_grew (a : Nat) : ∀ (l : List Int) (s : PS), Grew s (passRow a l s)
  | [], s => Grew.refl s
  | b :: l, s => (passStep_grew a s b).trans (passRow_grew a l (passStep a s b))
theorem passTo_grew (L : Int → List Int) (s : PS) : ∀ n, Grew s (passTo L s n)
  | 0 => Grew.refl s
  | n + 1 => (passTo_grew L s n).trans (passRow_grew n _ _)
theorem passRow_inv {nn : Nat} {copies : Int} {a : Nat} (ha : a < nn) : ∀ {l : List Int} {s : PS}, (∀ b ∈ l, 0 ≤ b ∧ b < (nn : Int)) → PSInv nn copies s → PSInv nn copies (passRow a l s)
  | [], _, _, h => h
  | b :: l, s, hl, h => passRow_inv (l := l) (s := passStep a s b) ha (fun x hx => hl x (List.mem_cons_of_mem _ hx)) (passStep_inv h ha (hl b List.mem_cons_self))
theorem passTo_inv {nn : Nat} {copies : Int} {L : Int → List Int} {s : PS} (hL : InR nn L) (h : PSInv nn copies s) : ∀ n, n ≤ nn → PSInv nn copies (passTo L s n)
  | 0, _ => h
  | n + 1, hn => passRow_inv (by omega) (fun b hb => hL _ b hb) (passTo_inv hL h n (by omega))
theorem passF_inv {nn : Nat} {copies : Int} {L : Int → List Int} {held : Nat → Int} {giv tr : Int} (hL : InR nn L) (h : HInv nn copies held giv tr) : PSInv nn copies (passF L nn held giv tr) := by
  unfold passF
  split
  · exact h
  · exact passTo_inv (s := ⟨false, held, giv, tr⟩) hL h nn (Nat.le_refl _)
theorem passF_grew (L : Int → List Int) (nn : Nat) (held : Nat → Int) (giv tr : Int) : tr ≤ (passF L nn held giv tr).tr ∧ ((passF L nn held giv tr).moved = true → tr < (passF L nn held giv tr).tr) := by
  unfold passF
  split
  · exact ⟨Int.le_refl _, fun h => by cases h⟩
  · have h := passTo_grew L ⟨false, held, giv, tr⟩ nn
    refine ⟨h.1, fun hm => ?_⟩
    rcases h.2 hm with h | h
    · cases h
    · exact h

/-- who holds a copy goes on holding one -/
def Keeps (held held' : Nat → Int) : Prop := ∀ i, 0 < held i → 0 < held' i
theorem passStep_keeps (a : Nat) (s : PS) (b : Int) : Keeps s.held (passStep a s b).held := by
  intro i hi
  have hand : ∀ x y : Nat, 1 < s.held x → s.held y = 0 → 0 < handF s.held x y i := by
    intro x y hx hy
    unfold handF
    by_cases e : i = y
    · subst e; rw [fupd_same]; omega
    · rw [fupd_other _ _ e]
      by_cases e' : i = x
      · subst e'; rw [fupd_same]; omega
      · rw [fupd_other _ _ e']; exact hi
  unfold passStep
  split
  · exact hi
  · split
    · rename_i c; exact hand _ _ c.1 c.2
    · split
      · rename_i c; exact hand _ _ c.1 c.2
      · exact hi
theorem passRow_keeps (a : Nat) : ∀ (l : List Int) (s : PS), Keeps s.held (passRow a l s).held
  | [], _ => fun _ h => h
  | b :: l, s => fun i h => passRow_keeps a l _ i (passStep_keeps a s b i h)
theorem passTo_keeps (L : Int → List Int) (s : PS) : ∀ n, Keeps s.held (passTo L s n).held
  | 0 => fun _ h => h
  | n + 1 => fun i h => passRow_keeps n _ _ i (passTo_keeps L s n i h)
theorem passF_keeps (L : Int → List Int) (nn : Nat) (held : Nat → Int) (giv tr : Int) : Keeps held (passF L nn held giv tr).held := by
  unfold passF
  split
  · exact fun _ h => h
  · exact passTo_keeps L ⟨false, held, giv, tr⟩ nn

/-- does q, or a node linked with it, hold a copy -/
def servesF (L : Int → List Int) (held : Nat → Int) (q : Nat) : Bool := decide (0 < held q) || (L (q : Int)).any (fun b => decide (0 < held b.toNat))
end Go.Proofs.Qxb6612920a.spray
