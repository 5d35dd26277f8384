import Derived.Test.Qxb6612920aTally
namespace Go.Proofs.Qxb6612920a.spray

/-! ### The links, span by span (plain) -/
structure LInv (nn : Nat) (L : Int → List Int) : Prop where
  asc : ∀ a, Asc (L a)
  inr : InR nn L
  sym : ∀ a b, b ∈ L a → a ∈ L b

theorem asc_len {nn : Nat} : ∀ {l : List Int} {m : Int}, Asc l → (∀ b ∈ l, m ≤ b ∧ b < nn) → (l.length : Int) ≤ nn - m ∨ l = []
  | [], _, _, _ => Or.inr rfl
  | a :: l, m, h, hb => by
    left
    have h1 := hb a List.mem_cons_self
    rcases asc_len (l := l) (m := a + 1) (asc_tail h) (fun b hb' => ⟨by have := asc_head h b hb'; omega, (hb b (List.mem_cons_of_mem _ hb')).2⟩) with h2 | h2
    · simp only [List.length_cons]; omega
    · rw [h2]; simp only [List.length_cons, List.length_nil]; omega
theorem LInv.len {nn : Nat} {L : Int → List Int} (h : LInv nn L) (a : Int) : (L a).length ≤ nn := by
  rcases asc_len (m := 0) (h.asc a) (fun b hb => h.inr a b hb) with h1 | h1
  · omega
  · rw [h1]; simp

theorem mem_upd {L : Int → List Int} {a x y : Int} {zs : List Int} : y ∈ upd L a zs x ↔ (x = a ∧ y ∈ zs) ∨ (x ≠ a ∧ y ∈ L x) := by
  unfold upd
  by_cases h : x = a
  · simp [h]
  · simp [h]

theorem LInv.apply {nn : Nat} {L : Int → List Int} (h : LInv nn L) {a b : Int} (ha : 0 ≤ a) (hab : a < b) (hb : b < nn) : LInv nn (applyF L a b (!decide (b ∈ L a))) := by
  have hne : b ≠ a := by omega
  by_cases hm : b ∈ L a
  · have e : (!decide (b ∈ L a)) = false := by simp [hm]
    rw [e]
    have hm' := h.sym a b hm
    have e2 : upd L a (remF (L a) b) b = L b := by unfold upd; rw [if_neg hne]
    have key : ∀ x y, y ∈ applyF L a b false x ↔ y ∈ L x ∧ ¬ (x = a ∧ y = b) ∧ ¬ (x = b ∧ y = a) := by
      intro x y
      unfold applyF
      simp only [Bool.false_eq_true, if_false]
      rw [e2, mem_upd, mem_upd, mem_remF (h.asc b) hm', mem_remF (h.asc a) hm]
      by_cases h1 : x = b
      · subst h1; simp [hne]
      · by_cases h2 : x = a
        · subst h2; simp [hne.symm]
        · simp [h1, h2]
    refine ⟨fun x => ?_, fun x y hy => h.inr x y ((key x y).1 hy).1, fun x y hy => ?_⟩
    · unfold applyF
      simp only [Bool.false_eq_true, if_false]
      rw [e2]
      unfold upd
      split
      · exact asc_remF _ (h.asc _)
      · split
        · exact asc_remF _ (h.asc _)
        · exact h.asc _
    · have := (key x y).1 hy
      exact (key y x).2 ⟨h.sym x y this.1, fun c => this.2.2 ⟨c.2, c.1⟩, fun c => this.2.1 ⟨c.2, c.1⟩⟩
  · have e : (!decide (b ∈ L a)) = true := by simp [hm]
    rw [e]
    have hm' : a ∉ L b := fun c => hm (h.sym b a c)
    have e2 : upd L a (insF (L a) b) b = L b := by unfold upd; rw [if_neg hne]
    have key : ∀ x y, y ∈ applyF L a b true x ↔ y ∈ L x ∨ (x = a ∧ y = b) ∨ (x = b ∧ y = a) := by
      intro x y
      unfold applyF
      simp only [if_true]
      rw [e2, mem_upd, mem_upd, mem_insF, mem_insF]
      by_cases h1 : x = b
      · subst h1; simp [hne, Or.comm]
      · by_cases h2 : x = a
        · subst h2; simp [hne.symm, Or.comm]
        · simp [h1, h2]
    refine ⟨fun x => ?_, fun x y hy => ?_, fun x y hy => ?_⟩
    · unfold applyF
      simp only [if_true]
      rw [e2]
      unfold upd
      split
      · exact asc_insF (h.asc _) hm'
      · split
        · exact asc_insF (h.asc _) hm
        · exact h.asc _
    · rcases (key x y).1 hy with c | ⟨_, c⟩ | ⟨_, c⟩
      · exact h.inr x y c
      · subst c; omega
      · subst c; omega
    · rcases (key x y).1 hy with c | ⟨c1, c2⟩ | ⟨c1, c2⟩
      · exact (key y x).2 (Or.inl (h.sym x y c))
      · exact (key y x).2 (Or.inr (Or.inr ⟨c2, c1⟩))
      · exact (key y x).2 (Or.inr (Or.inl ⟨c2, c1⟩))

def linkF (L : Int → List Int) (p : Int × Int) : Int → List Int := applyF L p.1 p.2 (!decide (p.2 ∈ L p.1))
def linkTo (L : Int → List Int) (ps : List (Int × Int)) : Nat → Int → List Int
  | 0 => L
  | k + 1 => linkF (linkTo L ps k) (ps.getD k (0, 0))
def GoodP (nn : Nat) (p : Int × Int) : Prop := 0 ≤ p.1 ∧ p.1 < p.2 ∧ p.2 < nn
theorem linkTo_inv {nn : Nat} {L : Int → List Int} {ps : List (Int × Int)} (h : LInv nn L) (hp : ∀ k, k < ps.length → GoodP nn (ps.getD k (0, 0))) : ∀ k, k ≤ ps.length → LInv nn (linkTo L ps k)
  | 0, _ => h
  | k + 1, hk => by
    have g := hp k (by omega)
    exact (linkTo_inv h hp k (by omega)).apply g.1 g.2.1 g.2.2

/-! ### One object's run (plain) -/
structure Cx where
  nn : Nat
  copies : Int
  qS : List Int
  qT : List Int
  ls : List Int
  af : Int
  ae : Int
  an : Int
  first : List Int
  chg : List (List (Int × Int))

def never : Int := 9223372036854775807
def Cx.Ls (c : Cx) : Nat → Int → List Int
  | 0 => fun _ => []
  | s + 1 => linkTo (c.Ls s) (c.chg.getD s []) (c.chg.getD s []).length
def Cx.start (c : Cx) (s : Nat) : Int := if s < c.first.length then c.first.getD s 0 else never

structure St where
  held : Nat → Int
  giv : Int
  tr : Int
  since : Nat → Int
  served : Nat → Bool
  pc : Nat → Nat → Int

/-- what the pair (i, this object) adds at latency k when it is tallied up to 'to' -/
def Cx.adds (c : Cx) (pt : Int) (s : St) (i : Nat) (to : Int) (k : Nat) : Int :=
  addF c.af c.ae c.an (c.qT.getD i 0 * pt) (s.since i) to (if s.served i then s.since i else to) (c.ls.getD k 0)
def Cx.tally (c : Cx) (pt : Int) (s : St) (i : Nat) (to : Int) : St :=
  { s with pc := fupd s.pc i (fun k => s.pc i k + c.adds pt s i to k) }
def Cx.turn (c : Cx) (pt : Int) (s : St) (i : Nat) (k : Int) (now : Bool) : St :=
  { c.tally pt s i k with since := fupd s.since i k, served := fupd s.served i now }
def Cx.serve (c : Cx) (pt : Int) (L : Int → List Int) (k : Int) (s : St) (i : Nat) : St :=
  if servesF L s.held (c.qS.getD i 0).toNat = s.served i then s else c.turn pt s i k (servesF L s.held (c.qS.getD i 0).toNat)
def Cx.serveTo (c : Cx) (pt : Int) (L : Int → List Int) (k : Int) (s : St) : Nat → St
  | 0 => s
  | i + 1 => c.serve pt L k (c.serveTo pt L k s i) i
def Cx.passed (c : Cx) (L : Int → List Int) (s : St) : St :=
  { s with held := (passF L c.nn s.held s.giv s.tr).held, giv := (passF L c.nn s.held s.giv s.tr).giv, tr := (passF L c.nn s.held s.giv s.tr).tr }
def Cx.sample (c : Cx) (pt : Int) (L : Int → List Int) (k : Int) (s : St) : St := c.serveTo pt L k (c.passed L s) c.qS.length
def Cx.span (c : Cx) (pt : Int) (L : Int → List Int) (en : Int) : Nat → Int → St → St
  | 0, _, s => s
  | m + 1, k, s => if (passF L c.nn s.held s.giv s.tr).moved = false ∨ k + 1 = en then c.sample pt L k s else c.span pt L en m (k + 1) (c.sample pt L k s)
def Cx.init (c : Cx) (p : Nat) : St :=
  { held := fupd (fun _ => 0) p c.copies, giv := if 1 < c.copies then 1 else 0, tr := 0, since := fun _ => 0, served := fun _ => false, pc := fun _ _ => 0 }
def Cx.runTo (c : Cx) (p : Nat) (pt : Int) : Nat → St
  | 0 => c.init p
  | s + 1 => c.span pt (c.Ls (s + 1)) (c.start (s + 1)) (c.nn + 1) (c.first.getD s 0) (c.runTo p pt s)
def Cx.finTo (c : Cx) (pt : Int) (s : St) : Nat → St
  | 0 => s
  | i + 1 => if (c.finTo pt s i).served i then c.tally pt (c.finTo pt s i) i never else c.finTo pt s i
def Cx.fin (c : Cx) (p : Nat) (pt : Int) : St := c.finTo pt (c.runTo p pt c.first.length) c.qS.length
end Go.Proofs.Qxb6612920a.spray
