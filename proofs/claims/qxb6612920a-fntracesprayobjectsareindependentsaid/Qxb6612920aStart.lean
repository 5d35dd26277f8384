import Derived.Test.Qxb6612920aGlob
import Derived.Deep.Light
namespace Go.Proofs.Qxb6612920a.spray
open Go.RowKit Go.PlainAid
theorem start_any (c : Cx) (gb N : Nat) (fv : Value) (s : Nat) (w : World) (h3 : w.cell? ⟨gb, 3, none⟩ = some fv) (hf : RowAt w N .i64 fv c.first) :
    Calls Try.prog 20 #[.pointer (some ⟨gb, 0, none⟩), .int .i64 s] w fun e w' => e = .returned (.int .i64 (c.start s)) ∧ w' = w := by
  by_cases hs : s < c.first.length
  · have e : c.start s = c.first.getD s 0 := if_pos hs
    obtain ⟨g, cap, rfl, h1, h2, h4⟩ := hf.at hs
    have k1 : (s : Int) < (c.first.length : Int) := by omega
    have k2 : (0 : Int) ≤ (s : Int) := by omega
    rw [e]
    generalize c.first.getD s 0 = x at *
    clear e
    go_enter Try.func20, Try.ntmps20
    go_wp2_with fail
    go_ret
    exact ⟨rfl, rfl⟩
  · have e : c.start s = 9223372036854775807 := if_neg hs
    obtain ⟨p, cap, rfl, _⟩ := hf
    have k1 : (c.first.length : Int) ≤ (s : Int) := by omega
    rw [e]
    clear e
    go_enter Try.func20, Try.ntmps20
    go_wp2_with fail
    go_ret
    exact ⟨rfl, rfl⟩
/-- a row of pairs -/
def PairsAt (w : World) (B : Nat) (v : Value) (ps : List (Int × Int)) : Prop :=
  ∃ p cap, v = .slice p ps.length cap ∧ (ps = [] ∨ ∃ g, p = some ⟨g, 0, none⟩ ∧ g < B ∧ g < w.heap.size ∧ ∀ i, i < ps.length → w.cell? ⟨g, i * 2, none⟩ = some (.int .i32 (ps.getD i (0, 0)).1) ∧ w.cell? ⟨g, i * 2 + 1, none⟩ = some (.int .i32 (ps.getD i (0, 0)).2))
/-- the rows of the changes -/
def ChgAt (w : World) (B : Nat) (v : Value) (cs : List (List (Int × Int))) : Prop :=
  ∃ p cap, v = .slice p cs.length cap ∧ (cs = [] ∨ ∃ g, p = some ⟨g, 0, none⟩ ∧ g < B ∧ g < w.heap.size ∧ ∀ s, s < cs.length → ∃ rv, w.cell? ⟨g, s, none⟩ = some rv ∧ PairsAt w B rv (cs.getD s []))
def cntC (c : Cx) : Nat → Nat
  | 0 => 0
  | s + 1 => cntC c s + (c.chg.getD s []).length
theorem cntC_mono (c : Cx) {s t : Nat} (h : s ≤ t) : cntC c s ≤ cntC c t := by
  induction t with
  | zero => have : s = 0 := by omega
            rw [this]; exact Nat.le_refl _
  | succ t ih =>
    by_cases e : s = t + 1
    · rw [e]; exact Nat.le_refl _
    · have := ih (by omega)
      show cntC c s ≤ cntC c t + _
      omega

end Go.Proofs.Qxb6612920a.spray
